import JvmDerived
import JvmDerived.Pilot.@@N@@Statement
import JvmDerived.Pilot.@@N@@Code
set_option linter.unusedVariables false
set_option linter.unusedSimpArgs false
namespace Jvm.Pilot.@@N@@
open Jvm Jvm.ClassFile Sem Op Lib Jvm.Free Jvm.Stand Jvm.LawKit Jvm.RoadKit Bundle Jvm.Pilot.@@N@@.Jvm.D
/-! A walk as one goal: from the state U the run comes to an end that answers Q. -/
section Kit
def Go (p : Program) (e : Env) (below : List Frame) (s : State) (Q : Option Value → Heap → List Loc → Prop) (C N : Nat) (U : State) : Prop :=
  ∃ s₂ o, Steps p.tables e below U s₂ ∧ s₂.status = .running ∧ Ended s₂ below o ∧ ∃ v L, o = .returned v ∧ Q v s₂.heap L ∧ FrameEnd s o s₂ L C N
variable {p : Program} {l : Launch} {e : Env} {R : Room} {s : State} {m : MethodId} {args : Array Value} {below : List Frame} {meth : Method} {c : Code} {T : State} {locs : List Loc} {cells slots : Nat} {Q : Option Value → Heap → List Loc → Prop} {C N : Nat}
abbrev gO {p : Program} {e : Env} {below : List Frame} {s : State} {Q : Option Value → Heap → List Loc → Prop} {C N : Nat} (U : State) : Prop := Go p e below s Q C N U
abbrev tF (T : State) (m : MethodId) (pc : Nat) (ls : Array Slot) (st : List Value) : State := T.setTop (mkF m pc ls st)
theorem gob {U U' : State} (h : ∀ t, Steps p.tables e below U' t → Steps p.tables e below U t) (k : Go p e below s Q C N U') : Go p e below s Q C N U := by
  obtain ⟨s₂, o, h1, r⟩ := k
  exact ⟨s₂, o, h _ h1, r⟩
theorem go {U U' : State} (h : ∀ {t}, Steps p.tables e below U' t → Steps p.tables e below U t) (k : Go p e below s Q C N U') : Go p e below s Q C N U := gob (fun _ => h) k
theorem goZ (X : Stand p l e R s m args below meth c T locs cells slots) (hx : p.tables.exec = Jvm.exec) (hlk : meth.locks = false) {t : FieldType} {pc : Nat} {Ls : Array Slot} {z z' : Int32} {rest : List Value} (hret : meth.sig.returnType = some t) (ht : t = .boolean ∨ t = .byte ∨ t = .char ∨ t = .short) (hd : decode c.code pc = .ok (.ireturn, 1)) (hz : nar t z = z') (hq : Q (some (.int z')) T.heap locs) (hc : cells ≤ C) (hn : slots ≤ N) :
    Go p e below s Q C N (T.setTop (mkF m pc Ls (.int z :: rest))) := by
  subst hz
  obtain ⟨fs, hr, hrun, hended, hW, hsame⟩ := X.leave (v := some (.int (nar t z))) (fun h => by rw [hret] at h; cases h) hlk
  exact ⟨_, _, retN X hx hret ht hd hr, hrun, hended, _, _, rfl, hq, ⟨_, rfl⟩, hW, hsame.mono hc hn⟩
theorem goI (X : Stand p l e R s m args below meth c T locs cells slots) (hx : p.tables.exec = Jvm.exec) (hlk : meth.locks = false) {pc : Nat} {Ls : Array Slot} {z : Int32} {rest : List Value} (hret : meth.sig.returnType = some .int) (hd : decode c.code pc = .ok (.ireturn, 1)) (hq : Q (some (.int z)) T.heap locs) (hc : cells ≤ C) (hn : slots ≤ N) :
    Go p e below s Q C N (T.setTop (mkF m pc Ls (.int z :: rest))) := by
  obtain ⟨fs, hr, hrun, hended, hW, hsame⟩ := X.leave (v := some (.int z)) (fun h => by rw [hret] at h; cases h) hlk
  exact ⟨_, _, retOut X hx hret rfl (Or.inl ⟨rfl, Or.inl rfl, z, rfl⟩) hd hr, hrun, hended, _, _, rfl, hq, ⟨_, rfl⟩, hW, hsame.mono hc hn⟩
theorem goJ (X : Stand p l e R s m args below meth c T locs cells slots) (hx : p.tables.exec = Jvm.exec) (hlk : meth.locks = false) {pc : Nat} {Ls : Array Slot} {z : Int64} {rest : List Value} (hret : meth.sig.returnType = some .long) (hd : decode c.code pc = .ok (.lreturn, 1)) (hq : Q (some (.long z)) T.heap locs) (hc : cells ≤ C) (hn : slots ≤ N) :
    Go p e below s Q C N (T.setTop (mkF m pc Ls (.long z :: rest))) := by
  obtain ⟨fs, hr, hrun, hended, hW, hsame⟩ := X.leave (v := some (.long z)) (fun h => by rw [hret] at h; cases h) hlk
  exact ⟨_, _, retOut X hx hret rfl (Or.inr (Or.inl ⟨rfl, rfl, z, rfl⟩)) hd hr, hrun, hended, _, _, rfl, hq, ⟨_, rfl⟩, hW, hsame.mono hc hn⟩
theorem goD (X : Stand p l e R s m args below meth c T locs cells slots) (hx : p.tables.exec = Jvm.exec) (hlk : meth.locks = false) {pc : Nat} {Ls : Array Slot} {z : UInt64} {rest : List Value} (hret : meth.sig.returnType = some .double) (hd : decode c.code pc = .ok (.dreturn, 1)) (hq : Q (some (.double z)) T.heap locs) (hc : cells ≤ C) (hn : slots ≤ N) :
    Go p e below s Q C N (T.setTop (mkF m pc Ls (.double z :: rest))) := by
  obtain ⟨fs, hr, hrun, hended, hW, hsame⟩ := X.leave (v := some (.double z)) (fun h => by rw [hret] at h; cases h) hlk
  exact ⟨_, _, retOut X hx hret rfl (Or.inr (Or.inr (Or.inl ⟨rfl, rfl, z, rfl⟩))) hd hr, hrun, hended, _, _, rfl, hq, ⟨_, rfl⟩, hW, hsame.mono hc hn⟩
theorem goA (X : Stand p l e R s m args below meth c T locs cells slots) (hx : p.tables.exec = Jvm.exec) (hlk : meth.locks = false) {t : FieldType} {pc : Nat} {Ls : Array Slot} {z : Value} {rest : List Value} (hret : meth.sig.returnType = some t) (ht : t.isReference = true) (hv : z.isRef = true) (hd : decode c.code pc = .ok (.areturn, 1)) (hq : Q (some z) T.heap locs) (hc : cells ≤ C) (hn : slots ≤ N) :
    Go p e below s Q C N (T.setTop (mkF m pc Ls (z :: rest))) := by
  obtain ⟨fs, hr, hrun, hended, hW, hsame⟩ := X.leave (v := some z) (fun h => by rw [hret] at h; cases h) hlk
  have hnw : narrow t z = z := by cases z <;> cases t <;> first | rfl | (simp [Value.isRef] at hv) | (simp [FieldType.isReference] at ht)
  exact ⟨_, _, retOut X hx hret hnw (Or.inr (Or.inr (Or.inr (Or.inr ⟨rfl, ht, hv⟩)))) hd hr, hrun, hended, _, _, rfl, hq, ⟨_, rfl⟩, hW, hsame.mono hc hn⟩
theorem goV (X : Stand p l e R s m args below meth c T locs cells slots) (hx : p.tables.exec = Jvm.exec) (hlk : meth.locks = false) {pc : Nat} {Ls : Array Slot} (hret : meth.sig.returnType = none) (hd : decode c.code pc = .ok (.return_, 1)) (hq : Q none T.heap locs) (hc : cells ≤ C) (hn : slots ≤ N) :
    Go p e below s Q C N (T.setTop (mkF m pc Ls [])) := by
  obtain ⟨fs, hr, hrun, hended, hW, hsame⟩ := X.leave (v := none) (fun _ => rfl) hlk
  exact ⟨_, _, X.returnOut hx hret hd hr, hrun, hended, _, _, rfl, hq, ⟨_, rfl⟩, hW, hsame.mono hc hn⟩
theorem lremM {g : JFrame} {target : State} (X : Stand p l e R s m args below meth c T locs cells slots) (hx : p.tables.exec = Jvm.exec) (hg : g.method = m) {x y : Int64} {rest : List Value} (hd : decode c.code g.pc = .ok (.lrem, 1)) (hs : g.stack = .long y :: .long x :: rest) (hy : y ≠ 0)
    (hr : Steps p.tables e below (T.setTop { g with pc := g.pc + 1, stack := .long (x % y) :: rest }) target) : Steps p.tables e below (T.setTop g) target :=
  XS.lrem X.here hx hg hd hs hy (by rw [lrem_mod x y]; exact hr)
theorem own_lrem (x y : Int64) (d : Int) (hy : y.toInt = d) : (0 ≤ x.toInt → (x % y).toInt = x.toInt % d) ∧ (x.toInt < 0 → (x % y).toInt = -((-x.toInt) % d)) := by rw [Int64.toInt_mod, hy]; exact tr _ _
theorem own_lxor (x y : Int64) (hy : 0 ≤ y.toInt) : ((x ^^^ y).toInt < 0 ↔ x.toInt < 0) := by
  have h1 : (x ^^^ y).toBitVec.msb = (x.toBitVec.msb ^^ y.toBitVec.msb) := by rw [Int64.toBitVec_xor, BitVec.msb_xor]
  have h2 := BitVec.msb_eq_toInt (x := (x ^^^ y).toBitVec)
  have h3 := BitVec.msb_eq_toInt (x := x.toBitVec)
  have h4 := BitVec.msb_eq_toInt (x := y.toBitVec)
  have e1 : (x ^^^ y).toBitVec.toInt = (x ^^^ y).toInt := rfl
  have e2 : x.toBitVec.toInt = x.toInt := rfl
  have e3 : y.toBitVec.toInt = y.toInt := rfl
  rw [e1] at h2
  rw [e2] at h3
  rw [e3] at h4
  have h5 : ¬ y.toInt < 0 := by omega
  rw [h2, h3, h4, decide_eq_false h5, Bool.xor_false] at h1
  simpa using h1
theorem pop2L {g : JFrame} {target : State} (X : Stand p l e R s m args below meth c T locs cells slots) (hx : p.tables.exec = Jvm.exec) (hg : g.method = m) {x : Int64} {rest : List Value} (hd : decode c.code g.pc = .ok (.pop2, 1)) (hs : g.stack = .long x :: rest)
    (hr : Steps p.tables e below (T.setTop { g with pc := g.pc + 1, stack := rest }) target) : Steps p.tables e below (T.setTop g) target := by
  subst hg
  jvm_step X.here [X.here.top, hx, hd, hs, Value.category]
  exact hr
theorem own_staKeep {Z : State} {h h' : Heap} {C n d : String} {v : Value} {ws : List Addr} (F : Sta Z h C n d v) (K : Keep h h' ws) (hn : ∀ x ∈ ws, ∀ cell : Cell, h[x]? = some cell → cell.vm.isStatics = false) : Sta Z h' C n d v := by
  obtain ⟨cf, i, k, f, st, cell, h1, h2, h3, h4, h5, h6, h7⟩ := F
  exact ⟨cf, i, k, f, st, cell, h1, h2, h3, h4, K.2.1 _ _ h5 (fun q => by have q2 := hn _ q _ h5; rw [h6] at q2; cases q2), h6, h7⟩
theorem own_lmulR (x y : Int64) (d : Int) (hy : y.toInt = d) : ((x * y).toInt - x.toInt * d) % 18446744073709551616 = 0 := by rw [← hy]; exact c_lmul x y
theorem own_lmulL (x y : Int64) (d : Int) (hx : x.toInt = d) : ((x * y).toInt - d * y.toInt) % 18446744073709551616 = 0 := by rw [← hx]; exact c_lmul x y
theorem own_imulR (x y : Int32) (d : Int) (hy : y.toInt = d) : ((x * y).toInt - x.toInt * d) % 4294967296 = 0 := by rw [← hy]; exact c_imul x y
theorem own_imulL (x y : Int32) (d : Int) (hx : x.toInt = d) : ((x * y).toInt - d * y.toInt) % 4294967296 = 0 := by rw [← hx]; exact c_imul x y
theorem castX {k' n' : Nat} (X : Stand p l e R s m args below meth c T locs cells slots) (h1 : cells = k') (h2 : slots = n') : Stand p l e R s m args below meth c T locs k' n' := by
  subst h1
  subst h2
  exact X
theorem hW {Z : State} {a0 : Array Value} (hw : ∀ d ∈ tables_1, d.before a0 Z = true) (i : Nat) {d : Jvm.Cond} (h : tables_1[i]? = some d) : d.before a0 Z = true := hw _ (List.mem_of_getElem? h)
end Kit
abbrev s_0 : String := "java/lang/Object"
abbrev s_1 : String := "java/util/ArrayList"
abbrev s_2 : String := "java/util/List"
abbrev s_3 : String := "[Ljava/lang/Object;"
abbrev s_4 : String := "java/lang/Integer"
abbrev s_5 : String := "com/example/hot_potato/hotpotato/Census"
abbrev s_6 : String := "java/util/ImmutableCollections$ListItr"
abbrev s_7 : String := "java/util/Map"
abbrev s_8 : String := "elementData"
abbrev s_9 : String := "java/util/AbstractList"
abbrev s_10 : String := "com/example/hot_potato/hotpotato/Message$Probe"
abbrev s_11 : String := "Ljava/util/List;"
abbrev s_12 : String := "modCount"
abbrev s_13 : String := "java/util/ImmutableCollections$List12"
abbrev s_14 : String := "java/util/TreeMap"
abbrev s_15 : String := "com/example/hot_potato/hotpotato/Message$Probe$Sighting"
abbrev s_16 : String := "java/util/ImmutableCollections$ListN"
abbrev s_17 : String := "Ljava/lang/Object;"
abbrev s_18 : String := "java/util/ImmutableCollections"
abbrev s_19 : String := "java/util/ArrayList$Itr"
abbrev s_20 : String := "elements"
abbrev s_21 : String := "com/example/hot_potato/hotpotato/Message$Probe$Found"
abbrev s_22 : String := "comparator"
abbrev s_23 : String := "Ljava/util/Comparator;"
abbrev s_24 : String := "Ljava/util/TreeMap$Entry;"
abbrev s_25 : String := "Ljava/util/Map;"
abbrev s_26 : String := "EMPTY_LIST"
abbrev s_27 : String := "Ljava/util/ImmutableCollections$ListN;"
abbrev s_28 : String := "DEFAULTCAPACITY_EMPTY_ELEMENTDATA"
abbrev s_29 : String := "allowNulls"
abbrev s_30 : String := "java/util/Arrays"
abbrev s_31 : String := "java/lang/Integer$IntegerCache"
abbrev s_32 : String := "java/util/Comparator"
abbrev s_33 : String := "isListIterator"
abbrev s_34 : String := "java/lang/Math"
abbrev s_35 : String := "java/util/TreeMap$Entry"
abbrev s_36 : String := "learnedMidRound"
abbrev s_37 : String := "upToDateFrom"
abbrev s_38 : String := "visitedBefore"
abbrev s_39 : String := "Ljava/util/ArrayList;"
abbrev s_40 : String := "[Ljava/lang/Integer;"
abbrev s_41 : String := "java/util/AbstractCollection"
abbrev s_42 : String := "com/example/hot_potato/hotpotato/CensusCompletePinLaw"
abbrev s_43 : String := "expectedModCount"
abbrev s_44 : String := "java/util/Iterator"
abbrev s_45 : String := "java/util/ImmutableCollections$AbstractImmutableList"
abbrev s_46 : String := "[Lcom/example/hot_potato/hotpotato/Message$Probe$Sighting;"
theorem gaN {p : Program} {l : Launch} {e : Env} {R : Room} {s : State} {m : MethodId} {args : Array Value} {below : List Frame} {meth : Method} {c : Code} {T : State} {locs : List Loc} {cells slots : Nat} {Q : Option Value → Heap → List Loc → Prop} {C N : Nat} {g : JFrame} {k : Fin 4} {v : Value} (X : Stand p l e R s m args below meth c T locs cells slots) (hx : p.tables.exec = Jvm.exec) (hd : decode c.code g.pc = .ok (.aload_n k, 1)) (hl : g.locals[k.val]? = some (.val v)) (hv : v.isRef = true) (k0 : Go p e below s Q C N (T.setTop { g with pc := g.pc + 1, stack := v :: g.stack })) (hg : g.method = m := by rfl) : Go p e below s Q C N (T.setTop g) := go (XS.aloadN X.here hx hg hd hl hv) k0
theorem gaM {p : Program} {l : Launch} {e : Env} {R : Room} {s : State} {m : MethodId} {args : Array Value} {below : List Frame} {meth : Method} {c : Code} {T : State} {locs : List Loc} {cells slots : Nat} {Q : Option Value → Heap → List Loc → Prop} {C N : Nat} {g : JFrame} {k : Nat} {v : Value} (X : Stand p l e R s m args below meth c T locs cells slots) (hx : p.tables.exec = Jvm.exec) (hd : decode c.code g.pc = .ok (.aload k, 2)) (hl : g.locals[k]? = some (.val v)) (hv : v.isRef = true) (k0 : Go p e below s Q C N (T.setTop { g with pc := g.pc + 2, stack := v :: g.stack })) (hg : g.method = m := by rfl) : Go p e below s Q C N (T.setTop g) := go (XS.aload X.here hx hg hd hl hv) k0
theorem giN {p : Program} {l : Launch} {e : Env} {R : Room} {s : State} {m : MethodId} {args : Array Value} {below : List Frame} {meth : Method} {c : Code} {T : State} {locs : List Loc} {cells slots : Nat} {Q : Option Value → Heap → List Loc → Prop} {C N : Nat} {g : JFrame} {k : Fin 4} {v : Int32} (X : Stand p l e R s m args below meth c T locs cells slots) (hx : p.tables.exec = Jvm.exec) (hd : decode c.code g.pc = .ok (.iload_n k, 1)) (hl : g.locals[k.val]? = some (.val (.int v))) (k0 : Go p e below s Q C N (T.setTop { g with pc := g.pc + 1, stack := .int v :: g.stack })) (hg : g.method = m := by rfl) : Go p e below s Q C N (T.setTop g) := go (XS.iloadN X.here hx hg hd hl) k0
theorem giM {p : Program} {l : Launch} {e : Env} {R : Room} {s : State} {m : MethodId} {args : Array Value} {below : List Frame} {meth : Method} {c : Code} {T : State} {locs : List Loc} {cells slots : Nat} {Q : Option Value → Heap → List Loc → Prop} {C N : Nat} {g : JFrame} {k : Nat} {v : Int32} (X : Stand p l e R s m args below meth c T locs cells slots) (hx : p.tables.exec = Jvm.exec) (hd : decode c.code g.pc = .ok (.iload k, 2)) (hl : g.locals[k]? = some (.val (.int v))) (k0 : Go p e below s Q C N (T.setTop { g with pc := g.pc + 2, stack := .int v :: g.stack })) (hg : g.method = m := by rfl) : Go p e below s Q C N (T.setTop g) := go (XS.iload X.here hx hg hd hl) k0
theorem giC {p : Program} {l : Launch} {e : Env} {R : Room} {s : State} {m : MethodId} {args : Array Value} {below : List Frame} {meth : Method} {c : Code} {T : State} {locs : List Loc} {cells slots : Nat} {Q : Option Value → Heap → List Loc → Prop} {C N : Nat} {g : JFrame} {i : Int} (X : Stand p l e R s m args below meth c T locs cells slots) (hx : p.tables.exec = Jvm.exec) (hd : decode c.code g.pc = .ok (.iconst i, 1)) (k0 : Go p e below s Q C N (T.setTop { g with pc := g.pc + 1, stack := .int (Int32.ofInt i) :: g.stack })) (hg : g.method = m := by rfl) : Go p e below s Q C N (T.setTop g) := go (XS.iconst X.here hx hg hd) k0
abbrev Mt {Z : State} {a0 : Array Value} (_ : ∀ d ∈ tables_1, d.before a0 Z = true) (l : Launch) (y : MethodName) (w : Jvm.Cond) (ws : List Jvm.Cond) (R : Room) (A : Array Value) (h0 : Heap) (Q : Option Value → Heap → List Loc → Prop) : Prop := MetFree l y (head1 (w :: ws) R) (fun a U => a = A ∧ Z.Warmed39 U.vm ∧ U.heap = h0) (fun _ _ _ _ _ => True) (fun _ U o U' => ∃ v L, o = .returned v ∧ Q v U'.heap L ∧ FrameEnd U o U' L R.cells R.slots)
abbrev tb (i : Nat) : Jvm.Cond := tables_1.getD i .tt
theorem hU {Z : State} {a0 : Array Value} (hw : ∀ d ∈ tables_1, d.before a0 Z = true) (i : Nat) : (tb i).before a0 Z = true := by
  unfold tb
  rw [List.getD_eq_getElem?_getD]
  cases h : tables_1[i]? with
  | none => rfl
  | some d => exact hw d (List.mem_of_getElem? h)
abbrev gt (l : List (Nat × Instr × Nat)) (i : Nat) : Nat × Instr × Nat := l.getD i (0, .nop, 0)
theorem mvMN {Z s : State} {a0 args : Array Value} {own host : String} {index : Nat} {x : MethodName} (hZ : Z.Warmed39 s.vm) (w : (Cond.methodLinkNest own index x host).before a0 Z = true) : (Cond.methodLinkNest own index x host).before args s = true := (Cond.methodLinkNest_wide hZ w :)
theorem clB {p : Program} {l : Launch} {e : Env} {R : Room} {s : State} {m : MethodId} {args : Array Value} {below : List Frame} {meth : Method} {c : Code} {T : State} {locs : List Loc} {cells slots : Nat} (X : Stand p l e R s m args below meth c T locs cells slots) {Q : Option Value → Heap → List Loc → Prop} {a b : Nat} {s₀ : State} {fr : Option Value → JFrame}
    (h : ∃ (v : Option Value) (vm₁ : Vm) (B : Pt), s.WarmedH vm₁ ∧ Stand p l e R s m args below meth c B.U B.locs B.cells B.slots ∧ (∃ L, Q v B.U.heap L ∧ B.locs = locs ++ L ∧ B.cells = cells + a ∧ B.slots = slots + b) ∧ Steps p.tables e below s₀ (B.U.setTop (fr v))) {k n : Nat} (hk : cells + a = k) (hn : slots + b = n) :
    ∃ (v : Option Value) (T' : State) (L : List Loc), Stand p l e R s m args below meth c T' (locs ++ L) k n ∧ Q v T'.heap L ∧ Steps p.tables e below s₀ (T'.setTop (fr v)) := by
  obtain ⟨v, vm, B, -, X', ⟨L, q, h1, h2, h3⟩, st⟩ := h
  rw [h1, h2, h3, hk, hn] at X'
  exact ⟨v, B.U, L, X', q, st⟩
theorem clS {p : Program} {l : Launch} {e : Env} {R : Room} {s : State} {m : MethodId} {args : Array Value} {below : List Frame} {meth : Method} {c : Code} {T : State} {locs : List Loc} {cells slots : Nat} (X : Stand p l e R s m args below meth c T locs cells slots) {Q : Option Value → Heap → List Loc → Prop} {a b : Nat} {U : State} {fr : Option Value → JFrame}
    (h : ∃ (v : Option Value) (vm₁ : Vm) (B : Pt), s.WarmedH vm₁ ∧ Stand p l e R s m args below meth c B.U B.locs B.cells B.slots ∧ (∃ L, Q v B.U.heap L ∧ B.locs = locs ++ L ∧ B.cells = cells + a ∧ B.slots = slots + b) ∧ ∀ t, Steps p.tables e below (B.U.setTop (fr v)) t → Steps p.tables e below U t) {k n : Nat} (hk : cells + a = k) (hn : slots + b = n) :
    ∃ (v : Option Value) (T' : State) (L : List Loc), Stand p l e R s m args below meth c T' (locs ++ L) k n ∧ Q v T'.heap L ∧ ∀ t, Steps p.tables e below (T'.setTop (fr v)) t → Steps p.tables e below U t := by
  obtain ⟨v, vm, B, -, X', ⟨L, q, h1, h2, h3⟩, st⟩ := h
  rw [h1, h2, h3, hk, hn] at X'
  exact ⟨v, B.U, L, X', q, st⟩
theorem ent {l : Launch} {Z : State} {x : MethodName} (cls : String) (hcl : x.cls = cls) {w : Jvm.Cond} {ws : List Jvm.Cond} {R : Room} {A : Array Value} {h0 : Heap} {bytes : ByteArray} {maxL : Nat} {ret : Option FieldType} {Q : Option Value → Heap → List Loc → Prop}
    (his : ∀ args (s : State) m, (head1 (w :: ws) R).pre.before args s = true → s.methodNamed? x = some m → ∃ meth c, s.vm.method? m = some meth ∧ meth.code = some c ∧ c.code = bytes ∧ c.maxLocals = maxL ∧ meth.sig.returnType = ret ∧ meth.locks = false)
    (body : ∀ (p : Program) (e : Env) (s : State) (m : MethodId) (below : List Frame) (meth : Method) (c : Code) (s₁ : State), BodyLoose p l x (head1 (w :: ws) R) bytes maxL ret e s m A below meth c s₁ → p.tables.exec = Jvm.exec → c.code = bytes → c.maxLocals = maxL → s.vm.findClass cls = some m.cls → meth.name = x.name → meth.locks = false → Z.Warmed39 s.vm → Stand p l e R s m A below meth c s₁ [] 0 0 → s₁.heap = h0 → Go p e below s Q R.cells R.slots (s₁.setTop (entryFrame m A maxL))) (hx : plainFor x = true := by exact plainFor_of_name (by first | (simp [plainName, overriddenIn]; done) | decide +kernel)) :
    MetFree l x (head1 (w :: ws) R) (fun a U => a = A ∧ Z.Warmed39 U.vm ∧ U.heap = h0) (fun _ _ _ _ _ => True) (fun _ U o U' => ∃ v L, o = .returned v ∧ Q v U'.heap L ∧ FrameEnd U o U' L R.cells R.slots) := by
  subst hcl
  refine MetFree.of_bodySF hx his ?_
  intro p e s m args below meth c s₁ Bd hml0 hP hK
  obtain ⟨rfl, hZ, hh⟩ := hP
  exact body p e s m below meth c s₁ Bd Bd.exec Bd.bytes hml0 (findClass_of_methodNamed Bd.named) (name_of_methodNamed Bd.named Bd.method).1 (BodyLoose.notSynchronized Bd) hZ (Stand.of_body Bd) (by rw [← hh, Bd.state]; rfl)
theorem fo {Z : State} {h h' : Heap} {a : Addr} {a0 : Array Value} {K O n d O' n' d' : String} {v w : Value} (F : Fld Z h a O n d w) (W : Wr h h' a (Jvm.RoadKit.slotOf Z O' n' d') v) (L : Laid Z a0 K O n d) (L' : Laid Z a0 K O' n' d') (t t' : FieldType) (hn : n ≠ n' := by decide) (ht : parseFieldDescriptor d = some t := by decide) (ht' : parseFieldDescriptor d' = some t' := by decide) : Fld Z h' a O n d w := F.other W (Or.inr (slot_ne L L' hn ht ht'))
theorem nlt {a b n : Nat} (h1 : a < n) (h2 : n ≤ b) : a ≠ b := Nat.ne_of_lt (Nat.lt_of_lt_of_le h1 h2)
theorem wk {g : JFrame} {rest : List Value} {W : Nat} (h1 : g.monitorRoom = 0) (h2 : (rest.map fun v => v.category).sum = W) : 2 * g.monitorRoom + (rest.map fun v => v.category).sum ≤ W := by rw [h1, h2]; simp
theorem lD {a b : Nat} (h : a.ble b = true) : a ≤ b := Nat.le_of_ble_eq_true h
/-- Integer.valueOf's object, by the cache's places -/
abbrev fI (f : Nat → Addr) (x : Int32) : Addr := f (x + (128 : Int32)).toNatClampNeg
/-- what lies at the start: the statics, the cache of Integers, the empty list, the empty arrays -/
def Wo (Z : State) (h : Heap) (w_c : Addr) (f : Nat → Addr) (wE wL wD wA : Addr) (kD kA : ClassId) : Prop :=
  ((∃ cl : Cell, Arr Z h w_c cl (.object s_4) ∧ cl.slots.size = 256 ∧ ∀ j, j < 256 → cl.slots[j]? = some (.ref (f j))) ∧ ∀ j, j < 256 → Exa Z h (f j) s_4 ∧ Fld Z h (f j) s_4 "value" "I" (.int (Int32.ofNat j - 128))) ∧
  Sta Z h s_31 "cache" s_40 (.ref w_c) ∧ Sta Z h s_31 "high" "I" (.int (127 : Int32)) ∧
  Sta Z h s_18 "EMPTY" s_17 (.ref wE) ∧ Sta Z h s_18 s_26 s_27 (.ref wL) ∧
  Sta Z h s_1 s_28 s_3 (.ref wD) ∧
  Exa Z h wE s_0 ∧ Exa Z h wL s_16 ∧ Fld Z h wL s_16 s_20 s_3 (.ref wA) ∧
  Exa Z h wA s_3 ∧ Arv Z h wA kA (.object s_0) (0 : Int32) [] .null ∧ Arv Z h wD kD (.object s_0) (0 : Int32) [] .null
theorem own_extR (h : Heap) : Ext h h := ⟨Nat.le_refl _, fun _ _ q => q⟩
theorem own_extE {h1 h h' : Heap} (X : Ext h1 h) (E : Ext h h') : Ext h1 h' := ⟨Nat.le_trans X.1 E.1, fun a c q => E.2 a c (X.2 a c q)⟩
theorem own_extK {h1 h h' : Heap} {ws : List Addr} (X : Ext h1 h) (K : Keep h h' ws) (g : ∀ x ∈ ws, h1.size ≤ x) : Ext h1 h' := ⟨Nat.le_trans X.1 K.1, fun a c q => K.2.1 a c (X.2 a c q) fun z => absurd (Array.getElem?_eq_some_iff.mp q).1 (Nat.not_lt.mpr (g a z))⟩
theorem own_extW {h1 h h' : Heap} {o : Addr} {sl : Nat} {v : Value} (X : Ext h1 h) (W : Wr h h' o sl v) (g : h1.size ≤ o) : Ext h1 h' := own_extK X (Keep.of_wr W) (allS g all0)
/-- the same, said of a heap behind: what was written since lies above n0 -/
def Wd (Z : State) (h : Heap) (n0 : Nat) (w_c : Addr) (f : Nat → Addr) (wE wL wD wA : Addr) (kD kA : ClassId) : Prop := ∃ h1 : Heap, h1.size ≤ n0 ∧ Ext h1 h ∧ Wo Z h1 w_c f wE wL wD wA kD kA
section
variable {Z : State} {h h' : Heap} {n0 : Nat} {w_c : Addr} {f : Nat → Addr} {wE wL wD wA : Addr} {kD kA : ClassId}
theorem Wd.ext (F : Wd Z h n0 w_c f wE wL wD wA kD kA) (E : Ext h h') : Wd Z h' n0 w_c f wE wL wD wA kD kA := by obtain ⟨h1, q, X, w⟩ := F; exact ⟨h1, q, own_extE X E, w⟩
theorem Wd.wr {o : Addr} {sl : Nat} {v : Value} (F : Wd Z h n0 w_c f wE wL wD wA kD kA) (W : Wr h h' o sl v) (g : n0 ≤ o) : Wd Z h' n0 w_c f wE wL wD wA kD kA := by obtain ⟨h1, q, X, w⟩ := F; exact ⟨h1, q, own_extW X W (Nat.le_trans q g), w⟩
theorem geN {n0 : Nat} : ∀ x ∈ ([] : List Addr), n0 ≤ x := fun _ h => by cases h
theorem geS {n0 : Nat} {a : Addr} {l : List Addr} (h : n0 ≤ a) (r : ∀ x ∈ l, n0 ≤ x) : ∀ x ∈ a :: l, n0 ≤ x := fun x hx => by
  rcases List.mem_cons.mp hx with rfl | q
  · exact h
  · exact r x q
theorem Wd.keep {ws : List Addr} (F : Wd Z h n0 w_c f wE wL wD wA kD kA) (K : Keep h h' ws) (g : ∀ x ∈ ws, n0 ≤ x) : Wd Z h' n0 w_c f wE wL wD wA kD kA := by obtain ⟨h1, q, X, w⟩ := F; exact ⟨h1, q, own_extK X K (fun x hx => Nat.le_trans q (g x hx)), w⟩
theorem own_Wi (F : Wd Z h n0 w_c f wE wL wD wA kD kA) : (∃ cl : Cell, Arr Z h w_c cl (.object s_4) ∧ cl.slots.size = 256 ∧ ∀ j, j < 256 → cl.slots[j]? = some (.ref (f j))) ∧ ∀ j, j < 256 → Exa Z h (f j) s_4 ∧ Fld Z h (f j) s_4 "value" "I" (.int (Int32.ofNat j - 128)) := by
  obtain ⟨h1, -, X, ⟨⟨cl, A, r⟩, w⟩, -⟩ := F
  exact ⟨⟨cl, A.ext X, r⟩, fun j hj => ⟨(w j hj).1.ext X, (w j hj).2.ext X⟩⟩
theorem own_Wc (F : Wd Z h n0 w_c f wE wL wD wA kD kA) : Sta Z h s_31 "cache" s_40 (.ref w_c) := by obtain ⟨h1, -, X, -, w, -⟩ := F; exact w.ext X
theorem own_Wh (F : Wd Z h n0 w_c f wE wL wD wA kD kA) : Sta Z h s_31 "high" "I" (.int (127 : Int32)) := by obtain ⟨h1, -, X, -, -, w, -⟩ := F; exact w.ext X
theorem own_WE (F : Wd Z h n0 w_c f wE wL wD wA kD kA) : Sta Z h s_18 "EMPTY" s_17 (.ref wE) := by obtain ⟨h1, -, X, -, -, -, w, -⟩ := F; exact w.ext X
theorem own_WL (F : Wd Z h n0 w_c f wE wL wD wA kD kA) : Sta Z h s_18 s_26 s_27 (.ref wL) := by obtain ⟨h1, -, X, -, -, -, -, w, -⟩ := F; exact w.ext X
theorem own_WD (F : Wd Z h n0 w_c f wE wL wD wA kD kA) : Sta Z h s_1 s_28 s_3 (.ref wD) := by obtain ⟨h1, -, X, -, -, -, -, -, w, -⟩ := F; exact w.ext X
theorem own_WEe (F : Wd Z h n0 w_c f wE wL wD wA kD kA) : Exa Z h wE s_0 := by obtain ⟨h1, -, X, -, -, -, -, -, -, w, -⟩ := F; exact w.ext X
theorem own_WLe (F : Wd Z h n0 w_c f wE wL wD wA kD kA) : Exa Z h wL s_16 := by obtain ⟨h1, -, X, -, -, -, -, -, -, -, w, -⟩ := F; exact w.ext X
theorem own_WLf (F : Wd Z h n0 w_c f wE wL wD wA kD kA) : Fld Z h wL s_16 s_20 s_3 (.ref wA) := by obtain ⟨h1, -, X, -, -, -, -, -, -, -, -, w, -⟩ := F; exact w.ext X
theorem own_WAe (F : Wd Z h n0 w_c f wE wL wD wA kD kA) : Exa Z h wA s_3 := by obtain ⟨h1, -, X, -, -, -, -, -, -, -, -, -, w, -⟩ := F; exact w.ext X
theorem own_WAv (F : Wd Z h n0 w_c f wE wL wD wA kD kA) : Arv Z h wA kA (.object s_0) (0 : Int32) [] .null := by obtain ⟨h1, -, X, -, -, -, -, -, -, -, -, -, -, w, -⟩ := F; exact w.ext X
theorem own_WDv (F : Wd Z h n0 w_c f wE wL wD wA kD kA) : Arv Z h wD kD (.object s_0) (0 : Int32) [] .null := by obtain ⟨h1, -, X, -, -, -, -, -, -, -, -, -, -, -, w⟩ := F; exact w.ext X
theorem own_cin {x : Int32} (h0 : -128 ≤ x.toInt) (h1 : x.toInt ≤ 127) : ¬ (x + (128 : Int32) < 0) ∧ (x + (128 : Int32)).toNatClampNeg < 256 := by
  have q1 := c_iadd x 128
  have q2 := rng32 (x + 128)
  have e1 : (128 : Int32).toInt = 128 := by decide
  have e0 : (0 : Int32).toInt = 0 := by decide
  have n : ¬ (x + (128 : Int32) < 0) := by rw [Int32.lt_iff_toInt_lt]; omega
  have q3 := nat_of n
  exact ⟨n, by omega⟩
theorem own_cback {x : Int32} (h0 : -128 ≤ x.toInt) (h1 : x.toInt ≤ 127) : Int32.ofNat (x + (128 : Int32)).toNatClampNeg - 128 = x := by
  have q := own_cin h0 h1
  have q3 := nat_of q.1
  have e1 : (128 : Int32).toInt = 128 := by decide
  have q1 := c_iadd x 128
  have q2 := rng32 (x + 128)
  rw [← Int32.toInt_inj]
  have e2 : (Int32.ofNat (x + (128 : Int32)).toNatClampNeg).toInt = (x + (128 : Int32)).toNatClampNeg := Int32.toInt_ofNat_of_lt (by omega)
  have q4 := c_isub (Int32.ofNat (x + (128 : Int32)).toNatClampNeg) 128
  have q5 := rng32 (Int32.ofNat (x + (128 : Int32)).toNatClampNeg - 128)
  omega
theorem own_Wint {x : Int32} (F : Wd Z h n0 w_c f wE wL wD wA kD kA) (h0 : -128 ≤ x.toInt) (h1 : x.toInt ≤ 127) : Exa Z h (fI f x) s_4 ∧ Fld Z h (fI f x) s_4 "value" "I" (.int x) := by
  have q := (own_Wi F).2 _ (own_cin h0 h1).2
  rw [own_cback h0 h1] at q
  exact q
theorem own_exane {a b : Addr} {C D : String} (E : Exa Z h a C) (G : Exa Z h b D) (hn : C ≠ D) : a ≠ b := fun e => by
  subst e
  obtain ⟨c1, k1, h1, h2, -⟩ := E
  obtain ⟨c2, k2, g1, g2, -⟩ := G
  cases h1.symm.trans g1
  exact ids_ne h2 g2 hn rfl
end
/-- an ArrayList with these elements of class K -/
def AL (Z : State) (h : Heap) (a : Addr) (K : String) (es : List Addr) : Prop :=
  Exa Z h a s_1 ∧ Fld Z h a s_1 "size" "I" (.int (Int32.ofNat es.length)) ∧ es.length ≤ 4 ∧ (∀ e ∈ es, Exa Z h e K) ∧
  (es = [] ∨ ∃ arr k, Fld Z h a s_1 s_8 s_3 (.ref arr) ∧ Exa Z h arr s_3 ∧ Arv Z h arr k (.object s_0) (10 : Int32) (es.map Value.ref ++ List.replicate (10 - es.length) .null) .null)
/-- an immutable list with these elements -/
def IL (Z : State) (h : Heap) (wE a : Addr) (es : List Addr) : Prop :=
  ((es.length = 0 ∨ es.length = 3 ∨ es.length = 4) ∧ ∃ arr k, Exa Z h a s_16 ∧ Fld Z h a s_16 s_20 s_3 (.ref arr) ∧ Exa Z h arr s_3 ∧ Arv Z h arr k (.object s_0) (Int32.ofNat es.length) (es.map Value.ref) .null) ∨
  (∃ e, es = [e] ∧ Exa Z h a s_13 ∧ Fld Z h a s_13 "e0" s_17 (.ref e) ∧ Fld Z h a s_13 "e1" s_17 (.ref wE)) ∨
  (∃ e e', es = [e, e'] ∧ e' ≠ wE ∧ Exa Z h a s_13 ∧ Fld Z h a s_13 "e0" s_17 (.ref e) ∧ Fld Z h a s_13 "e1" s_17 (.ref e'))
section
variable {Z : State} {h h' : Heap} {a o wE : Addr} {K : String} {es : List Addr}
theorem AL.ext (F : AL Z h a K es) (E : Ext h h') : AL Z h' a K es := by
  obtain ⟨h1, h2, h3, h4, h5⟩ := F
  refine ⟨h1.ext E, h2.ext E, h3, fun e he => (h4 e he).ext E, h5.imp id ?_⟩
  rintro ⟨arr, k, q1, q2, q3⟩
  exact ⟨arr, k, q1.ext E, q2.ext E, q3.ext E⟩
theorem IL.ext (F : IL Z h wE a es) (E : Ext h h') : IL Z h' wE a es := by
  rcases F with ⟨h0, arr, k, q1, q2, q3, q4⟩ | ⟨e, h0, q1, q2, q3⟩ | ⟨e, e', h0, hn, q1, q2, q3⟩
  · exact Or.inl ⟨h0, arr, k, q1.ext E, q2.ext E, q3.ext E, q4.ext E⟩
  · exact Or.inr (Or.inl ⟨e, h0, q1.ext E, q2.ext E, q3.ext E⟩)
  · exact Or.inr (Or.inr ⟨e, e', h0, hn, q1.ext E, q2.ext E, q3.ext E⟩)
theorem own_n1 {x y : Addr} (q : x ≠ y) : x ∉ [y] := ninS q nin0
theorem IL.keepE {C : String} (F : IL Z h wE a es) (K : Keep h h' [o]) (E : Exa Z h o C) (hC : s_16 ≠ C ∧ s_13 ≠ C ∧ s_3 ≠ C) : IL Z h' wE a es := by
  rcases F with ⟨h0, arr, k, q1, q2, q3, q4⟩ | ⟨e, h0, q1, q2, q3⟩ | ⟨e, e', h0, hn, q1, q2, q3⟩
  · have n1 := own_exane q1 E hC.1
    have n2 := own_exane q3 E hC.2.2
    exact Or.inl ⟨h0, arr, k, q1.keep K, q2.keep K (own_n1 n1), q3.keep K, q4.keep K (own_n1 n2)⟩
  · have n1 := own_exane q1 E hC.2.1
    exact Or.inr (Or.inl ⟨e, h0, q1.keep K, q2.keep K (own_n1 n1), q3.keep K (own_n1 n1)⟩)
  · have n1 := own_exane q1 E hC.2.1
    exact Or.inr (Or.inr ⟨e, e', h0, hn, q1.keep K, q2.keep K (own_n1 n1), q3.keep K (own_n1 n1)⟩)
end
def Mir (Z : State) (mr : Addr) : Prop := ∃ (c : ClassId) (k : Class), Z.vm.findClass s_3 = some c ∧ Z.vm.classes[c]? = some k ∧ k.mirror = some mr
theorem own_mir {Z s : State} {mr : Addr} (hZ : Z.Warmed39 s.vm) (M : Mir Z mr) : ∃ (c : ClassId) (k : Class), s.vm.findClass s_3 = some c ∧ s.vm.classes[c]? = some k ∧ k.mirror = some mr := by
  obtain ⟨c, k, h1, h2, h3⟩ := M
  obtain ⟨k', q1, q2⟩ := hZ.alike.2.2 _ _ h2
  exact ⟨c, k', by rw [hZ.alike.findClass]; exact h1, q1, by rw [q2]; exact h3⟩
theorem own_mirev {s : State} {args : Array Value} {mr : Addr} {c : ClassId} {k : Class} (h1 : s.vm.findClass s_3 = some c) (h2 : s.vm.classes[c]? = some k) (h3 : k.mirror = some mr) : (Term.mirror s_3).eval args s none [] s = some (.ref mr) := by simp [Term.eval, h1, h2, h3]
/-- no ArrayList is of that class -/
theorem own_noinst {Z : State} {a0 : Array Value} {K : String} {n : Nat} (w1 : (Cond.superclass s_1 s_9).before a0 Z = true) (w2 : (Cond.superclass s_9 s_41).before a0 Z = true) (w3 : (Cond.superclass s_41 s_0).before a0 Z = true) (w4 : (Cond.noSuperclass s_0).before a0 Z = true) (wi : (Cond.instantiable K n).before a0 Z = true)
    (n1 : s_1 ≠ K) (n2 : s_9 ≠ K) (n3 : s_41 ≠ K) (n4 : s_0 ≠ K) : ∃ c t, Z.vm.findClass s_1 = some c ∧ Z.vm.findClass K = some t ∧ Z.vm.assignable c t = false := by
  obtain ⟨t, kt, g1, g2, g5, g7, -⟩ := Cond.instantiable_spec wi
  have g7' : kt.isInterface = false := by
    cases hi : kt.isInterface with
    | false => rfl
    | true => rw [hi] at g7; simp at g7
  have r4 : NS Z s_0 K := by
    obtain ⟨c, k, h1, h2, h3, -, -⟩ := Cond.noSuperclass_spec w4
    have ne := ids_ne h1 g1 n4
    refine ⟨c, t, h1, g1, fun fuel => ?_⟩
    cases fuel with
    | zero => rfl
    | succ f => simp [Vm.isSubclassAux, ne, h2, h3]
  obtain ⟨c, t', h0, g0, r⟩ := NS.step w1 (NS.step w2 (NS.step w3 r4 n3) n2) n1
  cases g1.symm.trans g0
  obtain ⟨p, k, kp, h1, h2, h3, h4, h5, -, h7⟩ := Cond.superclass_spec h0 w1
  have ne := ids_ne h0 g1 n1
  refine ⟨c, t, h0, g1, ?_⟩
  show Z.vm.assignableAux (255 + 1) c t = false
  simp [Vm.assignableAux, ne, h2, g2, h5, g5, g7', Vm.isSubclass, r]
theorem own_four {es : List Addr} (h : es.length ≤ 4) : es = [] ∨ (∃ v_0, es = [v_0]) ∨ (∃ v_0 v_1, es = [v_0, v_1]) ∨ (∃ v_0 v_1 v_2, es = [v_0, v_1, v_2]) ∨ ∃ v_0 v_1 v_2 v_3, es = [v_0, v_1, v_2, v_3] := by
  rcases es with _ | ⟨a, _ | ⟨b, _ | ⟨c, _ | ⟨d, _ | ⟨e, r⟩⟩⟩⟩⟩
  · exact Or.inl rfl
  · exact Or.inr (Or.inl ⟨a, rfl⟩)
  · exact Or.inr (Or.inr (Or.inl ⟨a, b, rfl⟩))
  · exact Or.inr (Or.inr (Or.inr (Or.inl ⟨a, b, c, rfl⟩)))
  · exact Or.inr (Or.inr (Or.inr (Or.inr ⟨a, b, c, d, rfl⟩)))
  · simp at h
/-- the members of a mask -/
def mm (x : Int32) : List Int32 := (if (x &&& (1 : Int32)) = (0 : Int32) then [] else [1]) ++ ((if (x &&& (2 : Int32)) = (0 : Int32) then [] else [2]) ++ ((if (x &&& (4 : Int32)) = (0 : Int32) then [] else [3]) ++ (if (x &&& (8 : Int32)) = (0 : Int32) then [] else [4])))
/-- a Probe with these lists -/
def Prb (Z : State) (h : Heap) (wE wL p : Addr) (vs cs fs : List Addr) : Prop :=
  Exa Z h p s_10 ∧ (∃ a, Fld Z h p s_10 "visited" s_11 (.ref a) ∧ IL Z h wE a vs) ∧ (∃ a, Fld Z h p s_10 "crashed" s_11 (.ref a) ∧ IL Z h wE a cs) ∧
  (∃ a, Fld Z h p s_10 "found" s_11 (.ref a) ∧ IL Z h wE a fs) ∧ Fld Z h p s_10 "waiters" s_11 (.ref wL) ∧ Fld Z h p s_10 "queued" s_11 (.ref wL)
theorem Prb.ext {Z : State} {h h' : Heap} {wE wL p : Addr} {vs cs fs : List Addr} (F : Prb Z h wE wL p vs cs fs) (E : Ext h h') : Prb Z h' wE wL p vs cs fs := by
  obtain ⟨h1, ⟨a, h2, h3⟩, ⟨b, h4, h5⟩, ⟨c, h6, h7⟩, h8, h9⟩ := F
  exact ⟨h1.ext E, ⟨a, h2.ext E, h3.ext E⟩, ⟨b, h4.ext E, h5.ext E⟩, ⟨c, h6.ext E, h7.ext E⟩, h8.ext E, h9.ext E⟩
/-- the objects found, with what each says -/
def FL (Z : State) (h : Heap) (fs : List Addr) (ks : List Int32) : Prop := (fs = [] ∧ ks = []) ∨ ∃ b k, fs = [b] ∧ ks = [k] ∧ Exa Z h b s_21 ∧ Fld Z h b s_21 s_38 "I" (.int k)
theorem FL.ext {Z : State} {h h' : Heap} {fs : List Addr} {ks : List Int32} (F : FL Z h fs ks) (E : Ext h h') : FL Z h' fs ks := by
  rcases F with q | ⟨b, k, h1, h2, h3, h4⟩
  · exact Or.inl q
  · exact Or.inr ⟨b, k, h1, h2, h3.ext E, h4.ext E⟩
theorem own_keep1 {h h' h'' : Heap} {o : Addr} {sl : Nat} {v : Value} (K : Keep h h' [o]) (W : Wr h' h'' o sl v) : Keep h h'' [o] := K.wr W (Or.inl (List.mem_singleton.mpr rfl))
/-- a boolean[5] and a long[n], by functions -/
def Bo (Z : State) (h : Heap) (a : Addr) (g : Nat → Int32) : Prop := ∃ c : Cell, Arr Z h a c .boolean ∧ c.slots.size = 5 ∧ ∀ j : Nat, j < 5 → c.slots[j]? = some (.int (g j))
def Lo (Z : State) (h : Heap) (a : Addr) (n : Int32) (f : Nat → Int64) : Prop := ∃ c : Cell, Arr Z h a c .long ∧ c.slots.size = n.toNatClampNeg ∧ ¬ n < 0 ∧ ∀ j : Nat, j < n.toNatClampNeg → c.slots[j]? = some (.long (f j))
section
variable {Z : State} {h h' : Heap} {a o : Addr} {sl : Nat} {v : Value} {ws : List Addr} {g : Nat → Int32} {f : Nat → Int64} {n : Int32}
theorem Bo.lt (F : Bo Z h a g) : a < h.size := by obtain ⟨c, A, -⟩ := F; exact A.lt
theorem Bo.ext (F : Bo Z h a g) (E : Ext h h') : Bo Z h' a g := by obtain ⟨c, A, r⟩ := F; exact ⟨c, A.ext E, r⟩
theorem Bo.other (F : Bo Z h a g) (W : Wr h h' o sl v) (q : a ≠ o) : Bo Z h' a g := by obtain ⟨c, A, r⟩ := F; exact ⟨c, A.other W q, r⟩
theorem Bo.keep (F : Bo Z h a g) (K : Keep h h' ws) (q : a ∉ ws) : Bo Z h' a g := by obtain ⟨c, A, r⟩ := F; exact ⟨c, ⟨K.2.1 _ _ A.1 q, A.2⟩, r⟩
theorem Lo.lt (F : Lo Z h a n f) : a < h.size := by obtain ⟨c, A, -⟩ := F; exact A.lt
theorem Lo.ext (F : Lo Z h a n f) (E : Ext h h') : Lo Z h' a n f := by obtain ⟨c, A, r⟩ := F; exact ⟨c, A.ext E, r⟩
theorem Lo.other (F : Lo Z h a n f) (W : Wr h h' o sl v) (q : a ≠ o) : Lo Z h' a n f := by obtain ⟨c, A, r⟩ := F; exact ⟨c, A.other W q, r⟩
theorem Lo.keep (F : Lo Z h a n f) (K : Keep h h' ws) (q : a ∉ ws) : Lo Z h' a n f := by obtain ⟨c, A, r⟩ := F; exact ⟨c, ⟨K.2.1 _ _ A.1 q, A.2⟩, r⟩
theorem Lo.congr {f' : Nat → Int64} (F : Lo Z h a n f) (q : ∀ j : Nat, j < n.toNatClampNeg → f j = f' j) : Lo Z h a n f' := by obtain ⟨c, A, r1, r2, r3⟩ := F; exact ⟨c, A, r1, r2, fun j hj => by rw [← q j hj]; exact r3 j hj⟩
theorem own_nn {j : Int32} (h0 : 0 ≤ j.toInt) : ¬ j < 0 := by
  rw [Int32.lt_iff_toInt_lt]
  have : (0 : Int32).toInt = 0 := by decide
  omega
theorem own_nat {j : Int32} (h0 : 0 ≤ j.toInt) : j.toInt = (j.toNatClampNeg : Int) := nat_of (own_nn h0)
theorem own_lt {j : Int32} {n : Nat} (h0 : 0 ≤ j.toInt) (h1 : j.toInt < n) : j.toNatClampNeg < n := by
  have := own_nat h0
  omega
theorem own_in {c : Cell} {j : Int32} {n : Nat} (S : c.slots.size = n) (h0 : 0 ≤ j.toInt) (h1 : j.toInt < n) : ¬ (j < 0 ∨ c.slots.size ≤ j.toNatClampNeg) := fun q => by
  rcases q with q | q
  · exact own_nn h0 q
  · have := own_lt h0 h1
    omega
theorem own_boset {c : Cell} {j : Nat} {w x : Int32} (A : Arr Z h a c .boolean) (S : c.slots.size = 5) (H : ∀ i : Nat, i < 5 → c.slots[i]? = some (.int (g i))) (W : Wr h h' a j (.int w)) (hw : w = x) (hj : j < 5) : Bo Z h' a (fun i => if i = j then x else g i) := by
  subst hw
  refine ⟨_, Arr.same W A, by rw [sz_set]; exact S, fun i hi => ?_⟩
  by_cases q : i = j
  · subst q
    simp [Cell.setSlot, S, hi]
  · simp only [q, if_false]
    rw [← H i hi]
    simp only [Cell.setSlot]
    exact Array.getElem?_setIfInBounds_ne (fun e => q e.symm)
theorem own_loset {c : Cell} {j : Nat} {x : Int64} (A : Arr Z h a c .long) (S : c.slots.size = n.toNatClampNeg) (N : ¬ n < 0) (H : ∀ i : Nat, i < n.toNatClampNeg → c.slots[i]? = some (.long (f i))) (W : Wr h h' a j (.long x)) (hj : j < n.toNatClampNeg) : Lo Z h' a n (fun i => if i = j then x else f i) := by
  refine ⟨_, Arr.same W A, by rw [sz_set]; exact S, N, fun i hi => ?_⟩
  by_cases q : i = j
  · subst q
    simp [Cell.setSlot, S, hi]
  · simp only [q, if_false]
    rw [← H i hi]
    simp only [Cell.setSlot]
    exact Array.getElem?_setIfInBounds_ne (fun e => q e.symm)
def gl (l : List Int32) (j : Nat) : Int32 := l.getD j 0
theorem own_getD : ∀ (L : List Int32) (i : Nat), (L.map Value.int).getD i (.int 0) = .int (L.getD i 0)
  | [], _ => rfl
  | _ :: _, 0 => rfl
  | _ :: r, i + 1 => own_getD r i
theorem Bo.of {k : ClassId} {x0 x1 x2 x3 x4 : Int32} (F : Arv Z h a k .boolean (5 : Int32) [.int x0, .int x1, .int x2, .int x3, .int x4] (.int 0)) : Bo Z h a (gl [x0, x1, x2, x3, x4]) := by
  obtain ⟨c, A, -, S, -, H, -⟩ := F
  exact ⟨c, A, S, fun j hj => (H j (by rw [S]; exact hj)).trans (congrArg some (own_getD [x0, x1, x2, x3, x4] j))⟩
theorem Lo.of {k : ClassId} (F : Arv Z h a k .long n [] (.long 0)) : Lo Z h a n (fun _ => 0) := by
  obtain ⟨c, A, -, S, N, H, -⟩ := F
  exact ⟨c, A, S, N, fun j hj => H j (by rw [S]; exact hj)⟩
end
/-- what the visits of a round write -/
def updv (first : Int64) : Int32 → List Int32 → (Nat → Int64) → (Nat → Int64)
  | _, [], f => f
  | i, m :: r, f => updv first (i + (1 : Int32)) r (fun j => if j = m.toNatClampNeg then (first + (i.toInt64)) else f j)
def isCr (g : Nat → Int32) (crs : List Int32) (g' : Nat → Int32) : Prop := (crs = [] ∧ g' = g) ∨ ∃ y : Int32, crs = [y] ∧ g' = (fun j => if j = y.toNatClampNeg then 1 else g j)
def isUp (up vi : Int64) (ks : List Int32) (u : Int64) : Prop := (ks = [] ∧ u = up) ∨ ∃ k : Int32, ks = [k] ∧ ((up < (vi + (k.toInt64)) ∧ u = (vi + (k.toInt64))) ∨ (¬ (up < (vi + (k.toInt64))) ∧ u = up))
/-- the Census, over the heap hS as it lay when it was made -/
def Cen (Z : State) (hS h : Heap) (c : Addr) (n sf : Int32) (vi up : Int64) (g : Nat → Int32) (f : Nat → Int64) : Prop := ∃ (wcr wvi ww wq wl : Addr) (mc : Int32) (ed : Addr),
  Ext hS h ∧ hS.size ≤ c ∧ hS.size ≤ wcr ∧ hS.size ≤ wvi ∧ hS.size ≤ wl ∧ c ≠ wcr ∧ c ≠ wvi ∧ c ≠ wl ∧ wcr ≠ wvi ∧ wcr ≠ wl ∧ wvi ≠ wl ∧ ww ≠ c ∧ ww ≠ wcr ∧ ww ≠ wvi ∧ ww ≠ wl ∧ wq ≠ c ∧ wq ≠ wcr ∧ wq ≠ wvi ∧ wq ≠ wl ∧
  Exa Z h c s_5 ∧ Exa Z h ww s_14 ∧ Exa Z h wq s_14 ∧ Exa Z h wl s_1 ∧ Fld Z h c s_5 "nodes" "I" (.int n) ∧ Fld Z h c s_5 "tokens" "I" (.int 0) ∧ Fld Z h c s_5 "self" "I" (.int sf) ∧ Fld Z h c s_5 "crashed" "[Z" (.ref wcr) ∧ Fld Z h c s_5 "visitedAt" "[J" (.ref wvi) ∧ Fld Z h c s_5 "waiters" s_25 (.ref ww) ∧ Fld Z h c s_5 "queued" s_25 (.ref wq) ∧ Fld Z h c s_5 s_36 s_11 (.ref wl) ∧ Fld Z h c s_5 "visits" "J" (.long vi) ∧ Fld Z h c s_5 s_37 "J" (.long up) ∧ Fld Z h c s_5 "onItsWay" "Z" (.int 0) ∧
  Fld Z h ww s_14 s_22 s_23 .null ∧ Fld Z h ww s_14 "root" s_24 .null ∧ Fld Z h wq s_14 s_22 s_23 .null ∧ Fld Z h wq s_14 "root" s_24 .null ∧ Fld Z h wl s_1 "size" "I" (.int 0) ∧ Fld Z h wl s_9 s_12 "I" (.int mc) ∧ Fld Z h wl s_1 s_8 s_3 (.ref ed) ∧ Bo Z h wcr g ∧ Lo Z h wvi (n + (1 : Int32)) f
theorem Cen.xt {Z : State} {hS h : Heap} {c : Addr} {n sf : Int32} {vi up : Int64} {g : Nat → Int32} {f : Nat → Int64} (F : Cen Z hS h c n sf vi up g f) : Ext hS h := by obtain ⟨_, _, _, _, _, _, _, q, -⟩ := F; exact q
theorem Cen.ge {Z : State} {hS h : Heap} {c : Addr} {n sf : Int32} {vi up : Int64} {g : Nat → Int32} {f : Nat → Int64} (F : Cen Z hS h c n sf vi up g f) : hS.size ≤ c := by obtain ⟨_, _, _, _, _, _, _, -, q, -⟩ := F; exact q
theorem Cen.exa {Z : State} {hS h : Heap} {c : Addr} {n sf : Int32} {vi up : Int64} {g : Nat → Int32} {f : Nat → Int64} (F : Cen Z hS h c n sf vi up g f) : Exa Z h c s_5 := by obtain ⟨_, _, _, _, _, _, _, -, -, -, -, -, -, -, -, -, -, -, -, -, -, -, -, -, -, -, q, -⟩ := F; exact q
theorem own_idx {i n : Int32} (h0 : 0 ≤ i.toInt) (h1 : i.toInt < n.toInt) : (¬ i < 0 ∧ i < n) ∧ i.toNatClampNeg < n.toNatClampNeg := by
  have e0 := own_nat h0
  have e1 := own_nat (j := n) (by omega)
  exact ⟨⟨own_nn h0, Int32.lt_iff_toInt_lt.mpr h1⟩, by omega⟩
theorem own_inc {i n : Int32} (h : i.toInt < n.toInt) : (i + (1 : Int32)).toInt = i.toInt + 1 := by
  have h1 := c_iadd i 1
  have h2 := rng32 (i + 1)
  have h3 := rng32 n
  have h4 := rng32 i
  have e : (1 : Int32).toInt = 1 := by decide
  omega
theorem own_inc4 {i : Int32} (h0 : 0 ≤ i.toInt) (h : i.toInt ≤ 4) : (i + (1 : Int32)).toInt = i.toInt + 1 := by
  have e : (100 : Int32).toInt = 100 := by decide
  exact own_inc (n := (100 : Int32)) (by omega)
theorem own_idx5 {i : Int32} (h0 : 0 ≤ i.toInt) (h1 : i.toInt ≤ 4) : ¬ i < 0 ∧ i.toNatClampNeg < 5 := ⟨own_nn h0, own_lt h0 (by omega)⟩
/-- member m is known to have crashed, or up to date -/
def okm (sf : Int32) (up : Int64) (g : Nat → Int32) (f : Nat → Int64) (m : Int32) : Prop := m = sf ∨ ¬ (g m.toNatClampNeg = 0) ∨ (¬ (f m.toNatClampNeg < 0) ∧ ¬ (f m.toNatClampNeg < up))
theorem own_next {P : Int32 → Prop} {i : Int32} (hall : ∀ m : Int32, 1 ≤ m.toInt → m.toInt < i.toInt → P m) (hi : P i) (hs : (i + (1 : Int32)).toInt = i.toInt + 1) : ∀ m : Int32, 1 ≤ m.toInt → m.toInt < (i + (1 : Int32)).toInt → P m := fun m h1 h2 => by
  by_cases q : m.toInt < i.toInt
  · exact hall m h1 q
  · have e : m = i := by
      rw [← Int32.toInt_inj]
      omega
    rw [e]
    exact hi
theorem own_nxt {f f' : Nat → Int64} {x : Int64} {i : Int32} (h0 : 0 ≤ i.toInt) (hall : ∀ j : Nat, (j : Int) < i.toInt → f j = x) (hs : (i + (1 : Int32)).toInt = i.toInt + 1) (hf : f' = fun k => if k = i.toNatClampNeg then x else f k) : ∀ j : Nat, (j : Int) < (i + (1 : Int32)).toInt → f' j = x := fun j hj => by
  subst hf
  by_cases q : j = i.toNatClampNeg
  · simp [q]
  · simp only [q, if_false]
    have := own_nat h0
    exact hall j (by omega)
/-- the i-th of a list of addresses -/
def el (vs : List Addr) (i : Int32) : Addr := vs.getD i.toNatClampNeg 0
theorem own_elmap {vs : List Addr} {i : Int32} (h : i.toNatClampNeg < vs.length) : (vs.map Value.ref).getD i.toNatClampNeg .null = .ref (el vs i) := by
  unfold el
  simp [List.getD_eq_getElem?_getD, List.getElem?_eq_getElem, h]
theorem own_elat {f : Nat → Addr} {pre rem : List Int32} {m i : Int32} (hp : pre.length = i.toNatClampNeg) : el ((pre ++ m :: rem).map (fI f)) i = fI f m := by
  unfold el
  rw [List.getD_eq_getElem?_getD, List.map_append, List.getElem?_append_right (by simp [hp]), List.length_map, hp, Nat.sub_self]
  rfl
theorem own_len4 {α : Type} {l : List α} (h : l.length ≤ 4) : (Int32.ofNat l.length).toInt = l.length ∧ (Int32.ofNat l.length).toNatClampNeg = l.length := by
  have e : (Int32.ofNat l.length).toInt = l.length := Int32.toInt_ofNat_of_lt (by omega)
  have e2 := own_nat (j := Int32.ofNat l.length) (by omega)
  exact ⟨e, by omega⟩
theorem own_selpriv {Z : State} {a0 : Array Value} {y : MethodName} {n : Nat} (wi : (Cond.instantiable y.cls n).before a0 Z = true) (wp : (Cond.privateMethod y).before a0 Z = true) (wm : (Cond.instanceMethod y).before a0 Z = true) (hy : y.cls ≠ "java/lang/invoke/MethodHandle" ∧ y.cls ≠ "java/lang/invoke/VarHandle") : (Cond.selects y.cls y y).before a0 Z = true := by
  obtain ⟨c, k, h1, h2, h3, h4, -⟩ := Cond.instantiable_spec wi
  refine selects_self_of_private h1 h2 ?_ (Cond.privateMethod_at wp) wm hy
  cases hi : k.isInterface with
  | false => rfl
  | true => rw [hi] at h4; simp at h4
section
variable {Z : State} {h : Heap} {wE a : Addr}
theorem own_il0 (F : IL Z h wE a []) : ∃ arr k, Exa Z h a s_16 ∧ Fld Z h a s_16 s_20 s_3 (.ref arr) ∧ Arv Z h arr k (.object s_0) (0 : Int32) [] .null := by
  rcases F with ⟨-, arr, k, q1, q2, q3, q4⟩ | ⟨e, h0, -⟩ | ⟨e, e', h0, -⟩
  · exact ⟨arr, k, q1, q2, q4⟩
  · cases h0
  · cases h0
theorem own_il1 {e : Addr} (F : IL Z h wE a [e]) : Exa Z h a s_13 ∧ Fld Z h a s_13 "e0" s_17 (.ref e) ∧ Fld Z h a s_13 "e1" s_17 (.ref wE) := by
  rcases F with ⟨q, -⟩ | ⟨e', h0, q⟩ | ⟨e', e'', h0, -⟩
  · simp at q
  · cases h0
    exact q
  · cases h0
end
def slok (o : Slot) : Prop := o = .unset ∨ ∃ w : Value, o = .val w ∧ w.category = 1
theorem own_store6 {a0 a1 a2 a3 a4 a5 o : Slot} {v : Value} (ho : slok o) (hv : v.category = 1) : storeLocals #[a0, a1, a2, a3, a4, a5, o] 6 v = some #[a0, a1, a2, a3, a4, a5, .val v] := by
  rw [XS.store1 (o := o) rfl ho hv]
  rfl
abbrev c_1 := method_4_code
abbrev c_4 := jdk_22_method_1_code
abbrev c_3 := jdk_39_method_1_code
abbrev c_2 := jdk_38_method_2_code
abbrev c_12 := jdk_29_method_65_code
abbrev c_61 := jdk_29_method_66_code
abbrev c_14 := jdk_30_method_1_code
abbrev c_26 := jdk_47_method_1_code
abbrev c_25 := jdk_46_method_1_code
abbrev c_27 := jdk_31_method_10_code
abbrev c_30 := jdk_71_method_1_code
abbrev c_29 := jdk_2729_method_1_code
abbrev c_33 := prog_29_method_1_code
abbrev c_58 := prog_27_method_1_code
abbrev c_32 := prog_4_method_19_code
abbrev c_24 := jdk_44_method_1_code
abbrev c_62 := jdk_44_method_2_code
abbrev c_64 := jdk_45_method_1_code
abbrev c_39 := jdk_53_method_1_code
abbrev c_49 := jdk_49_method_1_code
abbrev c_36 := prog_26_method_12_code
abbrev c_41 := prog_26_method_13_code
abbrev c_42 := prog_26_method_11_code
abbrev c_45 := jdk_33_method_27_code
abbrev c_53 := prog_26_method_15_code
abbrev c_54 := prog_26_method_16_code
abbrev c_60 := prog_27_method_6_code
abbrev c_11 := jdk_38_method_6_code
abbrev c_10 := jdk_38_method_7_code
abbrev c_9 := jdk_38_method_24_code
abbrev c_8 := jdk_38_method_25_code
abbrev c_7 := jdk_33_method_22_code
abbrev c_17 := jdk_38_method_9_code
abbrev c_18 := jdk_40_method_36_code
abbrev c_16 := jdk_56_method_3_code
abbrev c_15 := jdk_40_method_48_code
abbrev c_22 := jdk_29_method_69_code
abbrev c_21 := jdk_65_method_120_code
abbrev c_20 := jdk_65_method_119_code
abbrev c_19 := jdk_38_method_16_code
abbrev c_23 := jdk_40_method_47_code
abbrev c_63 := jdk_56_method_4_code
abbrev c_6 := method_5_code
abbrev c_13 := prog_26_method_1_code
abbrev c_38 := jdk_45_method_3_code
abbrev c_43 := jdk_44_method_3_code
abbrev c_44 := jdk_44_method_5_code
abbrev c_65 := jdk_45_method_4_code
abbrev c_37 := jdk_46_method_10_code
abbrev c_40 := jdk_53_method_3_code
abbrev c_59 := jdk_53_method_4_code
abbrev c_47 := jdk_2729_method_15_code
abbrev c_46 := jdk_2729_method_34_code
abbrev c_48 := jdk_38_method_55_code
abbrev c_50 := jdk_49_method_2_code
abbrev c_51 := jdk_38_method_40_code
abbrev c_52 := prog_4_method_16_code
abbrev c_31 := jdk_65_method_101_code
abbrev c_34 := jdk_65_method_117_code
abbrev c_28 := prog_4_method_1_code
abbrev c_66 := prog_4_method_6_code
abbrev c_57 := prog_4_method_15_code
abbrev c_55 := prog_4_method_8_code
abbrev c_56 := method_3_code
abbrev c_35 := prog_4_method_5_code
abbrev R_0_0_0_0 : Room := { frames := 0, cells := 0, slots := 0, locals := 0 }
abbrev R_1_0_0_12 : Room := { frames := 1, cells := 0, slots := 0, locals := 12 }
abbrev R_2_0_0_24 : Room := { frames := 2, cells := 0, slots := 0, locals := 24 }
abbrev R_3_0_0_36 : Room := { frames := 3, cells := 0, slots := 0, locals := 36 }
abbrev R_3_1_4_42 : Room := { frames := 3, cells := 1, slots := 4, locals := 42 }
abbrev R_4_0_0_48 : Room := { frames := 4, cells := 0, slots := 0, locals := 48 }
abbrev R_1_1_10_14 : Room := { frames := 1, cells := 1, slots := 10, locals := 14 }
abbrev R_2_1_10_29 : Room := { frames := 2, cells := 1, slots := 10, locals := 29 }
abbrev R_3_1_10_41 : Room := { frames := 3, cells := 1, slots := 10, locals := 41 }
abbrev R_4_1_10_56 : Room := { frames := 4, cells := 1, slots := 10, locals := 56 }
abbrev R_1_0_0_15 : Room := { frames := 1, cells := 0, slots := 0, locals := 15 }
abbrev R_2_0_0_25 : Room := { frames := 2, cells := 0, slots := 0, locals := 25 }
abbrev R_1_1_1_18 : Room := { frames := 1, cells := 1, slots := 1, locals := 18 }
abbrev R_2_1_1_33 : Room := { frames := 2, cells := 1, slots := 1, locals := 33 }
abbrev R_3_1_1_46 : Room := { frames := 3, cells := 1, slots := 1, locals := 46 }
abbrev R_5_1_2_62 : Room := { frames := 5, cells := 1, slots := 2, locals := 62 }
abbrev R_6_2_3_75 : Room := { frames := 6, cells := 2, slots := 3, locals := 75 }
abbrev R_1_1_2_18 : Room := { frames := 1, cells := 1, slots := 2, locals := 18 }
abbrev R_2_1_2_33 : Room := { frames := 2, cells := 1, slots := 2, locals := 33 }
abbrev R_3_1_2_46 : Room := { frames := 3, cells := 1, slots := 2, locals := 46 }
abbrev R_5_1_2_63 : Room := { frames := 5, cells := 1, slots := 2, locals := 63 }
abbrev R_6_2_4_76 : Room := { frames := 6, cells := 2, slots := 4, locals := 76 }
abbrev R_1_1_3_18 : Room := { frames := 1, cells := 1, slots := 3, locals := 18 }
abbrev R_2_1_3_33 : Room := { frames := 2, cells := 1, slots := 3, locals := 33 }
abbrev R_3_1_3_46 : Room := { frames := 3, cells := 1, slots := 3, locals := 46 }
abbrev R_5_2_5_63 : Room := { frames := 5, cells := 2, slots := 5, locals := 63 }
abbrev R_6_2_5_77 : Room := { frames := 6, cells := 2, slots := 5, locals := 77 }
abbrev R_7_3_8_90 : Room := { frames := 7, cells := 3, slots := 8, locals := 90 }
abbrev R_1_1_4_18 : Room := { frames := 1, cells := 1, slots := 4, locals := 18 }
abbrev R_2_1_4_33 : Room := { frames := 2, cells := 1, slots := 4, locals := 33 }
abbrev R_3_1_4_46 : Room := { frames := 3, cells := 1, slots := 4, locals := 46 }
abbrev R_5_2_6_63 : Room := { frames := 5, cells := 2, slots := 6, locals := 63 }
abbrev R_6_2_6_77 : Room := { frames := 6, cells := 2, slots := 6, locals := 77 }
abbrev R_7_3_10_90 : Room := { frames := 7, cells := 3, slots := 10, locals := 90 }
abbrev R_8_3_10_103 : Room := { frames := 8, cells := 3, slots := 10, locals := 103 }
abbrev R_7_2_3_88 : Room := { frames := 7, cells := 2, slots := 3, locals := 88 }
abbrev R_5_2_13_69 : Room := { frames := 5, cells := 2, slots := 13, locals := 69 }
abbrev R_9_8_23_115 : Room := { frames := 9, cells := 8, slots := 23, locals := 115 }
abbrev R_2_1_4_27 : Room := { frames := 2, cells := 1, slots := 4, locals := 27 }
abbrev R_1_0_0_13 : Room := { frames := 1, cells := 0, slots := 0, locals := 13 }
abbrev R_2_0_0_28 : Room := { frames := 2, cells := 0, slots := 0, locals := 28 }
abbrev R_2_1_4_26 : Room := { frames := 2, cells := 1, slots := 4, locals := 26 }
abbrev R_3_2_8_39 : Room := { frames := 3, cells := 2, slots := 8, locals := 39 }
abbrev R_4_8_39_54 : Room := { frames := 4, cells := 8, slots := 39, locals := 54 }
abbrev R_4_7_28_54 : Room := { frames := 4, cells := 7, slots := 28, locals := 54 }
abbrev M_0 : MethodName := ⟨s_42, "count", "(I)I"⟩
abbrev M_1 : MethodName := ⟨s_41, "<init>", "()V"⟩
abbrev M_2 : MethodName := ⟨s_9, "<init>", "()V"⟩
abbrev M_3 : MethodName := ⟨s_1, "<init>", "()V"⟩
abbrev M_4 : MethodName := ⟨s_34, "max", "(II)I"⟩
abbrev M_5 : MethodName := ⟨s_34, "max", "(JJ)J"⟩
abbrev M_6 : MethodName := ⟨"java/lang/Record", "<init>", "()V"⟩
abbrev M_7 : MethodName := ⟨"java/util/ImmutableCollections$AbstractImmutableCollection", "<init>", "()V"⟩
abbrev M_8 : MethodName := ⟨s_45, "<init>", "()V"⟩
abbrev M_9 : MethodName := ⟨"java/util/Objects", "requireNonNull", "(Ljava/lang/Object;)Ljava/lang/Object;"⟩
abbrev M_10 : MethodName := ⟨"java/util/AbstractMap", "<init>", "()V"⟩
abbrev M_11 : MethodName := ⟨s_14, "<init>", "()V"⟩
abbrev M_12 : MethodName := ⟨s_15, "<init>", "(IJII)V"⟩
abbrev M_13 : MethodName := ⟨s_21, "<init>", "(II)V"⟩
abbrev M_14 : MethodName := ⟨s_5, "unseen", "()Lcom/example/hot_potato/hotpotato/Message$Probe$Sighting;"⟩
abbrev M_15 : MethodName := ⟨s_13, "<init>", "(Ljava/lang/Object;)V"⟩
abbrev M_16 : MethodName := ⟨s_13, "<init>", "(Ljava/lang/Object;Ljava/lang/Object;)V"⟩
abbrev M_17 : MethodName := ⟨s_16, "<init>", "([Ljava/lang/Object;Z)V"⟩
abbrev M_18 : MethodName := ⟨s_6, "<init>", "(Ljava/util/List;I)V"⟩
abbrev M_19 : MethodName := ⟨s_19, "<init>", "(Ljava/util/ArrayList;)V"⟩
abbrev M_20 : MethodName := ⟨s_10, "crashed", "()Ljava/util/List;"⟩
abbrev M_21 : MethodName := ⟨s_10, "found", "()Ljava/util/List;"⟩
abbrev M_22 : MethodName := ⟨s_10, "visited", "()Ljava/util/List;"⟩
abbrev M_23 : MethodName := ⟨s_4, "intValue", "()I"⟩
abbrev M_24 : MethodName := ⟨s_10, "waiters", "()Ljava/util/List;"⟩
abbrev M_25 : MethodName := ⟨s_10, "queued", "()Ljava/util/List;"⟩
abbrev M_26 : MethodName := ⟨s_21, s_38, "()I"⟩
abbrev M_27 : MethodName := ⟨s_1, "grow", "(I)[Ljava/lang/Object;"⟩
abbrev M_28 : MethodName := ⟨s_1, "grow", "()[Ljava/lang/Object;"⟩
abbrev M_29 : MethodName := ⟨s_1, "add", "(Ljava/lang/Object;[Ljava/lang/Object;I)V"⟩
abbrev M_30 : MethodName := ⟨s_1, "add", "(Ljava/lang/Object;)Z"⟩
abbrev M_31 : MethodName := ⟨s_4, "valueOf", "(I)Ljava/lang/Integer;"⟩
abbrev M_32 : MethodName := ⟨s_1, "isEmpty", "()Z"⟩
abbrev M_33 : MethodName := ⟨s_2, "of", "()Ljava/util/List;"⟩
abbrev M_34 : MethodName := ⟨s_18, "listCopy", "(Ljava/util/Collection;)Ljava/util/List;"⟩
abbrev M_35 : MethodName := ⟨"java/util/Collection", "isEmpty", "()Z"⟩
abbrev M_36 : MethodName := ⟨s_2, "copyOf", "(Ljava/util/Collection;)Ljava/util/List;"⟩
abbrev M_37 : MethodName := ⟨s_34, "min", "(II)I"⟩
abbrev M_38 : MethodName := ⟨s_30, "copyOf", "([Ljava/lang/Object;ILjava/lang/Class;)[Ljava/lang/Object;"⟩
abbrev M_39 : MethodName := ⟨s_30, "copyOf", "([Ljava/lang/Object;I)[Ljava/lang/Object;"⟩
abbrev M_40 : MethodName := ⟨s_1, "toArray", "()[Ljava/lang/Object;"⟩
abbrev M_41 : MethodName := ⟨s_2, "of", "([Ljava/lang/Object;)Ljava/util/List;"⟩
abbrev M_42 : MethodName := ⟨"java/util/Collection", "toArray", "()[Ljava/lang/Object;"⟩
abbrev M_43 : MethodName := ⟨s_18, "listFromArray", "([Ljava/lang/Object;)Ljava/util/List;"⟩
abbrev M_44 : MethodName := ⟨s_42, "members", "(I)Ljava/util/ArrayList;"⟩
abbrev M_45 : MethodName := ⟨s_10, "<init>", "(IILjava/util/List;Ljava/util/List;Ljava/util/List;Ljava/util/List;Ljava/util/List;Ljava/util/List;Ljava/util/List;)V"⟩
abbrev M_46 : MethodName := ⟨s_16, "size", "()I"⟩
abbrev M_47 : MethodName := ⟨s_13, "size", "()I"⟩
abbrev M_48 : MethodName := ⟨s_13, "get", "(I)Ljava/lang/Object;"⟩
abbrev M_49 : MethodName := ⟨s_16, "get", "(I)Ljava/lang/Object;"⟩
abbrev M_50 : MethodName := ⟨s_45, "iterator", "()Ljava/util/Iterator;"⟩
abbrev M_51 : MethodName := ⟨s_45, "size", "()I"⟩
abbrev M_52 : MethodName := ⟨s_6, "hasNext", "()Z"⟩
abbrev M_53 : MethodName := ⟨s_6, "next", "()Ljava/lang/Object;"⟩
abbrev M_54 : MethodName := ⟨s_2, "get", "(I)Ljava/lang/Object;"⟩
abbrev M_55 : MethodName := ⟨s_14, "getEntry", "(Ljava/lang/Object;)Ljava/util/TreeMap$Entry;"⟩
abbrev M_56 : MethodName := ⟨s_14, "remove", "(Ljava/lang/Object;)Ljava/lang/Object;"⟩
abbrev M_57 : MethodName := ⟨s_1, "iterator", "()Ljava/util/Iterator;"⟩
abbrev M_58 : MethodName := ⟨s_19, "hasNext", "()Z"⟩
abbrev M_59 : MethodName := ⟨s_1, "clear", "()V"⟩
abbrev M_60 : MethodName := ⟨s_5, "takeIn", "(Lcom/example/hot_potato/hotpotato/Message$Probe;)V"⟩
abbrev M_61 : MethodName := ⟨s_2, "iterator", "()Ljava/util/Iterator;"⟩
abbrev M_62 : MethodName := ⟨s_44, "hasNext", "()Z"⟩
abbrev M_63 : MethodName := ⟨s_30, "fill", "([JJ)V"⟩
abbrev M_64 : MethodName := ⟨s_30, "fill", "([Ljava/lang/Object;Ljava/lang/Object;)V"⟩
abbrev M_65 : MethodName := ⟨s_5, "<init>", "(III[Z)V"⟩
abbrev M_66 : MethodName := ⟨s_5, "learned", "(I)V"⟩
abbrev M_67 : MethodName := ⟨s_5, "upToDate", "(I)Z"⟩
abbrev M_68 : MethodName := ⟨s_5, "complete", "()Z"⟩
abbrev M_69 : MethodName := ⟨s_42, "fine", "(IIIIIIII)Z"⟩
abbrev M_70 : MethodName := ⟨s_5, "returned", "(Lcom/example/hot_potato/hotpotato/Message$Probe;Lcom/example/hot_potato/hotpotato/Message$Probe;)V"⟩
abbrev M_71 : MethodName := ⟨s_2, "size", "()I"⟩
abbrev M_72 : MethodName := ⟨s_2, "clear", "()V"⟩
abbrev M_73 : MethodName := ⟨s_7, "remove", "(Ljava/lang/Object;)Ljava/lang/Object;"⟩
abbrev M_74 : MethodName := ⟨s_44, "next", "()Ljava/lang/Object;"⟩
abbrev la0 (a0 : Addr) (a1 : Int32) (a2 : Int64) (a4 : Int32) (a5 : Int32) : Array Slot := #[.val (.ref a0), .val (.int a1), .val (.long a2), .second, .val (.int a4), .val (.int a5)]
abbrev la1 (a0 : Addr) (a1 : Int32) (a2 : Int32) (a3 : Addr) (a4 : Addr) (a5 : Addr) (a6 : Addr) (a7 : Addr) (a8 : Addr) (a9 : Addr) : Array Slot := #[.val (.ref a0), .val (.int a1), .val (.int a2), .val (.ref a3), .val (.ref a4), .val (.ref a5), .val (.ref a6), .val (.ref a7), .val (.ref a8), .val (.ref a9)]
abbrev la2 (a0 : Addr) (a1 : Addr) : Array Slot := #[.val (.ref a0), .val (.ref a1), .unset, .unset, .unset]
abbrev la3 (a0 : Addr) (a1 : Addr) (a2 : Addr) : Array Slot := #[.val (.ref a0), .val (.ref a1), .val (.ref a2), .unset, .unset]
abbrev la4 (a0 : Addr) (a1 : Addr) (a2 : Addr) : Array Slot := #[.val (.ref a0), .val (.ref a1), .val (.ref a2), .val .null, .unset]
abbrev la5 (a0 : Addr) (a1 : Int64) : Array Slot := #[.val (.ref a0), .val (.long a1), .second, .unset, .unset]
abbrev la6 (a0 : Addr) (a1 : Int64) (a3 : Int32) : Array Slot := #[.val (.ref a0), .val (.long a1), .second, .val (.int a3), .unset]
abbrev la7 (a0 : Addr) (a1 : Int64) (a3 : Int32) (a4 : Int32) : Array Slot := #[.val (.ref a0), .val (.long a1), .second, .val (.int a3), .val (.int a4)]
abbrev la8 (a0 : Addr) (a1 : Int32) (a2 : Int32) (a3 : Int32) (a4 : Addr) : Array Slot := #[.val (.ref a0), .val (.int a1), .val (.int a2), .val (.int a3), .val (.ref a4)]
abbrev la9 (a0 : Int32) (a1 : Int32) (a2 : Int32) (a3 : Int32) (a4 : Int32) (a5 : Int32) (a6 : Int32) (a7 : Int32) : Array Slot := #[.val (.int a0), .val (.int a1), .val (.int a2), .val (.int a3), .val (.int a4), .val (.int a5), .val (.int a6), .val (.int a7), .unset]
abbrev la10 (a0 : Int32) (a1 : Int32) (a2 : Int32) (a3 : Int32) (a4 : Int32) (a5 : Int32) (a6 : Int32) (a7 : Int32) (a8 : Int32) : Array Slot := #[.val (.int a0), .val (.int a1), .val (.int a2), .val (.int a3), .val (.int a4), .val (.int a5), .val (.int a6), .val (.int a7), .val (.int a8)]
abbrev la11 (a0 : Addr) (a1 : Addr) (a2 : Addr) : Array Slot := #[.val (.ref a0), .val (.ref a1), .val (.ref a2), .unset, .unset, .unset, .unset]
abbrev la12 (a0 : Addr) (a1 : Addr) (a2 : Addr) (a3 : Int64) : Array Slot := #[.val (.ref a0), .val (.ref a1), .val (.ref a2), .val (.long a3), .second, .unset, .unset]
abbrev la13 (a0 : Addr) (a1 : Addr) (a2 : Addr) (a3 : Int64) (a5 : Addr) (a6 : Slot) : Array Slot := #[.val (.ref a0), .val (.ref a1), .val (.ref a2), .val (.long a3), .second, .val (.ref a5), a6]
abbrev la14 (a0 : Addr) (a1 : Addr) (a2 : Addr) (a3 : Int64) (a5 : Int32) (a6 : Slot) : Array Slot := #[.val (.ref a0), .val (.ref a1), .val (.ref a2), .val (.long a3), .second, .val (.int a5), a6]
abbrev la15 (a0 : Addr) (a1 : Addr) (a2 : Addr) (a3 : Int64) (a5 : Int32) (a6 : Int32) : Array Slot := #[.val (.ref a0), .val (.ref a1), .val (.ref a2), .val (.long a3), .second, .val (.int a5), .val (.int a6)]
abbrev la16 (a0 : Addr) (a1 : Addr) (a2 : Addr) (a3 : Int64) (a5 : Addr) : Array Slot := #[.val (.ref a0), .val (.ref a1), .val (.ref a2), .val (.long a3), .second, .val (.ref a5), .unset]
abbrev la17 (a0 : Addr) (a1 : Addr) (a2 : Addr) (a3 : Int64) (a5 : Addr) (a6 : Addr) : Array Slot := #[.val (.ref a0), .val (.ref a1), .val (.ref a2), .val (.long a3), .second, .val (.ref a5), .val (.ref a6)]
abbrev la18 (a0 : Addr) (a1 : Addr) (a2 : Addr) (a3 : Addr) : Array Slot := #[.val (.ref a0), .val (.ref a1), .val (.ref a2), .val (.ref a3), .unset, .unset, .unset]
abbrev la19 (a0 : Addr) (a1 : Addr) (a2 : Addr) (a3 : Addr) (a4 : Int32) : Array Slot := #[.val (.ref a0), .val (.ref a1), .val (.ref a2), .val (.ref a3), .val (.int a4), .unset, .unset]
abbrev la20 (a0 : Int32) (a1 : Int32) (a2 : Int32) (a3 : Int32) (a4 : Int32) (a5 : Int32) : Array Slot := #[.val (.int a0), .val (.int a1), .val (.int a2), .val (.int a3), .val (.int a4), .val (.int a5), .unset, .unset, .unset, .unset, .unset, .unset, .unset, .unset, .unset, .unset, .unset, .unset, .unset, .unset, .unset, .unset, .unset, .unset, .unset, .unset, .unset, .unset, .unset]
abbrev la21 (a0 : Int32) (a1 : Int32) (a2 : Int32) (a3 : Int32) (a4 : Int32) (a5 : Int32) (a6 : Int32) : Array Slot := #[.val (.int a0), .val (.int a1), .val (.int a2), .val (.int a3), .val (.int a4), .val (.int a5), .val (.int a6), .unset, .unset, .unset, .unset, .unset, .unset, .unset, .unset, .unset, .unset, .unset, .unset, .unset, .unset, .unset, .unset, .unset, .unset, .unset, .unset, .unset, .unset]
abbrev la22 (a0 : Int32) (a1 : Int32) (a2 : Int32) (a3 : Int32) (a4 : Int32) (a5 : Int32) (a6 : Int32) (a7 : Int32) : Array Slot := #[.val (.int a0), .val (.int a1), .val (.int a2), .val (.int a3), .val (.int a4), .val (.int a5), .val (.int a6), .val (.int a7), .unset, .unset, .unset, .unset, .unset, .unset, .unset, .unset, .unset, .unset, .unset, .unset, .unset, .unset, .unset, .unset, .unset, .unset, .unset, .unset, .unset]
abbrev la23 (a0 : Int32) (a1 : Int32) (a2 : Int32) (a3 : Int32) (a4 : Int32) (a5 : Int32) (a6 : Int32) (a7 : Int32) (a8 : Int32) : Array Slot := #[.val (.int a0), .val (.int a1), .val (.int a2), .val (.int a3), .val (.int a4), .val (.int a5), .val (.int a6), .val (.int a7), .val (.int a8), .unset, .unset, .unset, .unset, .unset, .unset, .unset, .unset, .unset, .unset, .unset, .unset, .unset, .unset, .unset, .unset, .unset, .unset, .unset, .unset]
abbrev la24 (a0 : Int32) (a1 : Int32) (a2 : Int32) (a3 : Int32) (a4 : Int32) (a5 : Int32) (a6 : Int32) (a7 : Int32) (a8 : Int32) (a9 : Int32) : Array Slot := #[.val (.int a0), .val (.int a1), .val (.int a2), .val (.int a3), .val (.int a4), .val (.int a5), .val (.int a6), .val (.int a7), .val (.int a8), .val (.int a9), .unset, .unset, .unset, .unset, .unset, .unset, .unset, .unset, .unset, .unset, .unset, .unset, .unset, .unset, .unset, .unset, .unset, .unset, .unset]
abbrev la25 (a0 : Int32) (a1 : Int32) (a2 : Int32) (a3 : Int32) (a4 : Int32) (a5 : Int32) (a6 : Int32) (a7 : Int32) (a8 : Int32) (a9 : Int32) (a10 : Int32) : Array Slot := #[.val (.int a0), .val (.int a1), .val (.int a2), .val (.int a3), .val (.int a4), .val (.int a5), .val (.int a6), .val (.int a7), .val (.int a8), .val (.int a9), .val (.int a10), .unset, .unset, .unset, .unset, .unset, .unset, .unset, .unset, .unset, .unset, .unset, .unset, .unset, .unset, .unset, .unset, .unset, .unset]
abbrev la26 (a0 : Int32) (a1 : Int32) (a2 : Int32) (a3 : Int32) (a4 : Int32) (a5 : Int32) (a6 : Int32) (a7 : Int32) (a8 : Int32) (a9 : Int32) (a10 : Int32) (a11 : Int32) : Array Slot := #[.val (.int a0), .val (.int a1), .val (.int a2), .val (.int a3), .val (.int a4), .val (.int a5), .val (.int a6), .val (.int a7), .val (.int a8), .val (.int a9), .val (.int a10), .val (.int a11), .unset, .unset, .unset, .unset, .unset, .unset, .unset, .unset, .unset, .unset, .unset, .unset, .unset, .unset, .unset, .unset, .unset]
abbrev la27 (a0 : Int32) (a1 : Int32) (a2 : Int32) (a3 : Int32) (a4 : Int32) (a5 : Int32) (a6 : Int32) (a7 : Int32) (a8 : Int32) (a9 : Int32) (a10 : Int32) (a11 : Int32) (a12 : Int32) : Array Slot := #[.val (.int a0), .val (.int a1), .val (.int a2), .val (.int a3), .val (.int a4), .val (.int a5), .val (.int a6), .val (.int a7), .val (.int a8), .val (.int a9), .val (.int a10), .val (.int a11), .val (.int a12), .unset, .unset, .unset, .unset, .unset, .unset, .unset, .unset, .unset, .unset, .unset, .unset, .unset, .unset, .unset, .unset]
abbrev la28 (a0 : Int32) (a1 : Int32) (a2 : Int32) (a3 : Int32) (a4 : Int32) (a5 : Int32) (a6 : Int32) (a7 : Int32) (a8 : Int32) (a9 : Int32) (a10 : Int32) (a11 : Int32) (a12 : Int32) (a13 : Int32) : Array Slot := #[.val (.int a0), .val (.int a1), .val (.int a2), .val (.int a3), .val (.int a4), .val (.int a5), .val (.int a6), .val (.int a7), .val (.int a8), .val (.int a9), .val (.int a10), .val (.int a11), .val (.int a12), .val (.int a13), .unset, .unset, .unset, .unset, .unset, .unset, .unset, .unset, .unset, .unset, .unset, .unset, .unset, .unset, .unset]
abbrev la29 (a0 : Int32) (a1 : Int32) (a2 : Int32) (a3 : Int32) (a4 : Int32) (a5 : Int32) (a6 : Int32) (a7 : Int32) (a8 : Int32) (a9 : Int32) (a10 : Int32) (a11 : Int32) (a12 : Int32) (a13 : Int32) (a14 : Int32) : Array Slot := #[.val (.int a0), .val (.int a1), .val (.int a2), .val (.int a3), .val (.int a4), .val (.int a5), .val (.int a6), .val (.int a7), .val (.int a8), .val (.int a9), .val (.int a10), .val (.int a11), .val (.int a12), .val (.int a13), .val (.int a14), .unset, .unset, .unset, .unset, .unset, .unset, .unset, .unset, .unset, .unset, .unset, .unset, .unset, .unset]
abbrev la30 (a0 : Int32) (a1 : Int32) (a2 : Int32) (a3 : Int32) (a4 : Int32) (a5 : Int32) (a6 : Int32) (a7 : Int32) (a8 : Int32) (a9 : Int32) (a10 : Int32) (a11 : Int32) (a12 : Int32) (a13 : Int32) (a14 : Int32) (a15 : Int32) : Array Slot := #[.val (.int a0), .val (.int a1), .val (.int a2), .val (.int a3), .val (.int a4), .val (.int a5), .val (.int a6), .val (.int a7), .val (.int a8), .val (.int a9), .val (.int a10), .val (.int a11), .val (.int a12), .val (.int a13), .val (.int a14), .val (.int a15), .unset, .unset, .unset, .unset, .unset, .unset, .unset, .unset, .unset, .unset, .unset, .unset, .unset]
abbrev la31 (a0 : Int32) (a1 : Int32) (a2 : Int32) (a3 : Int32) (a4 : Int32) (a5 : Int32) (a6 : Int32) (a7 : Int32) (a8 : Int32) (a9 : Int32) (a10 : Int32) (a11 : Int32) (a12 : Int32) (a13 : Int32) (a14 : Int32) (a15 : Int32) (a16 : Int32) : Array Slot := #[.val (.int a0), .val (.int a1), .val (.int a2), .val (.int a3), .val (.int a4), .val (.int a5), .val (.int a6), .val (.int a7), .val (.int a8), .val (.int a9), .val (.int a10), .val (.int a11), .val (.int a12), .val (.int a13), .val (.int a14), .val (.int a15), .val (.int a16), .unset, .unset, .unset, .unset, .unset, .unset, .unset, .unset, .unset, .unset, .unset, .unset]
abbrev la32 (a0 : Int32) (a1 : Int32) (a2 : Int32) (a3 : Int32) (a4 : Int32) (a5 : Int32) (a6 : Int32) (a7 : Int32) (a8 : Int32) (a9 : Int32) (a10 : Int32) (a11 : Int32) (a12 : Int32) (a13 : Int32) (a14 : Int32) (a15 : Int32) (a16 : Int32) (a17 : Int32) : Array Slot := #[.val (.int a0), .val (.int a1), .val (.int a2), .val (.int a3), .val (.int a4), .val (.int a5), .val (.int a6), .val (.int a7), .val (.int a8), .val (.int a9), .val (.int a10), .val (.int a11), .val (.int a12), .val (.int a13), .val (.int a14), .val (.int a15), .val (.int a16), .val (.int a17), .unset, .unset, .unset, .unset, .unset, .unset, .unset, .unset, .unset, .unset, .unset]
abbrev la33 (a0 : Int32) (a1 : Int32) (a2 : Int32) (a3 : Int32) (a4 : Int32) (a5 : Int32) (a6 : Int32) (a7 : Int32) (a8 : Int32) (a9 : Int32) (a10 : Int32) (a11 : Int32) (a12 : Int32) (a13 : Int32) (a14 : Int32) (a15 : Int32) (a16 : Int32) (a17 : Int32) (a18 : Int32) : Array Slot := #[.val (.int a0), .val (.int a1), .val (.int a2), .val (.int a3), .val (.int a4), .val (.int a5), .val (.int a6), .val (.int a7), .val (.int a8), .val (.int a9), .val (.int a10), .val (.int a11), .val (.int a12), .val (.int a13), .val (.int a14), .val (.int a15), .val (.int a16), .val (.int a17), .val (.int a18), .unset, .unset, .unset, .unset, .unset, .unset, .unset, .unset, .unset, .unset]
abbrev la34 (a0 : Int32) (a1 : Int32) (a2 : Int32) (a3 : Int32) (a4 : Int32) (a5 : Int32) (a6 : Int32) (a7 : Int32) (a8 : Int32) (a9 : Int32) (a10 : Int32) (a11 : Int32) (a12 : Int32) (a13 : Int32) (a14 : Int32) (a15 : Int32) (a16 : Int32) (a17 : Int32) (a18 : Int32) (a19 : Addr) : Array Slot := #[.val (.int a0), .val (.int a1), .val (.int a2), .val (.int a3), .val (.int a4), .val (.int a5), .val (.int a6), .val (.int a7), .val (.int a8), .val (.int a9), .val (.int a10), .val (.int a11), .val (.int a12), .val (.int a13), .val (.int a14), .val (.int a15), .val (.int a16), .val (.int a17), .val (.int a18), .val (.ref a19), .unset, .unset, .unset, .unset, .unset, .unset, .unset, .unset, .unset]
abbrev la35 (a0 : Int32) (a1 : Int32) (a2 : Int32) (a3 : Int32) (a4 : Int32) (a5 : Int32) (a6 : Int32) (a7 : Int32) (a8 : Int32) (a9 : Int32) (a10 : Int32) (a11 : Int32) (a12 : Int32) (a13 : Int32) (a14 : Int32) (a15 : Int32) (a16 : Int32) (a17 : Int32) (a18 : Int32) (a19 : Addr) (a20 : Addr) : Array Slot := #[.val (.int a0), .val (.int a1), .val (.int a2), .val (.int a3), .val (.int a4), .val (.int a5), .val (.int a6), .val (.int a7), .val (.int a8), .val (.int a9), .val (.int a10), .val (.int a11), .val (.int a12), .val (.int a13), .val (.int a14), .val (.int a15), .val (.int a16), .val (.int a17), .val (.int a18), .val (.ref a19), .val (.ref a20), .unset, .unset, .unset, .unset, .unset, .unset, .unset, .unset]
abbrev la36 (a0 : Int32) (a1 : Int32) (a2 : Int32) (a3 : Int32) (a4 : Int32) (a5 : Int32) (a6 : Int32) (a7 : Int32) (a8 : Int32) (a9 : Int32) (a10 : Int32) (a11 : Int32) (a12 : Int32) (a13 : Int32) (a14 : Int32) (a15 : Int32) (a16 : Int32) (a17 : Int32) (a18 : Int32) (a19 : Addr) (a20 : Addr) (a21 : Addr) : Array Slot := #[.val (.int a0), .val (.int a1), .val (.int a2), .val (.int a3), .val (.int a4), .val (.int a5), .val (.int a6), .val (.int a7), .val (.int a8), .val (.int a9), .val (.int a10), .val (.int a11), .val (.int a12), .val (.int a13), .val (.int a14), .val (.int a15), .val (.int a16), .val (.int a17), .val (.int a18), .val (.ref a19), .val (.ref a20), .val (.ref a21), .unset, .unset, .unset, .unset, .unset, .unset, .unset]
abbrev la37 (a0 : Int32) (a1 : Int32) (a2 : Int32) (a3 : Int32) (a4 : Int32) (a5 : Int32) (a6 : Int32) (a7 : Int32) (a8 : Int32) (a9 : Int32) (a10 : Int32) (a11 : Int32) (a12 : Int32) (a13 : Int32) (a14 : Int32) (a15 : Int32) (a16 : Int32) (a17 : Int32) (a18 : Int32) (a19 : Addr) (a20 : Addr) (a21 : Addr) (a22 : Addr) : Array Slot := #[.val (.int a0), .val (.int a1), .val (.int a2), .val (.int a3), .val (.int a4), .val (.int a5), .val (.int a6), .val (.int a7), .val (.int a8), .val (.int a9), .val (.int a10), .val (.int a11), .val (.int a12), .val (.int a13), .val (.int a14), .val (.int a15), .val (.int a16), .val (.int a17), .val (.int a18), .val (.ref a19), .val (.ref a20), .val (.ref a21), .val (.ref a22), .unset, .unset, .unset, .unset, .unset, .unset]
abbrev la38 (a0 : Int32) (a1 : Int32) (a2 : Int32) (a3 : Int32) (a4 : Int32) (a5 : Int32) (a6 : Int32) (a7 : Int32) (a8 : Int32) (a9 : Int32) (a10 : Int32) (a11 : Int32) (a12 : Int32) (a13 : Int32) (a14 : Int32) (a15 : Int32) (a16 : Int32) (a17 : Int32) (a18 : Int32) (a19 : Addr) (a20 : Addr) (a21 : Addr) (a22 : Addr) (a23 : Addr) : Array Slot := #[.val (.int a0), .val (.int a1), .val (.int a2), .val (.int a3), .val (.int a4), .val (.int a5), .val (.int a6), .val (.int a7), .val (.int a8), .val (.int a9), .val (.int a10), .val (.int a11), .val (.int a12), .val (.int a13), .val (.int a14), .val (.int a15), .val (.int a16), .val (.int a17), .val (.int a18), .val (.ref a19), .val (.ref a20), .val (.ref a21), .val (.ref a22), .val (.ref a23), .unset, .unset, .unset, .unset, .unset]
abbrev la39 (a0 : Int32) (a1 : Int32) (a2 : Int32) (a3 : Int32) (a4 : Int32) (a5 : Int32) (a6 : Int32) (a7 : Int32) (a8 : Int32) (a9 : Int32) (a10 : Int32) (a11 : Int32) (a12 : Int32) (a13 : Int32) (a14 : Int32) (a15 : Int32) (a16 : Int32) (a17 : Int32) (a18 : Int32) (a19 : Addr) (a20 : Addr) (a21 : Addr) (a22 : Addr) (a23 : Addr) (a24 : Addr) : Array Slot := #[.val (.int a0), .val (.int a1), .val (.int a2), .val (.int a3), .val (.int a4), .val (.int a5), .val (.int a6), .val (.int a7), .val (.int a8), .val (.int a9), .val (.int a10), .val (.int a11), .val (.int a12), .val (.int a13), .val (.int a14), .val (.int a15), .val (.int a16), .val (.int a17), .val (.int a18), .val (.ref a19), .val (.ref a20), .val (.ref a21), .val (.ref a22), .val (.ref a23), .val (.ref a24), .unset, .unset, .unset, .unset]
abbrev la40 (a0 : Int32) (a1 : Int32) (a2 : Int32) (a3 : Int32) (a4 : Int32) (a5 : Int32) (a6 : Int32) (a7 : Int32) (a8 : Int32) (a9 : Int32) (a10 : Int32) (a11 : Int32) (a12 : Int32) (a13 : Int32) (a14 : Int32) (a15 : Int32) (a16 : Int32) (a17 : Int32) (a18 : Int32) (a19 : Addr) (a20 : Addr) (a21 : Addr) (a22 : Addr) (a23 : Addr) (a24 : Addr) (a25 : Int32) : Array Slot := #[.val (.int a0), .val (.int a1), .val (.int a2), .val (.int a3), .val (.int a4), .val (.int a5), .val (.int a6), .val (.int a7), .val (.int a8), .val (.int a9), .val (.int a10), .val (.int a11), .val (.int a12), .val (.int a13), .val (.int a14), .val (.int a15), .val (.int a16), .val (.int a17), .val (.int a18), .val (.ref a19), .val (.ref a20), .val (.ref a21), .val (.ref a22), .val (.ref a23), .val (.ref a24), .val (.int a25), .unset, .unset, .unset]
abbrev la41 (a0 : Int32) (a1 : Int32) (a2 : Int32) (a3 : Int32) (a4 : Int32) (a5 : Int32) (a6 : Int32) (a7 : Int32) (a8 : Int32) (a9 : Int32) (a10 : Int32) (a11 : Int32) (a12 : Int32) (a13 : Int32) (a14 : Int32) (a15 : Int32) (a16 : Int32) (a17 : Int32) (a18 : Int32) (a19 : Addr) (a20 : Addr) (a21 : Addr) (a22 : Addr) (a23 : Addr) (a24 : Addr) (a25 : Int32) (a26 : Int32) : Array Slot := #[.val (.int a0), .val (.int a1), .val (.int a2), .val (.int a3), .val (.int a4), .val (.int a5), .val (.int a6), .val (.int a7), .val (.int a8), .val (.int a9), .val (.int a10), .val (.int a11), .val (.int a12), .val (.int a13), .val (.int a14), .val (.int a15), .val (.int a16), .val (.int a17), .val (.int a18), .val (.ref a19), .val (.ref a20), .val (.ref a21), .val (.ref a22), .val (.ref a23), .val (.ref a24), .val (.int a25), .val (.int a26), .unset, .unset]
abbrev la42 (a0 : Int32) (a1 : Int32) (a2 : Int32) (a3 : Int32) (a4 : Int32) (a5 : Int32) (a6 : Int32) (a7 : Int32) (a8 : Int32) (a9 : Int32) (a10 : Int32) (a11 : Int32) (a12 : Int32) (a13 : Int32) (a14 : Int32) (a15 : Int32) (a16 : Int32) (a17 : Int32) (a18 : Int32) (a19 : Addr) (a20 : Addr) (a21 : Addr) (a22 : Addr) (a23 : Addr) (a24 : Addr) (a25 : Int32) (a26 : Int32) (a27 : Int32) : Array Slot := #[.val (.int a0), .val (.int a1), .val (.int a2), .val (.int a3), .val (.int a4), .val (.int a5), .val (.int a6), .val (.int a7), .val (.int a8), .val (.int a9), .val (.int a10), .val (.int a11), .val (.int a12), .val (.int a13), .val (.int a14), .val (.int a15), .val (.int a16), .val (.int a17), .val (.int a18), .val (.ref a19), .val (.ref a20), .val (.ref a21), .val (.ref a22), .val (.ref a23), .val (.ref a24), .val (.int a25), .val (.int a26), .val (.int a27), .unset]
abbrev la43 (a0 : Int32) (a1 : Int32) (a2 : Int32) (a3 : Int32) (a4 : Int32) (a5 : Int32) (a6 : Int32) (a7 : Int32) (a8 : Int32) (a9 : Int32) (a10 : Int32) (a11 : Int32) (a12 : Int32) (a13 : Int32) (a14 : Int32) (a15 : Int32) (a16 : Int32) (a17 : Int32) (a18 : Int32) (a19 : Addr) (a20 : Addr) (a21 : Addr) (a22 : Addr) (a23 : Addr) (a24 : Addr) (a25 : Int32) (a26 : Int32) (a27 : Int32) (a28 : Int32) : Array Slot := #[.val (.int a0), .val (.int a1), .val (.int a2), .val (.int a3), .val (.int a4), .val (.int a5), .val (.int a6), .val (.int a7), .val (.int a8), .val (.int a9), .val (.int a10), .val (.int a11), .val (.int a12), .val (.int a13), .val (.int a14), .val (.int a15), .val (.int a16), .val (.int a17), .val (.int a18), .val (.ref a19), .val (.ref a20), .val (.ref a21), .val (.ref a22), .val (.ref a23), .val (.ref a24), .val (.int a25), .val (.int a26), .val (.int a27), .val (.int a28)]
section Wk
variable (l : Launch) (Z : State) (a0 : Array Value) (hw : ∀ d ∈ tables_1, d.before a0 Z = true) (ws : List Jvm.Cond)
def t_1 : List (Nat × Instr × Nat) := [(0, .iload_n 0, 1), (1, .iconst 1, 1), (2, .iand, 1), (3, .iload_n 0, 1), (4, .iconst 1, 1), (5, .ishr, 1), (6, .iconst 1, 1), (7, .iand, 1), (8, .iadd, 1), (9, .iload_n 0, 1), (10, .iconst 2, 1), (11, .ishr, 1), (12, .iconst 1, 1), (13, .iand, 1), (14, .iadd, 1), (15, .iload_n 0, 1), (16, .iconst 3, 1), (17, .ishr, 1), (18, .iconst 1, 1), (19, .iand, 1), (20, .iadd, 1), (21, .ireturn, 1)]
theorem q_1 : ∀ i : Fin 22, decode c_1 (gt t_1 i.1).1 = .ok ((gt t_1 i.1).2.1, (gt t_1 i.1).2.2) := by decide +kernel
theorem ef_1 (m : MethodId) (x0 : Int32) : entryFrame m #[(.int x0)] 1 = mkF m 0 #[.val (.int x0)] [] := by first | (simp [entryFrame, mkF, argsToLocals, Value.category]; done) | rfl
def f_1 (p0 : Int32) : Int32 := ((((p0 &&& (1 : Int32)) + ((p0 >>> ((1 : Int32) &&& 31)) &&& (1 : Int32))) + ((p0 >>> ((2 : Int32) &&& 31)) &&& (1 : Int32))) + ((p0 >>> ((3 : Int32) &&& 31)) &&& (1 : Int32)))
def Q1 (Z : State) (p0 : Int32) (h0 : Heap) (n0 : Nat) (v : Option Value) (h : Heap) (L : List Loc) : Prop := v = some (.int (f_1 p0)) ∧ Fr n0 L ∧ h = h0
set_option maxRecDepth 65536 in
set_option maxHeartbeats 40000000 in
theorem rm1 (p0 : Int32) (h0 : Heap) (n0 : Nat) (Z0 : n0 ≤ h0.size) :
  Mt hw l M_0 (Jvm.Cond.code M_0 c_1 1 (some .int)) ws R_0_0_0_0 #[(.int p0)] h0 (Q1 Z p0 h0 n0) := by
 refine ent s_42 rfl hisR fun p e s m below meth c s₁ Bd hx hby hml hown hnm hlk hZ X0 e0 => ?_
 have D := fun i => hb hby (q_1 i)
 have u := hU hw
 have N0 := Fr.nil n0
 rw [ef_1]
 show gO (tF s₁ m 0 #[.val (.int p0)] [])
 refine giN X0 hx (D 0) rfl ?_
 refine giC X0 hx (D 1) ?_
 refine go (XS.iand X0.here hx rfl (D 2) rfl) ?_
 refine giN X0 hx (D 3) rfl ?_
 refine giC X0 hx (D 4) ?_
 refine go (XS.ishr X0.here hx rfl (D 5) rfl) ?_
 refine giC X0 hx (D 6) ?_
 refine go (XS.iand X0.here hx rfl (D 7) rfl) ?_
 refine go (XS.iadd X0.here hx rfl (D 8) rfl) ?_
 show gO (tF s₁ m 9 #[.val (.int p0)] [(.int ((p0 &&& (1 : Int32)) + ((p0 >>> ((1 : Int32) &&& 31)) &&& (1 : Int32))))])
 refine giN X0 hx (D 9) rfl ?_
 refine giC X0 hx (D 10) ?_
 refine go (XS.ishr X0.here hx rfl (D 11) rfl) ?_
 refine giC X0 hx (D 12) ?_
 refine go (XS.iand X0.here hx rfl (D 13) rfl) ?_
 refine go (XS.iadd X0.here hx rfl (D 14) rfl) ?_
 refine giN X0 hx (D 15) rfl ?_
 refine giC X0 hx (D 16) ?_
 refine go (XS.ishr X0.here hx rfl (D 17) rfl) ?_
 show gO (tF s₁ m 18 #[.val (.int p0)] [(.int (p0 >>> ((3 : Int32) &&& 31))), (.int (((p0 &&& (1 : Int32)) + ((p0 >>> ((1 : Int32) &&& 31)) &&& (1 : Int32))) + ((p0 >>> ((2 : Int32) &&& 31)) &&& (1 : Int32))))])
 refine giC X0 hx (D 18) ?_
 refine go (XS.iand X0.here hx rfl (D 19) rfl) ?_
 refine go (XS.iadd X0.here hx rfl (D 20) rfl) ?_
 refine goI X0 hx hlk Bd.returns (D 21) ?_ (by decide) (by decide)
 show Q1 Z p0 h0 n0 (some (.int ((((p0 &&& (1 : Int32)) + ((p0 >>> ((1 : Int32) &&& 31)) &&& (1 : Int32))) + ((p0 >>> ((2 : Int32) &&& 31)) &&& (1 : Int32))) + ((p0 >>> ((3 : Int32) &&& 31)) &&& (1 : Int32))))) s₁.heap _
 exact ⟨rfl, N0, e0⟩
def t_4 : List (Nat × Instr × Nat) := [(0, .aload_n 0, 1), (1, .invokespecial 1, 3), (4, .return_, 1)]
theorem q_4 : ∀ i : Fin 3, decode c_4 (gt t_4 i.1).1 = .ok ((gt t_4 i.1).2.1, (gt t_4 i.1).2.2) := by decide +kernel
theorem ef_4 (m : MethodId) (x0 : Addr) : entryFrame m #[(.ref x0)] 1 = mkF m 0 #[.val (.ref x0)] [] := by first | (simp [entryFrame, mkF, argsToLocals, Value.category]; done) | rfl
def Q4 (Z : State) (o0 : Addr) (h0 : Heap) (n0 : Nat) (v : Option Value) (h : Heap) (L : List Loc) : Prop := v = none ∧ Fr n0 L ∧ Keep h0 h ([] : List Addr)
set_option maxRecDepth 65536 in
set_option maxHeartbeats 40000000 in
theorem rm4 (o0 : Addr) (h0 : Heap) (n0 : Nat) (Z0 : n0 ≤ h0.size) :
  Mt hw l M_1 (Jvm.Cond.code M_1 c_4 1 none) ws R_1_0_0_12 #[(.ref o0)] h0 (Q4 Z o0 h0 n0) := by
 refine ent s_41 rfl hisR fun p e s m below meth c s₁ Bd hx hby hml hown hnm hlk hZ X0 e0 => ?_
 have D := fun i => hb hby (q_4 i)
 have u := hU hw
 have N0 := Fr.nil n0
 rw [ef_4]
 show gO (tF s₁ m 0 #[.val (.ref o0)] [])
 refine gaN X0 hx (D 0) rfl rfl ?_
 obtain ⟨T1, X1, e1, st1⟩ := initO X0 hx hZ hown (u 24) (u 25) (u 26) e0 (g := (mkF m 1 #[.val (.ref o0)] [(.ref o0)])) rfl (by rw [hml]; rfl) rfl (D 1) (by decide) (W := 0) (wk rfl rfl) (by decide)
 refine gob st1 ?_
 refine goV X1 hx hlk Bd.returns (D 2) ?_ (by decide) (by decide)
 show Q4 Z o0 h0 n0 (none) T1.heap _
 rw [e1]
 exact ⟨rfl, N0, (Keep.refl h0 ([] : List Addr))⟩
def t_3 : List (Nat × Instr × Nat) := [(0, .aload_n 0, 1), (1, .invokespecial 1, 3), (4, .aload_n 0, 1), (5, .iconst 0, 1), (6, .putfield 7, 3), (9, .return_, 1)]
theorem q_3 : ∀ i : Fin 6, decode c_3 (gt t_3 i.1).1 = .ok ((gt t_3 i.1).2.1, (gt t_3 i.1).2.2) := by decide +kernel
theorem pd_0 : parseMethodDescriptor "()V" = some ⟨[], none⟩ := by decide +kernel
def Q3 (Z : State) (o0 : Addr) (h0 : Heap) (n0 : Nat) (v : Option Value) (h : Heap) (L : List Loc) : Prop := v = none ∧ Fr n0 L ∧ Keep h0 h ([o0] : List Addr) ∧ Fld Z h o0 s_9 s_12 "I" (.int 0) ∧ Fld Z h o0 s_1 s_8 s_3 .null ∧ Fld Z h o0 s_1 "size" "I" (.int 0)
set_option maxRecDepth 65536 in
set_option maxHeartbeats 40000000 in
theorem rm3 (o0 : Addr) (h0 : Heap) (n0 : Nat) (Z0 : n0 ≤ h0.size) (E_o0 : Exa Z h0 o0 s_1) (F_modCount_o0 : Fld Z h0 o0 s_9 s_12 "I" (.int 0)) (F_elementData_o0 : Fld Z h0 o0 s_1 s_8 s_3 .null) (F_size_o0 : Fld Z h0 o0 s_1 "size" "I" (.int 0)) (g_o0 : n0 ≤ o0) :
  Mt hw l M_2 (Jvm.Cond.code M_2 c_3 1 none) ws R_2_0_0_24 #[(.ref o0)] h0 (Q3 Z o0 h0 n0) := by
 refine ent s_9 rfl hisR fun p e s m below meth c s₁ Bd hx hby hml hown hnm hlk hZ X0 e0 => ?_
 have D := fun i => hb hby (q_3 i)
 have u := hU hw
 have N0 := Fr.nil n0
 rw [ef_4]
 show gO (tF s₁ m 0 #[.val (.ref o0)] [])
 refine gaN X0 hx (D 0) rfl rfl ?_
 obtain ⟨_, T1, Lc1, X1, hQ1, st1⟩ := clB X0 (X0.specialBack hx (y := M_1) rfl hown (mvT hZ (u 18)) (mvT hZ (u 19)) (mvT hZ (u 23)) (by decide) (backOf (W := 0) (rm4 l Z a0 hw [] o0 h0 n0 Z0 ) hZ (u 23) (u 22) (by decide) (by decide)) (g := (mkF m 1 #[.val (.ref o0)] [(.ref o0)])) rfl (by rw [hml]; rfl) (Steps.refl _) (a := o0) (argsL := []) (rest := []) (lenOf pd_0 rfl) rfl (wk rfl rfl) (D 1) (fun _ _ => ⟨rfl, e0, lD rfl, lD rfl⟩)) (k := 0) (n := 0) rfl rfl
 obtain ⟨rfl, Nq1, K1⟩ := hQ1
 have N1 := Fr.app N0 Nq1
 have K3 : Keep h0 T1.heap ([o0] : List Addr) := (Keep.refl h0 ([o0] : List Addr)).trans K1 all0
 refine gob (fun _ k => st1.trans k) ?_
 refine gaN X1 hx (D 2) rfl rfl ?_
 refine giC X1 hx (D 3) ?_
 have c4 := (F_modCount_o0.keep K1 nin0)
 have c5 := (E_o0.keep K1)
 obtain ⟨T6, h6, X6, e6, W6, st6⟩ := putF X1 hx hZ hown (host := "") (Or.inl (hW hw 27 rfl)) Via.refl (rfl : T1.heap = _) c4 c5 (Or.inl (hW hw 28 rfl)) (u 7) (ty := .int) (by decide) rfl rfl (g := (mkF m 6 #[.val (.ref o0)] [(.int 0), (.ref o0)])) rfl rfl (D 4)
 refine gob st6 ?_
 have N6 := Fr.snoc X6 N1 g_o0
 have K8 : Keep h0 h6 ([o0] : List Addr) := K3.wr W6 (Or.inl (List.mem_of_getElem? (i := 0) rfl))
 have Fw6 := c4.same W6
 show gO (tF T6 m 9 #[.val (.ref o0)] [])
 refine goV X6 hx hlk Bd.returns (D 5) ?_ (by decide) (by decide)
 show Q3 Z o0 h0 n0 (none) T6.heap _
 have c9 := (fo (F_elementData_o0.keep K1 nin0) W6 (Or.inl (hW hw 31 rfl)) (Or.inl (hW hw 28 rfl)) (.array (.object s_0)) .int)
 have c10 := (fo (F_size_o0.keep K1 nin0) W6 (Or.inl (hW hw 53 rfl)) (Or.inl (hW hw 28 rfl)) .int .int)
 rw [e6]
 exact ⟨rfl, N6, K8, Fw6, c9, c10⟩
def t_2 : List (Nat × Instr × Nat) := [(0, .aload_n 0, 1), (1, .invokespecial 1, 3), (4, .aload_n 0, 1), (5, .getstatic 39, 3), (8, .putfield 9, 3), (11, .return_, 1)]
theorem q_2 : ∀ i : Fin 6, decode c_2 (gt t_2 i.1).1 = .ok ((gt t_2 i.1).2.1, (gt t_2 i.1).2.2) := by decide +kernel
def Q2 (Z : State) (o0 : Addr) (w8 : Addr) (h0 : Heap) (n0 : Nat) (v : Option Value) (h : Heap) (L : List Loc) : Prop := v = none ∧ Fr n0 L ∧ Keep h0 h ([o0] : List Addr) ∧ Fld Z h o0 s_9 s_12 "I" (.int 0) ∧ Fld Z h o0 s_1 s_8 s_3 (.ref w8) ∧ Fld Z h o0 s_1 "size" "I" (.int 0)
set_option maxRecDepth 65536 in
set_option maxHeartbeats 40000000 in
theorem rm2 (o0 : Addr) (w8 : Addr) (h0 : Heap) (n0 : Nat) (Z0 : n0 ≤ h0.size) (E_o0 : Exa Z h0 o0 s_1) (F_modCount_o0 : Fld Z h0 o0 s_9 s_12 "I" (.int 0)) (F_elementData_o0 : Fld Z h0 o0 s_1 s_8 s_3 .null) (F_size_o0 : Fld Z h0 o0 s_1 "size" "I" (.int 0)) (g_o0 : n0 ≤ o0) (S_DEFAULTCAPACITY_EMPTY_ELEMENTDATA : Sta Z h0 s_1 s_28 s_3 (.ref w8)) :
  Mt hw l M_3 (Jvm.Cond.code M_3 c_2 1 none) ws R_3_0_0_36 #[(.ref o0)] h0 (Q2 Z o0 w8 h0 n0) := by
 refine ent s_1 rfl hisR fun p e s m below meth c s₁ Bd hx hby hml hown hnm hlk hZ X0 e0 => ?_
 have D := fun i => hb hby (q_2 i)
 have u := hU hw
 have N0 := Fr.nil n0
 rw [ef_4]
 show gO (tF s₁ m 0 #[.val (.ref o0)] [])
 refine gaN X0 hx (D 0) rfl rfl ?_
 obtain ⟨_, T1, Lc1, X1, hQ1, st1⟩ := clB X0 (X0.specialBack hx (y := M_2) rfl hown (mvT hZ (u 12)) (mvT hZ (u 13)) (mvT hZ (u 17)) (by decide) (backOf (W := 0) (rm3 l Z a0 hw [] o0 h0 n0 Z0 E_o0 F_modCount_o0 F_elementData_o0 F_size_o0 g_o0) hZ (u 17) (u 16) (by decide) (by decide)) (g := (mkF m 1 #[.val (.ref o0)] [(.ref o0)])) rfl (by rw [hml]; rfl) (Steps.refl _) (a := o0) (argsL := []) (rest := []) (lenOf pd_0 rfl) rfl (wk rfl rfl) (D 1) (fun _ _ => ⟨rfl, e0, lD rfl, lD rfl⟩)) (k := 0) (n := 0) rfl rfl
 obtain ⟨rfl, Nq1, K1, F2, F3, F4⟩ := hQ1
 have N1 := Fr.app N0 Nq1
 have ns5 := (nsS E_o0.nostat ns0)
 have K7 : Keep h0 T1.heap ([o0] : List Addr) := (Keep.refl h0 ([o0] : List Addr)).trans K1 (allS (Or.inl (List.mem_of_getElem? (i := 0) rfl)) all0)
 refine gob (fun _ k => st1.trans k) ?_
 refine gaN X1 hx (D 2) rfl rfl ?_
 have c9 := (own_staKeep S_DEFAULTCAPACITY_EMPTY_ELEMENTDATA K1 ns5)
 obtain ⟨T10, X10, e10, st10⟩ := getS2 X1 hx hZ hown (host := "") (Or.inl (hW hw 29 rfl)) Via.refl (rfl : T1.heap = _) c9 (g := (mkF m 5 #[.val (.ref o0)] [(.ref o0)])) rfl (D 3)
 refine gob st10 ?_
 have c11 := (E_o0.keep K1)
 obtain ⟨T12, h12, X12, e12, W12, st12⟩ := putF X10 hx hZ hown (host := "") (Or.inl (hW hw 30 rfl)) Via.refl e10 F3 c11 (Or.inl (hW hw 31 rfl)) (u 7) (ty := (.array (.object s_0))) (by decide) rfl rfl (g := (mkF m 8 #[.val (.ref o0)] [(.ref w8), (.ref o0)])) rfl rfl (D 4)
 refine gob st12 ?_
 have N12 := Fr.snoc X12 N1 g_o0
 have K14 : Keep h0 h12 ([o0] : List Addr) := K7.wr W12 (Or.inl (List.mem_of_getElem? (i := 0) rfl))
 have Fw12 := F3.same W12
 show gO (tF T12 m 11 #[.val (.ref o0)] [])
 refine goV X12 hx hlk Bd.returns (D 5) ?_ (by decide) (by decide)
 show Q2 Z o0 w8 h0 n0 (none) T12.heap _
 have c15 := (fo F2 W12 (Or.inl (hW hw 28 rfl)) (Or.inl (hW hw 31 rfl)) .int (.array (.object s_0)))
 have c16 := (fo F4 W12 (Or.inl (hW hw 53 rfl)) (Or.inl (hW hw 31 rfl)) .int (.array (.object s_0)))
 rw [e12]
 exact ⟨rfl, N12, K14, c15, Fw12, c16⟩
def t_12 : List (Nat × Instr × Nat) := [(0, .iload_n 0, 1), (1, .iload_n 1, 1), (2, .if_icmp .lt 7, 3), (5, .iload_n 0, 1), (6, .goto 4, 3), (9, .iload_n 1, 1), (10, .ireturn, 1)]
theorem q_12 : ∀ i : Fin 7, decode c_12 (gt t_12 i.1).1 = .ok ((gt t_12 i.1).2.1, (gt t_12 i.1).2.2) := by decide +kernel
theorem ef_12 (m : MethodId) (x0 : Int32) (x1 : Int32) : entryFrame m #[(.int x0), (.int x1)] 2 = mkF m 0 #[.val (.int x0), .val (.int x1)] [] := by first | (simp [entryFrame, mkF, argsToLocals, Value.category]; done) | rfl
def Q12 (Z : State) (p0 : Int32) (p1 : Int32) (h0 : Heap) (n0 : Nat) (v : Option Value) (h : Heap) (L : List Loc) : Prop := ∃ r : Int32, v = some (.int r) ∧ ((p0 < p1 ∧ r = p1) ∨ (¬ (p0 < p1) ∧ r = p0)) ∧ Fr n0 L ∧ h = h0
set_option maxRecDepth 65536 in
set_option maxHeartbeats 40000000 in
theorem rm12 (p0 : Int32) (p1 : Int32) (h0 : Heap) (n0 : Nat) (Z0 : n0 ≤ h0.size) :
  Mt hw l M_4 (Jvm.Cond.code M_4 c_12 2 (some .int)) ws R_0_0_0_0 #[(.int p0), (.int p1)] h0 (Q12 Z p0 p1 h0 n0) := by
 refine ent s_34 rfl (hx := (Jvm.Free.JP.mathPlain rfl (by decide +kernel))) hisR fun p e s m below meth c s₁ Bd hx hby hml hown hnm hlk hZ X0 e0 => ?_
 have D := fun i => hb hby (q_12 i)
 have u := hU hw
 have N0 := Fr.nil n0
 rw [ef_12]
 show gO (tF s₁ m 0 #[.val (.int p0), .val (.int p1)] [])
 refine giN X0 hx (D 0) rfl ?_
 refine giN X0 hx (D 1) rfl ?_
 show gO (tF s₁ m 2 #[.val (.int p0), .val (.int p1)] [(.int p1), (.int p0)])
 by_cases hc2_1 : p0 < p1
 ·skip
  refine go (XS.icmpYes X0.here hx rfl (pc0 := 2) (pc' := 9) rfl (D 2) rfl (tlt hc2_1).1 (by decide) (by decide)) ?_
  refine giN X0 hx (D 5) rfl ?_
  refine goI X0 hx hlk Bd.returns (D 6) ?_ (by decide) (by decide)
  show Q12 Z p0 p1 h0 n0 (some (.int p1)) s₁.heap _
  exact ⟨p1, rfl, (Or.inl ⟨hc2_1, rfl⟩), N0, e0⟩
 ·skip
  refine go (XS.icmpNo X0.here hx rfl (D 2) rfl (flt hc2_1).1) ?_
  refine giN X0 hx (D 3) rfl ?_
  refine go (XS.goto X0.here hx rfl (pc0 := 6) (pc' := 10) rfl (D 4) (by decide) (by decide)) ?_
  refine goI X0 hx hlk Bd.returns (D 6) ?_ (by decide) (by decide)
  show Q12 Z p0 p1 h0 n0 (some (.int p0)) s₁.heap _
  exact ⟨p0, rfl, (Or.inr ⟨hc2_1, rfl⟩), N0, e0⟩
def t_61 : List (Nat × Instr × Nat) := [(0, .lload_n 0, 1), (1, .lload_n 2, 1), (2, .lcmp, 1), (3, .ifCond .lt 7, 3), (6, .lload_n 0, 1), (7, .goto 4, 3), (10, .lload_n 2, 1), (11, .lreturn, 1)]
theorem q_61 : ∀ i : Fin 8, decode c_61 (gt t_61 i.1).1 = .ok ((gt t_61 i.1).2.1, (gt t_61 i.1).2.2) := by decide +kernel
theorem ef_61 (m : MethodId) (x0 : Int64) (x1 : Int64) : entryFrame m #[(.long x0), (.long x1)] 4 = mkF m 0 #[.val (.long x0), .second, .val (.long x1), .second] [] := by first | (simp [entryFrame, mkF, argsToLocals, Value.category]; done) | rfl
def Q61 (Z : State) (q0 : Int64) (q1 : Int64) (h0 : Heap) (n0 : Nat) (v : Option Value) (h : Heap) (L : List Loc) : Prop := ∃ r : Int64, v = some (.long r) ∧ ((q0 < q1 ∧ r = q1) ∨ (¬ (q0 < q1) ∧ r = q0)) ∧ Fr n0 L ∧ h = h0
set_option maxRecDepth 65536 in
set_option maxHeartbeats 40000000 in
theorem rm61 (q0 : Int64) (q1 : Int64) (h0 : Heap) (n0 : Nat) (Z0 : n0 ≤ h0.size) :
  Mt hw l M_5 (Jvm.Cond.code M_5 c_61 4 (some .long)) ws R_0_0_0_0 #[(.long q0), (.long q1)] h0 (Q61 Z q0 q1 h0 n0) := by
 refine ent s_34 rfl (hx := (Jvm.Free.JP.mathPlain rfl (by decide +kernel))) hisR fun p e s m below meth c s₁ Bd hx hby hml hown hnm hlk hZ X0 e0 => ?_
 have D := fun i => hb hby (q_61 i)
 have u := hU hw
 have N0 := Fr.nil n0
 rw [ef_61]
 show gO (tF s₁ m 0 #[.val (.long q0), .second, .val (.long q1), .second] [])
 refine go (XS.lloadN X0.here hx rfl (D 0) rfl) ?_
 refine go (XS.lloadN X0.here hx rfl (D 1) rfl) ?_
 refine go (XS.lcmp X0.here hx rfl (D 2) rfl) ?_
 show gO (tF s₁ m 3 #[.val (.long q0), .second, .val (.long q1), .second] [(.int (lcmpW q0 q1))])
 by_cases hc3_1 : q0 < q1
 ·skip
  refine go (XS.ifYes X0.here hx rfl (pc0 := 3) (pc' := 10) rfl (D 3) rfl ((if0 _ _).trans (tlt ((lw_lt _ _).mpr hc3_1)).1) (by decide) (by decide)) ?_
  refine go (XS.lloadN X0.here hx rfl (D 6) rfl) ?_
  refine goJ X0 hx hlk Bd.returns (D 7) ?_ (by decide) (by decide)
  show Q61 Z q0 q1 h0 n0 (some (.long q1)) s₁.heap _
  exact ⟨q1, rfl, (Or.inl ⟨hc3_1, rfl⟩), N0, e0⟩
 ·skip
  refine go (XS.ifNo X0.here hx rfl (D 3) rfl ((if0 _ _).trans (flt (mt (lw_lt _ _).mp hc3_1)).1)) ?_
  refine go (XS.lloadN X0.here hx rfl (D 4) rfl) ?_
  refine go (XS.goto X0.here hx rfl (pc0 := 7) (pc' := 11) rfl (D 5) (by decide) (by decide)) ?_
  refine goJ X0 hx hlk Bd.returns (D 7) ?_ (by decide) (by decide)
  show Q61 Z q0 q1 h0 n0 (some (.long q0)) s₁.heap _
  exact ⟨q0, rfl, (Or.inr ⟨hc3_1, rfl⟩), N0, e0⟩
def t_14 : List (Nat × Instr × Nat) := [(0, .aload_n 0, 1), (1, .invokespecial 1, 3), (4, .return_, 1)]
theorem q_14 : ∀ i : Fin 3, decode c_14 (gt t_14 i.1).1 = .ok ((gt t_14 i.1).2.1, (gt t_14 i.1).2.2) := by decide +kernel
def Q14 (Z : State) (o0 : Addr) (h0 : Heap) (n0 : Nat) (v : Option Value) (h : Heap) (L : List Loc) : Prop := v = none ∧ Fr n0 L ∧ Keep h0 h ([] : List Addr)
set_option maxRecDepth 65536 in
set_option maxHeartbeats 40000000 in
theorem rm14 (o0 : Addr) (h0 : Heap) (n0 : Nat) (Z0 : n0 ≤ h0.size) :
  Mt hw l M_6 (Jvm.Cond.code M_6 c_14 1 none) ws R_1_0_0_12 #[(.ref o0)] h0 (Q14 Z o0 h0 n0) := by
 refine ent "java/lang/Record" rfl hisR fun p e s m below meth c s₁ Bd hx hby hml hown hnm hlk hZ X0 e0 => ?_
 have D := fun i => hb hby (q_14 i)
 have u := hU hw
 have N0 := Fr.nil n0
 rw [ef_4]
 show gO (tF s₁ m 0 #[.val (.ref o0)] [])
 refine gaN X0 hx (D 0) rfl rfl ?_
 obtain ⟨T1, X1, e1, st1⟩ := initO X0 hx hZ hown (u 84) (u 25) (u 26) e0 (g := (mkF m 1 #[.val (.ref o0)] [(.ref o0)])) rfl (by rw [hml]; rfl) rfl (D 1) (by decide) (W := 0) (wk rfl rfl) (by decide)
 refine gob st1 ?_
 refine goV X1 hx hlk Bd.returns (D 2) ?_ (by decide) (by decide)
 show Q14 Z o0 h0 n0 (none) T1.heap _
 rw [e1]
 exact ⟨rfl, N0, (Keep.refl h0 ([] : List Addr))⟩
def t_26 : List (Nat × Instr × Nat) := [(0, .aload_n 0, 1), (1, .invokespecial 1, 3), (4, .return_, 1)]
theorem q_26 : ∀ i : Fin 3, decode c_26 (gt t_26 i.1).1 = .ok ((gt t_26 i.1).2.1, (gt t_26 i.1).2.2) := by decide +kernel
def Q26 (Z : State) (o0 : Addr) (h0 : Heap) (n0 : Nat) (v : Option Value) (h : Heap) (L : List Loc) : Prop := v = none ∧ Fr n0 L ∧ Keep h0 h ([] : List Addr)
set_option maxRecDepth 65536 in
set_option maxHeartbeats 40000000 in
theorem rm26 (o0 : Addr) (h0 : Heap) (n0 : Nat) (Z0 : n0 ≤ h0.size) :
  Mt hw l M_7 (Jvm.Cond.code M_7 c_26 1 none) ws R_2_0_0_24 #[(.ref o0)] h0 (Q26 Z o0 h0 n0) := by
 refine ent "java/util/ImmutableCollections$AbstractImmutableCollection" rfl hisR fun p e s m below meth c s₁ Bd hx hby hml hown hnm hlk hZ X0 e0 => ?_
 have D := fun i => hb hby (q_26 i)
 have u := hU hw
 have N0 := Fr.nil n0
 rw [ef_4]
 show gO (tF s₁ m 0 #[.val (.ref o0)] [])
 refine gaN X0 hx (D 0) rfl rfl ?_
 obtain ⟨_, T1, Lc1, X1, hQ1, st1⟩ := clB X0 (X0.specialBack hx (y := M_1) rfl hown (mvT hZ (u 164)) (mvT hZ (u 19)) (mvT hZ (u 23)) (by decide) (backOf (W := 0) (rm4 l Z a0 hw [] o0 h0 n0 Z0 ) hZ (u 23) (u 22) (by decide) (by decide)) (g := (mkF m 1 #[.val (.ref o0)] [(.ref o0)])) rfl (by rw [hml]; rfl) (Steps.refl _) (a := o0) (argsL := []) (rest := []) (lenOf pd_0 rfl) rfl (wk rfl rfl) (D 1) (fun _ _ => ⟨rfl, e0, lD rfl, lD rfl⟩)) (k := 0) (n := 0) rfl rfl
 obtain ⟨rfl, Nq1, K1⟩ := hQ1
 have N1 := Fr.app N0 Nq1
 have K3 : Keep h0 T1.heap ([] : List Addr) := (Keep.refl h0 ([] : List Addr)).trans K1 all0
 refine gob (fun _ k => st1.trans k) ?_
 refine goV X1 hx hlk Bd.returns (D 2) ?_ (by decide) (by decide)
 show Q26 Z o0 h0 n0 (none) T1.heap _
 exact ⟨rfl, N1, K3⟩
def t_25 : List (Nat × Instr × Nat) := [(0, .aload_n 0, 1), (1, .invokespecial 1, 3), (4, .return_, 1)]
theorem q_25 : ∀ i : Fin 3, decode c_25 (gt t_25 i.1).1 = .ok ((gt t_25 i.1).2.1, (gt t_25 i.1).2.2) := by decide +kernel
def Q25 (Z : State) (o0 : Addr) (h0 : Heap) (n0 : Nat) (v : Option Value) (h : Heap) (L : List Loc) : Prop := v = none ∧ Fr n0 L ∧ Keep h0 h ([] : List Addr)
set_option maxRecDepth 65536 in
set_option maxHeartbeats 40000000 in
theorem rm25 (o0 : Addr) (h0 : Heap) (n0 : Nat) (Z0 : n0 ≤ h0.size) :
  Mt hw l M_8 (Jvm.Cond.code M_8 c_25 1 none) ws R_3_0_0_36 #[(.ref o0)] h0 (Q25 Z o0 h0 n0) := by
 refine ent s_45 rfl hisR fun p e s m below meth c s₁ Bd hx hby hml hown hnm hlk hZ X0 e0 => ?_
 have D := fun i => hb hby (q_25 i)
 have u := hU hw
 have N0 := Fr.nil n0
 rw [ef_4]
 show gO (tF s₁ m 0 #[.val (.ref o0)] [])
 refine gaN X0 hx (D 0) rfl rfl ?_
 obtain ⟨_, T1, Lc1, X1, hQ1, st1⟩ := clB X0 (X0.specialBack hx (y := M_7) rfl hown (mvT hZ (u 158)) (mvT hZ (u 159)) (mvT hZ (u 163)) (by decide) (backOf (W := 0) (rm26 l Z a0 hw [] o0 h0 n0 Z0 ) hZ (u 163) (u 162) (by decide) (by decide)) (g := (mkF m 1 #[.val (.ref o0)] [(.ref o0)])) rfl (by rw [hml]; rfl) (Steps.refl _) (a := o0) (argsL := []) (rest := []) (lenOf pd_0 rfl) rfl (wk rfl rfl) (D 1) (fun _ _ => ⟨rfl, e0, lD rfl, lD rfl⟩)) (k := 0) (n := 0) rfl rfl
 obtain ⟨rfl, Nq1, K1⟩ := hQ1
 have N1 := Fr.app N0 Nq1
 have K3 : Keep h0 T1.heap ([] : List Addr) := (Keep.refl h0 ([] : List Addr)).trans K1 all0
 refine gob (fun _ k => st1.trans k) ?_
 refine goV X1 hx hlk Bd.returns (D 2) ?_ (by decide) (by decide)
 show Q25 Z o0 h0 n0 (none) T1.heap _
 exact ⟨rfl, N1, K3⟩
def t_27 : List (Nat × Instr × Nat) := [(0, .aload_n 0, 1), (1, .ifnonnull 11, 3), (12, .aload_n 0, 1), (13, .areturn, 1)]
theorem q_27 : ∀ i : Fin 4, decode c_27 (gt t_27 i.1).1 = .ok ((gt t_27 i.1).2.1, (gt t_27 i.1).2.2) := by decide +kernel
def Q27 (Z : State) (o0 : Addr) (h0 : Heap) (n0 : Nat) (v : Option Value) (h : Heap) (L : List Loc) : Prop := v = some (.ref o0) ∧ Fr n0 L ∧ h = h0
set_option maxRecDepth 65536 in
set_option maxHeartbeats 40000000 in
theorem rm27 (o0 : Addr) (h0 : Heap) (n0 : Nat) (Z0 : n0 ≤ h0.size) :
  Mt hw l M_9 (Jvm.Cond.code M_9 c_27 1 (some (.object s_0))) ws R_0_0_0_0 #[(.ref o0)] h0 (Q27 Z o0 h0 n0) := by
 refine ent "java/util/Objects" rfl hisR fun p e s m below meth c s₁ Bd hx hby hml hown hnm hlk hZ X0 e0 => ?_
 have D := fun i => hb hby (q_27 i)
 have u := hU hw
 have N0 := Fr.nil n0
 rw [ef_4]
 show gO (tF s₁ m 0 #[.val (.ref o0)] [])
 refine gaN X0 hx (D 0) rfl rfl ?_
 refine go (XS.ifnonnullYes X0.here hx rfl (pc0 := 1) (pc' := 12) rfl (D 1) rfl (by decide) (by decide)) ?_
 refine gaN X0 hx (D 2) rfl rfl ?_
 refine goA X0 hx hlk Bd.returns rfl rfl (D 3) ?_ (by decide) (by decide)
 show Q27 Z o0 h0 n0 (some (.ref o0)) s₁.heap _
 exact ⟨rfl, N0, e0⟩
def t_30 : List (Nat × Instr × Nat) := [(0, .aload_n 0, 1), (1, .invokespecial 1, 3), (4, .return_, 1)]
theorem q_30 : ∀ i : Fin 3, decode c_30 (gt t_30 i.1).1 = .ok ((gt t_30 i.1).2.1, (gt t_30 i.1).2.2) := by decide +kernel
def Q30 (Z : State) (o0 : Addr) (h0 : Heap) (n0 : Nat) (v : Option Value) (h : Heap) (L : List Loc) : Prop := v = none ∧ Fr n0 L ∧ Keep h0 h ([] : List Addr)
set_option maxRecDepth 65536 in
set_option maxHeartbeats 40000000 in
theorem rm30 (o0 : Addr) (h0 : Heap) (n0 : Nat) (Z0 : n0 ≤ h0.size) :
  Mt hw l M_10 (Jvm.Cond.code M_10 c_30 1 none) ws R_1_0_0_12 #[(.ref o0)] h0 (Q30 Z o0 h0 n0) := by
 refine ent "java/util/AbstractMap" rfl hisR fun p e s m below meth c s₁ Bd hx hby hml hown hnm hlk hZ X0 e0 => ?_
 have D := fun i => hb hby (q_30 i)
 have u := hU hw
 have N0 := Fr.nil n0
 rw [ef_4]
 show gO (tF s₁ m 0 #[.val (.ref o0)] [])
 refine gaN X0 hx (D 0) rfl rfl ?_
 obtain ⟨T1, X1, e1, st1⟩ := initO X0 hx hZ hown (u 212) (u 25) (u 26) e0 (g := (mkF m 1 #[.val (.ref o0)] [(.ref o0)])) rfl (by rw [hml]; rfl) rfl (D 1) (by decide) (W := 0) (wk rfl rfl) (by decide)
 refine gob st1 ?_
 refine goV X1 hx hlk Bd.returns (D 2) ?_ (by decide) (by decide)
 show Q30 Z o0 h0 n0 (none) T1.heap _
 rw [e1]
 exact ⟨rfl, N0, (Keep.refl h0 ([] : List Addr))⟩
def t_29 : List (Nat × Instr × Nat) := [(0, .aload_n 0, 1), (1, .invokespecial 1, 3), (4, .aload_n 0, 1), (5, .iconst 0, 1), (6, .putfield 7, 3), (9, .aload_n 0, 1), (10, .iconst 0, 1), (11, .putfield 13, 3), (14, .aload_n 0, 1), (15, .aconst_null, 1), (16, .putfield 16, 3), (19, .return_, 1)]
theorem q_29 : ∀ i : Fin 12, decode c_29 (gt t_29 i.1).1 = .ok ((gt t_29 i.1).2.1, (gt t_29 i.1).2.2) := by decide +kernel
def Q29 (Z : State) (o0 : Addr) (h0 : Heap) (n0 : Nat) (v : Option Value) (h : Heap) (L : List Loc) : Prop := v = none ∧ Fr n0 L ∧ Keep h0 h ([o0] : List Addr) ∧ Fld Z h o0 s_14 "size" "I" (.int 0) ∧ Fld Z h o0 s_14 s_12 "I" (.int 0) ∧ Fld Z h o0 s_14 s_22 s_23 .null ∧ Fld Z h o0 s_14 "root" s_24 .null
set_option maxRecDepth 65536 in
set_option maxHeartbeats 40000000 in
theorem rm29 (o0 : Addr) (h0 : Heap) (n0 : Nat) (Z0 : n0 ≤ h0.size) (E_o0 : Exa Z h0 o0 s_14) (F_size_o0 : Fld Z h0 o0 s_14 "size" "I" (.int 0)) (F_modCount_o0 : Fld Z h0 o0 s_14 s_12 "I" (.int 0)) (F_comparator_o0 : Fld Z h0 o0 s_14 s_22 s_23 .null) (F_root_o0 : Fld Z h0 o0 s_14 "root" s_24 .null) (g_o0 : n0 ≤ o0) :
  Mt hw l M_11 (Jvm.Cond.code M_11 c_29 1 none) ws R_2_0_0_24 #[(.ref o0)] h0 (Q29 Z o0 h0 n0) := by
 refine ent s_14 rfl hisR fun p e s m below meth c s₁ Bd hx hby hml hown hnm hlk hZ X0 e0 => ?_
 have D := fun i => hb hby (q_29 i)
 have u := hU hw
 have N0 := Fr.nil n0
 rw [ef_4]
 show gO (tF s₁ m 0 #[.val (.ref o0)] [])
 refine gaN X0 hx (D 0) rfl rfl ?_
 obtain ⟨_, T1, Lc1, X1, hQ1, st1⟩ := clB X0 (X0.specialBack hx (y := M_10) rfl hown (mvT hZ (u 206)) (mvT hZ (u 207)) (mvT hZ (u 211)) (by decide) (backOf (W := 0) (rm30 l Z a0 hw [] o0 h0 n0 Z0 ) hZ (u 211) (u 210) (by decide) (by decide)) (g := (mkF m 1 #[.val (.ref o0)] [(.ref o0)])) rfl (by rw [hml]; rfl) (Steps.refl _) (a := o0) (argsL := []) (rest := []) (lenOf pd_0 rfl) rfl (wk rfl rfl) (D 1) (fun _ _ => ⟨rfl, e0, lD rfl, lD rfl⟩)) (k := 0) (n := 0) rfl rfl
 obtain ⟨rfl, Nq1, K1⟩ := hQ1
 have N1 := Fr.app N0 Nq1
 have K3 : Keep h0 T1.heap ([o0] : List Addr) := (Keep.refl h0 ([o0] : List Addr)).trans K1 all0
 refine gob (fun _ k => st1.trans k) ?_
 refine gaN X1 hx (D 2) rfl rfl ?_
 refine giC X1 hx (D 3) ?_
 have c4 := (F_size_o0.keep K1 nin0)
 have c5 := (E_o0.keep K1)
 obtain ⟨T6, h6, X6, e6, W6, st6⟩ := putF X1 hx hZ hown (host := "") (Or.inl (hW hw 213 rfl)) Via.refl (rfl : T1.heap = _) c4 c5 (Or.inl (hW hw 214 rfl)) (u 201) (ty := .int) (by decide) rfl rfl (g := (mkF m 6 #[.val (.ref o0)] [(.int 0), (.ref o0)])) rfl rfl (D 4)
 refine gob st6 ?_
 have N6 := Fr.snoc X6 N1 g_o0
 have K8 : Keep h0 h6 ([o0] : List Addr) := K3.wr W6 (Or.inl (List.mem_of_getElem? (i := 0) rfl))
 have Fw6 := c4.same W6
 show gO (tF T6 m 9 #[.val (.ref o0)] [])
 refine gaN X6 hx (D 5) rfl rfl ?_
 refine giC X6 hx (D 6) ?_
 have c9 := (fo (F_modCount_o0.keep K1 nin0) W6 (Or.inl (hW hw 216 rfl)) (Or.inl (hW hw 214 rfl)) .int .int)
 have c10 := (c5.wr W6)
 obtain ⟨T11, h11, X11, e11, W11, st11⟩ := putF X6 hx hZ hown (host := "") (Or.inl (hW hw 215 rfl)) Via.refl e6 c9 c10 (Or.inl (hW hw 216 rfl)) (u 201) (ty := .int) (by decide) rfl rfl (g := (mkF m 11 #[.val (.ref o0)] [(.int 0), (.ref o0)])) rfl rfl (D 7)
 refine gob st11 ?_
 have N11 := Fr.snoc X11 N6 g_o0
 have K13 : Keep h0 h11 ([o0] : List Addr) := K8.wr W11 (Or.inl (List.mem_of_getElem? (i := 0) rfl))
 have Fw11 := c9.same W11
 show gO (tF T11 m 14 #[.val (.ref o0)] [])
 refine gaN X11 hx (D 8) rfl rfl ?_
 refine go (XS.aconstNull X11.here hx rfl (D 9)) ?_
 have c14 := (fo (fo (F_comparator_o0.keep K1 nin0) W6 (Or.inr (hW hw 218 rfl)) (Or.inl (hW hw 214 rfl)) (.object s_32) .int) W11 (Or.inr (hW hw 218 rfl)) (Or.inl (hW hw 216 rfl)) (.object s_32) .int)
 have c15 := (c10.wr W11)
 obtain ⟨T16, h16, X16, e16, W16, st16⟩ := putF X11 hx hZ hown (host := "") (Or.inl (hW hw 217 rfl)) Via.refl e11 c14 c15 (Or.inr ⟨(u 218), rfl, hnm⟩) (u 201) (ty := (.object s_32)) (by decide) rfl rfl (g := (mkF m 16 #[.val (.ref o0)] [.null, (.ref o0)])) rfl rfl (D 10)
 refine gob st16 ?_
 have N16 := Fr.snoc X16 N11 g_o0
 have K18 : Keep h0 h16 ([o0] : List Addr) := K13.wr W16 (Or.inl (List.mem_of_getElem? (i := 0) rfl))
 have Fw16 := c14.same W16
 show gO (tF T16 m 19 #[.val (.ref o0)] [])
 refine goV X16 hx hlk Bd.returns (D 11) ?_ (by decide) (by decide)
 show Q29 Z o0 h0 n0 (none) T16.heap _
 have c19 := (fo (fo Fw6 W11 (Or.inl (hW hw 214 rfl)) (Or.inl (hW hw 216 rfl)) .int .int) W16 (Or.inl (hW hw 214 rfl)) (Or.inr (hW hw 218 rfl)) .int (.object s_32))
 have c20 := (fo Fw11 W16 (Or.inl (hW hw 216 rfl)) (Or.inr (hW hw 218 rfl)) .int (.object s_32))
 have c21 := (fo (fo (fo (F_root_o0.keep K1 nin0) W6 (Or.inl (hW hw 390 rfl)) (Or.inl (hW hw 214 rfl)) (.object s_35) .int) W11 (Or.inl (hW hw 390 rfl)) (Or.inl (hW hw 216 rfl)) (.object s_35) .int) W16 (Or.inl (hW hw 390 rfl)) (Or.inr (hW hw 218 rfl)) (.object s_35) (.object s_32))
 rw [e16]
 exact ⟨rfl, N16, K18, c19, c20, Fw16, c21⟩
def t_33 : List (Nat × Instr × Nat) := [(0, .aload_n 0, 1), (1, .invokespecial 1, 3), (4, .aload_n 0, 1), (5, .iload_n 1, 1), (6, .putfield 7, 3), (9, .aload_n 0, 1), (10, .lload_n 2, 1), (11, .putfield 13, 3), (14, .aload_n 0, 1), (15, .iload 4, 2), (17, .putfield 17, 3), (20, .aload_n 0, 1), (21, .iload 5, 2), (23, .putfield 20, 3), (26, .return_, 1)]
theorem q_33 : ∀ i : Fin 15, decode c_33 (gt t_33 i.1).1 = .ok ((gt t_33 i.1).2.1, (gt t_33 i.1).2.2) := by decide +kernel
theorem ef_33 (m : MethodId) (x0 : Addr) (x1 : Int32) (x2 : Int64) (x3 : Int32) (x4 : Int32) : entryFrame m #[(.ref x0), (.int x1), (.long x2), (.int x3), (.int x4)] 6 = mkF m 0 #[.val (.ref x0), .val (.int x1), .val (.long x2), .second, .val (.int x3), .val (.int x4)] [] := by first | (simp [entryFrame, mkF, argsToLocals, Value.category]; done) | rfl
def Q33 (Z : State) (o0 : Addr) (p1 : Int32) (q2 : Int64) (p3 : Int32) (p4 : Int32) (h0 : Heap) (n0 : Nat) (v : Option Value) (h : Heap) (L : List Loc) : Prop := v = none ∧ Fr n0 L ∧ Keep h0 h ([o0] : List Addr) ∧ Fld Z h o0 s_15 "generation" "I" (.int p1) ∧ Fld Z h o0 s_15 "hop" "J" (.long q2) ∧ Fld Z h o0 s_15 "at" "I" (.int p3) ∧ Fld Z h o0 s_15 "passedTo" "I" (.int p4)
set_option maxRecDepth 65536 in
set_option maxHeartbeats 40000000 in
theorem rm33 (o0 : Addr) (p1 : Int32) (q2 : Int64) (p3 : Int32) (p4 : Int32) (h0 : Heap) (n0 : Nat) (Z0 : n0 ≤ h0.size) (E_o0 : Exa Z h0 o0 s_15) (F_generation_o0 : Fld Z h0 o0 s_15 "generation" "I" (.int (0 : Int32))) (g_o0 : n0 ≤ o0) (F_hop_o0 : Fld Z h0 o0 s_15 "hop" "J" (.long (0 : Int64))) (F_at_o0 : Fld Z h0 o0 s_15 "at" "I" (.int (0 : Int32))) (F_passedTo_o0 : Fld Z h0 o0 s_15 "passedTo" "I" (.int (0 : Int32))) :
  Mt hw l M_12 (Jvm.Cond.code M_12 c_33 6 none) ws R_2_0_0_24 #[(.ref o0), (.int p1), (.long q2), (.int p3), (.int p4)] h0 (Q33 Z o0 p1 q2 p3 p4 h0 n0) := by
 refine ent s_15 rfl hisR fun p e s m below meth c s₁ Bd hx hby hml hown hnm hlk hZ X0 e0 => ?_
 have D := fun i => hb hby (q_33 i)
 have u := hU hw
 have N0 := Fr.nil n0
 rw [ef_33]
 show gO (tF s₁ m 0 (la0 o0 p1 q2 p3 p4) [])
 refine gaN X0 hx (D 0) rfl rfl ?_
 obtain ⟨_, T1, Lc1, X1, hQ1, st1⟩ := clB X0 (X0.specialBack hx (y := M_6) rfl hown (mvT hZ (u 265)) (mvT hZ (u 80)) (mvT hZ (u 83)) (by decide) (backOf (W := 0) (rm14 l Z a0 hw [] o0 h0 n0 Z0 ) hZ (u 83) (u 82) (by decide) (by decide)) (g := (mkF m 1 (la0 o0 p1 q2 p3 p4) [(.ref o0)])) rfl (by rw [hml]; rfl) (Steps.refl _) (a := o0) (argsL := []) (rest := []) (lenOf pd_0 rfl) rfl (wk rfl rfl) (D 1) (fun _ _ => ⟨rfl, e0, lD rfl, lD rfl⟩)) (k := 0) (n := 0) rfl rfl
 obtain ⟨rfl, Nq1, K1⟩ := hQ1
 have N1 := Fr.app N0 Nq1
 have K3 : Keep h0 T1.heap ([o0] : List Addr) := (Keep.refl h0 ([o0] : List Addr)).trans K1 all0
 refine gob (fun _ k => st1.trans k) ?_
 refine gaN X1 hx (D 2) rfl rfl ?_
 refine giN X1 hx (D 3) rfl ?_
 have c4 := (F_generation_o0.keep K1 nin0)
 have c5 := (E_o0.keep K1)
 obtain ⟨T6, h6, X6, e6, W6, st6⟩ := putF X1 hx hZ hown (host := "") (Or.inl (hW hw 266 rfl)) Via.refl (rfl : T1.heap = _) c4 c5 (Or.inr ⟨(u 267), rfl, hnm⟩) (u 260) (ty := .int) (by decide) rfl rfl (g := (mkF m 6 (la0 o0 p1 q2 p3 p4) [(.int p1), (.ref o0)])) rfl rfl (D 4)
 refine gob st6 ?_
 have N6 := Fr.snoc X6 N1 g_o0
 have K8 : Keep h0 h6 ([o0] : List Addr) := K3.wr W6 (Or.inl (List.mem_of_getElem? (i := 0) rfl))
 have Fw6 := c4.same W6
 show gO (tF T6 m 9 (la0 o0 p1 q2 p3 p4) [])
 refine gaN X6 hx (D 5) rfl rfl ?_
 refine go (XS.lloadN X6.here hx rfl (D 6) rfl) ?_
 have c9 := (fo (F_hop_o0.keep K1 nin0) W6 (Or.inr (hW hw 269 rfl)) (Or.inr (hW hw 267 rfl)) .long .int)
 have c10 := (c5.wr W6)
 obtain ⟨T11, h11, X11, e11, W11, st11⟩ := putF X6 hx hZ hown (host := "") (Or.inl (hW hw 268 rfl)) Via.refl e6 c9 c10 (Or.inr ⟨(u 269), rfl, hnm⟩) (u 260) (ty := .long) (by decide) rfl rfl (g := (mkF m 11 (la0 o0 p1 q2 p3 p4) [(.long q2), (.ref o0)])) rfl rfl (D 7)
 refine gob st11 ?_
 have N11 := Fr.snoc X11 N6 g_o0
 have K13 : Keep h0 h11 ([o0] : List Addr) := K8.wr W11 (Or.inl (List.mem_of_getElem? (i := 0) rfl))
 have Fw11 := c9.same W11
 show gO (tF T11 m 14 (la0 o0 p1 q2 p3 p4) [])
 refine gaN X11 hx (D 8) rfl rfl ?_
 refine giM X11 hx (D 9) rfl ?_
 have c14 := (fo (fo (F_at_o0.keep K1 nin0) W6 (Or.inr (hW hw 271 rfl)) (Or.inr (hW hw 267 rfl)) .int .int) W11 (Or.inr (hW hw 271 rfl)) (Or.inr (hW hw 269 rfl)) .int .long)
 have c15 := (c10.wr W11)
 obtain ⟨T16, h16, X16, e16, W16, st16⟩ := putF X11 hx hZ hown (host := "") (Or.inl (hW hw 270 rfl)) Via.refl e11 c14 c15 (Or.inr ⟨(u 271), rfl, hnm⟩) (u 260) (ty := .int) (by decide) rfl rfl (g := (mkF m 17 (la0 o0 p1 q2 p3 p4) [(.int p3), (.ref o0)])) rfl rfl (D 10)
 refine gob st16 ?_
 have N16 := Fr.snoc X16 N11 g_o0
 have K18 : Keep h0 h16 ([o0] : List Addr) := K13.wr W16 (Or.inl (List.mem_of_getElem? (i := 0) rfl))
 have Fw16 := c14.same W16
 show gO (tF T16 m 20 (la0 o0 p1 q2 p3 p4) [])
 refine gaN X16 hx (D 11) rfl rfl ?_
 refine giM X16 hx (D 12) rfl ?_
 have c19 := (fo (fo (fo (F_passedTo_o0.keep K1 nin0) W6 (Or.inr (hW hw 273 rfl)) (Or.inr (hW hw 267 rfl)) .int .int) W11 (Or.inr (hW hw 273 rfl)) (Or.inr (hW hw 269 rfl)) .int .long) W16 (Or.inr (hW hw 273 rfl)) (Or.inr (hW hw 271 rfl)) .int .int)
 have c20 := (c15.wr W16)
 obtain ⟨T21, h21, X21, e21, W21, st21⟩ := putF X16 hx hZ hown (host := "") (Or.inl (hW hw 272 rfl)) Via.refl e16 c19 c20 (Or.inr ⟨(u 273), rfl, hnm⟩) (u 260) (ty := .int) (by decide) rfl rfl (g := (mkF m 23 (la0 o0 p1 q2 p3 p4) [(.int p4), (.ref o0)])) rfl rfl (D 13)
 refine gob st21 ?_
 have N21 := Fr.snoc X21 N16 g_o0
 have K23 : Keep h0 h21 ([o0] : List Addr) := K18.wr W21 (Or.inl (List.mem_of_getElem? (i := 0) rfl))
 have Fw21 := c19.same W21
 show gO (tF T21 m 26 (la0 o0 p1 q2 p3 p4) [])
 refine goV X21 hx hlk Bd.returns (D 14) ?_ (by decide) (by decide)
 show Q33 Z o0 p1 q2 p3 p4 h0 n0 (none) T21.heap _
 have c24 := (fo (fo (fo Fw6 W11 (Or.inr (hW hw 267 rfl)) (Or.inr (hW hw 269 rfl)) .int .long) W16 (Or.inr (hW hw 267 rfl)) (Or.inr (hW hw 271 rfl)) .int .int) W21 (Or.inr (hW hw 267 rfl)) (Or.inr (hW hw 273 rfl)) .int .int)
 have c25 := (fo (fo Fw11 W16 (Or.inr (hW hw 269 rfl)) (Or.inr (hW hw 271 rfl)) .long .int) W21 (Or.inr (hW hw 269 rfl)) (Or.inr (hW hw 273 rfl)) .long .int)
 have c26 := (fo Fw16 W21 (Or.inr (hW hw 271 rfl)) (Or.inr (hW hw 273 rfl)) .int .int)
 rw [e21]
 exact ⟨rfl, N21, K23, c24, c25, c26, Fw21⟩
def t_58 : List (Nat × Instr × Nat) := [(0, .aload_n 0, 1), (1, .invokespecial 1, 3), (4, .aload_n 0, 1), (5, .iload_n 1, 1), (6, .putfield 7, 3), (9, .aload_n 0, 1), (10, .iload_n 2, 1), (11, .putfield 13, 3), (14, .return_, 1)]
theorem q_58 : ∀ i : Fin 9, decode c_58 (gt t_58 i.1).1 = .ok ((gt t_58 i.1).2.1, (gt t_58 i.1).2.2) := by decide +kernel
theorem ef_58 (m : MethodId) (x0 : Addr) (x1 : Int32) (x2 : Int32) : entryFrame m #[(.ref x0), (.int x1), (.int x2)] 3 = mkF m 0 #[.val (.ref x0), .val (.int x1), .val (.int x2)] [] := by first | (simp [entryFrame, mkF, argsToLocals, Value.category]; done) | rfl
def Q58 (Z : State) (o0 : Addr) (p1 : Int32) (p2 : Int32) (h0 : Heap) (n0 : Nat) (v : Option Value) (h : Heap) (L : List Loc) : Prop := v = none ∧ Fr n0 L ∧ Keep h0 h ([o0] : List Addr) ∧ Fld Z h o0 s_21 "member" "I" (.int p1) ∧ Fld Z h o0 s_21 s_38 "I" (.int p2)
set_option maxRecDepth 65536 in
set_option maxHeartbeats 40000000 in
theorem rm58 (o0 : Addr) (p1 : Int32) (p2 : Int32) (h0 : Heap) (n0 : Nat) (Z0 : n0 ≤ h0.size) (E_o0 : Exa Z h0 o0 s_21) (F_member_o0 : Fld Z h0 o0 s_21 "member" "I" (.int (0 : Int32))) (g_o0 : n0 ≤ o0) (F_visitedBefore_o0 : Fld Z h0 o0 s_21 s_38 "I" (.int (0 : Int32))) :
  Mt hw l M_13 (Jvm.Cond.code M_13 c_58 3 none) ws R_2_0_0_24 #[(.ref o0), (.int p1), (.int p2)] h0 (Q58 Z o0 p1 p2 h0 n0) := by
 refine ent s_21 rfl hisR fun p e s m below meth c s₁ Bd hx hby hml hown hnm hlk hZ X0 e0 => ?_
 have D := fun i => hb hby (q_58 i)
 have u := hU hw
 have N0 := Fr.nil n0
 rw [ef_58]
 show gO (tF s₁ m 0 #[.val (.ref o0), .val (.int p1), .val (.int p2)] [])
 refine gaN X0 hx (D 0) rfl rfl ?_
 obtain ⟨_, T1, Lc1, X1, hQ1, st1⟩ := clB X0 (X0.specialBack hx (y := M_6) rfl hown (mvT hZ (u 464)) (mvT hZ (u 80)) (mvT hZ (u 83)) (by decide) (backOf (W := 0) (rm14 l Z a0 hw [] o0 h0 n0 Z0 ) hZ (u 83) (u 82) (by decide) (by decide)) (g := (mkF m 1 #[.val (.ref o0), .val (.int p1), .val (.int p2)] [(.ref o0)])) rfl (by rw [hml]; rfl) (Steps.refl _) (a := o0) (argsL := []) (rest := []) (lenOf pd_0 rfl) rfl (wk rfl rfl) (D 1) (fun _ _ => ⟨rfl, e0, lD rfl, lD rfl⟩)) (k := 0) (n := 0) rfl rfl
 obtain ⟨rfl, Nq1, K1⟩ := hQ1
 have N1 := Fr.app N0 Nq1
 have K3 : Keep h0 T1.heap ([o0] : List Addr) := (Keep.refl h0 ([o0] : List Addr)).trans K1 all0
 refine gob (fun _ k => st1.trans k) ?_
 refine gaN X1 hx (D 2) rfl rfl ?_
 refine giN X1 hx (D 3) rfl ?_
 have c4 := (F_member_o0.keep K1 nin0)
 have c5 := (E_o0.keep K1)
 obtain ⟨T6, h6, X6, e6, W6, st6⟩ := putF X1 hx hZ hown (host := "") (Or.inl (hW hw 465 rfl)) Via.refl (rfl : T1.heap = _) c4 c5 (Or.inr ⟨(u 466), rfl, hnm⟩) (u 459) (ty := .int) (by decide) rfl rfl (g := (mkF m 6 #[.val (.ref o0), .val (.int p1), .val (.int p2)] [(.int p1), (.ref o0)])) rfl rfl (D 4)
 refine gob st6 ?_
 have N6 := Fr.snoc X6 N1 g_o0
 have K8 : Keep h0 h6 ([o0] : List Addr) := K3.wr W6 (Or.inl (List.mem_of_getElem? (i := 0) rfl))
 have Fw6 := c4.same W6
 show gO (tF T6 m 9 #[.val (.ref o0), .val (.int p1), .val (.int p2)] [])
 refine gaN X6 hx (D 5) rfl rfl ?_
 refine giN X6 hx (D 6) rfl ?_
 have c9 := (fo (F_visitedBefore_o0.keep K1 nin0) W6 (Or.inr (hW hw 468 rfl)) (Or.inr (hW hw 466 rfl)) .int .int)
 have c10 := (c5.wr W6)
 obtain ⟨T11, h11, X11, e11, W11, st11⟩ := putF X6 hx hZ hown (host := "") (Or.inl (hW hw 467 rfl)) Via.refl e6 c9 c10 (Or.inr ⟨(u 468), rfl, hnm⟩) (u 459) (ty := .int) (by decide) rfl rfl (g := (mkF m 11 #[.val (.ref o0), .val (.int p1), .val (.int p2)] [(.int p2), (.ref o0)])) rfl rfl (D 7)
 refine gob st11 ?_
 have N11 := Fr.snoc X11 N6 g_o0
 have K13 : Keep h0 h11 ([o0] : List Addr) := K8.wr W11 (Or.inl (List.mem_of_getElem? (i := 0) rfl))
 have Fw11 := c9.same W11
 show gO (tF T11 m 14 #[.val (.ref o0), .val (.int p1), .val (.int p2)] [])
 refine goV X11 hx hlk Bd.returns (D 8) ?_ (by decide) (by decide)
 show Q58 Z o0 p1 p2 h0 n0 (none) T11.heap _
 have c14 := (fo Fw6 W11 (Or.inr (hW hw 466 rfl)) (Or.inr (hW hw 468 rfl)) .int .int)
 rw [e11]
 exact ⟨rfl, N11, K13, c14, Fw11⟩
def t_32 : List (Nat × Instr × Nat) := [(0, .new 60, 3), (3, .dup, 1), (4, .iconst (-1), 1), (5, .lconst 0, 1), (6, .iconst 0, 1), (7, .iconst 0, 1), (8, .invokespecial 302, 3), (11, .areturn, 1)]
theorem q_32 : ∀ i : Fin 8, decode c_32 (gt t_32 i.1).1 = .ok ((gt t_32 i.1).2.1, (gt t_32 i.1).2.2) := by decide +kernel
theorem pd_1 : parseMethodDescriptor "(IJII)V" = some ⟨[.int, .long, .int, .int], none⟩ := by decide +kernel
theorem ef_32 (m : MethodId)  : entryFrame m #[] 0 = mkF m 0 #[] [] := by first | (simp [entryFrame, mkF, argsToLocals, Value.category]; done) | rfl
def Q32 (Z : State)  (h0 : Heap) (n0 : Nat) (v : Option Value) (h : Heap) (L : List Loc) : Prop := ∃ b1 : Addr, v = some (.ref b1) ∧ Fr n0 L ∧ Keep h0 h ([] : List Addr) ∧ h0.size ≤ b1 ∧ Exa Z h b1 s_15 ∧ Fld Z h b1 s_15 "generation" "I" (.int (-1)) ∧ Fld Z h b1 s_15 "hop" "J" (.long 0) ∧ Fld Z h b1 s_15 "at" "I" (.int 0) ∧ Fld Z h b1 s_15 "passedTo" "I" (.int 0)
set_option maxRecDepth 65536 in
set_option maxHeartbeats 40000000 in
theorem rm32  (h0 : Heap) (n0 : Nat) (Z0 : n0 ≤ h0.size) :
  Mt hw l M_14 (Jvm.Cond.code M_14 c_32 0 (some (.object s_15))) ws R_3_1_4_42 #[] h0 (Q32 Z  h0 n0) := by
 refine ent s_5 rfl hisR fun p e s m below meth c s₁ Bd hx hby hml hown hnm hlk hZ X0 e0 => ?_
 have D := fun i => hb hby (q_32 i)
 have u := hU hw
 have N0 := Fr.nil n0
 rw [ef_32]
 show gO (tF s₁ m 0 #[] [])
 obtain ⟨T1, h1, X1, e1, E1, A1, D1, -, st1⟩ := newO X0 hx hZ hown (u 253) (u 260) (u 261) e0 (g := (mkF m 0 #[] [])) rfl (D 0) (by decide) (by decide)
 obtain ⟨b1, g1⟩ : ∃ z, z = h0.size := ⟨_, rfl⟩
 rw [← g1] at A1 D1 st1
 have g2 : n0 ≤ b1 := Nat.le_trans Z0 (Nat.le_of_eq g1.symm)
 have sz_b1 : h0.size ≤ b1 := Nat.le_trans (Keep.refl h0 []).1 (Nat.le_of_eq g1.symm)
 have z3 : n0 ≤ h1.size := Nat.le_trans Z0 E1.1
 have K4 : Keep h0 h1 ([] : List Addr) := (Keep.refl h0 ([] : List Addr)).ext E1
 have F1_generation : Fld Z h1 b1 s_15 "generation" "I" (.int (0 : Int32)) := D1 (Or.inr (hW hw 267 rfl)) (ty := .int) (by decide)
 have F1_hop : Fld Z h1 b1 s_15 "hop" "J" (.long (0 : Int64)) := D1 (Or.inr (hW hw 269 rfl)) (ty := .long) (by decide)
 have F1_at : Fld Z h1 b1 s_15 "at" "I" (.int (0 : Int32)) := D1 (Or.inr (hW hw 271 rfl)) (ty := .int) (by decide)
 have F1_passedTo : Fld Z h1 b1 s_15 "passedTo" "I" (.int (0 : Int32)) := D1 (Or.inr (hW hw 273 rfl)) (ty := .int) (by decide)
 refine gob st1 ?_
 replace X1 := castX X1 (rfl : _ = 1) (rfl : _ = 4)
 show gO (tF T1 m 3 #[] [(.ref b1)])
 refine go (XS.dup X1.here hx rfl (D 1) rfl rfl) ?_
 refine giC X1 hx (D 2) ?_
 refine go (XS.lconst X1.here hx rfl (D 3)) ?_
 refine giC X1 hx (D 4) ?_
 refine giC X1 hx (D 5) ?_
 obtain ⟨_, T5, Lc5, X5, hQ5, st5⟩ := clB X1 (X1.specialBack hx (y := M_12) rfl hown (mvT hZ (u 262)) (mvT hZ (u 263)) (mvT hZ (u 264)) (by decide) (backOf (W := 1) (rm33 l Z a0 hw [] b1 (-1 : Int32) (0 : Int64) (0 : Int32) (0 : Int32) h1 n0 z3 A1 F1_generation g2 F1_hop F1_at F1_passedTo) hZ (u 264) (u 261) (by decide) (by decide)) (g := (mkF m 8 #[] [(.int 0), (.int 0), (.long 0), (.int (-1)), (.ref b1), (.ref b1)])) rfl (by rw [hml]; rfl) (Steps.refl _) (a := b1) (argsL := [(.int (-1)), (.long 0), (.int 0), (.int 0)]) (rest := [(.ref b1)]) (lenOf pd_1 rfl) rfl (wk rfl rfl) (D 6) (fun _ _ => ⟨rfl, e1, lD rfl, lD rfl⟩)) (k := 1) (n := 4) rfl rfl
 obtain ⟨rfl, Nq5, K5, F6, F7, F8, F9⟩ := hQ5
 have N5 := Fr.app N0 Nq5
 have K11 : Keep h0 T5.heap ([] : List Addr) := K4.trans K5 (allS (Or.inr sz_b1) all0)
 refine gob (fun _ k => st5.trans k) ?_
 refine goA X5 hx hlk Bd.returns rfl rfl (D 7) ?_ (by decide) (by decide)
 show Q32 Z  h0 n0 (some (.ref b1)) T5.heap _
 have c12 := (A1.keep K5)
 exact ⟨b1, rfl, N5, K11, sz_b1, c12, F6, F7, F8, F9⟩
def t_24 : List (Nat × Instr × Nat) := [(0, .aload_n 0, 1), (1, .invokespecial 1, 3), (4, .aload_n 0, 1), (5, .aload_n 1, 1), (6, .invokestatic 7, 3), (9, .putfield 13, 3), (12, .aload_n 0, 1), (13, .getstatic 19, 3), (16, .putfield 24, 3), (19, .return_, 1)]
theorem q_24 : ∀ i : Fin 10, decode c_24 (gt t_24 i.1).1 = .ok ((gt t_24 i.1).2.1, (gt t_24 i.1).2.2) := by decide +kernel
theorem pd_2 : parseMethodDescriptor "(Ljava/lang/Object;)Ljava/lang/Object;" = some ⟨[(.object "java/lang/Object")], some (.object "java/lang/Object")⟩ := by decide +kernel
theorem ef_24 (m : MethodId) (x0 : Addr) (x1 : Addr) : entryFrame m #[(.ref x0), (.ref x1)] 2 = mkF m 0 #[.val (.ref x0), .val (.ref x1)] [] := by first | (simp [entryFrame, mkF, argsToLocals, Value.category]; done) | rfl
def Q24 (Z : State) (o0 : Addr) (o1 : Addr) (w11 : Addr) (h0 : Heap) (n0 : Nat) (v : Option Value) (h : Heap) (L : List Loc) : Prop := v = none ∧ Fr n0 L ∧ Keep h0 h ([o0] : List Addr) ∧ Fld Z h o0 s_13 "e0" s_17 (.ref o1) ∧ Fld Z h o0 s_13 "e1" s_17 (.ref w11)
set_option maxRecDepth 65536 in
set_option maxHeartbeats 40000000 in
theorem rm24 (o0 : Addr) (o1 : Addr) (w11 : Addr) (h0 : Heap) (n0 : Nat) (Z0 : n0 ≤ h0.size) (E_o0 : Exa Z h0 o0 s_13) (F_e0_o0 : Fld Z h0 o0 s_13 "e0" s_17 .null) (g_o0 : n0 ≤ o0) (S_EMPTY : Sta Z h0 s_18 "EMPTY" s_17 (.ref w11)) (F_e1_o0 : Fld Z h0 o0 s_13 "e1" s_17 .null) :
  Mt hw l M_15 (Jvm.Cond.code M_15 c_24 2 none) ws R_4_0_0_48 #[(.ref o0), (.ref o1)] h0 (Q24 Z o0 o1 w11 h0 n0) := by
 refine ent s_13 rfl hisR fun p e s m below meth c s₁ Bd hx hby hml hown hnm hlk hZ X0 e0 => ?_
 have D := fun i => hb hby (q_24 i)
 have u := hU hw
 have N0 := Fr.nil n0
 rw [ef_24]
 show gO (tF s₁ m 0 #[.val (.ref o0), .val (.ref o1)] [])
 refine gaN X0 hx (D 0) rfl rfl ?_
 obtain ⟨_, T1, Lc1, X1, hQ1, st1⟩ := clB X0 (X0.specialBack hx (y := M_8) rfl hown (mvT hZ (u 152)) (mvT hZ (u 153)) (mvT hZ (u 157)) (by decide) (backOf (W := 0) (rm25 l Z a0 hw [] o0 h0 n0 Z0 ) hZ (u 157) (u 156) (by decide) (by decide)) (g := (mkF m 1 #[.val (.ref o0), .val (.ref o1)] [(.ref o0)])) rfl (by rw [hml]; rfl) (Steps.refl _) (a := o0) (argsL := []) (rest := []) (lenOf pd_0 rfl) rfl (wk rfl rfl) (D 1) (fun _ _ => ⟨rfl, e0, lD rfl, lD rfl⟩)) (k := 0) (n := 0) rfl rfl
 obtain ⟨rfl, Nq1, K1⟩ := hQ1
 have N1 := Fr.app N0 Nq1
 have ns2 := (ns0 (h := h0))
 have z3 : n0 ≤ T1.heap.size := Nat.le_trans Z0 K1.1
 have K4 : Keep h0 T1.heap ([o0] : List Addr) := (Keep.refl h0 ([o0] : List Addr)).trans K1 all0
 refine gob (fun _ k => st1.trans k) ?_
 refine gaN X1 hx (D 2) rfl rfl ?_
 refine gaN X1 hx (D 3) rfl rfl ?_
 obtain ⟨_, T5, Lc5, X5, hQ5, st5⟩ := clS X1 (Jvm.LawKit.callS X1 hx (y := M_9) hown (mvT hZ (u 166)) (mvT hZ (u 167)) (mvT hZ (u 168)) (mvT hZ (u 169)) (by decide) (backOf (W := 1) (rm27 l Z a0 hw [] o1 T1.heap n0 z3 ) hZ (u 169) (u 168) (by decide) (by decide)) (g := (mkF m 6 #[.val (.ref o0), .val (.ref o1)] [(.ref o1), (.ref o0)])) rfl (by rw [hml]; rfl) (argsL := [(.ref o1)]) (rest := [(.ref o0)]) (lenOf pd_2 rfl) rfl (wk rfl rfl) (D 4) (fun _ _ => ⟨rfl, (rfl : T1.heap = _), lD rfl, lD rfl⟩)) (k := 0) (n := 0) rfl rfl
 obtain ⟨rfl, Nq5, e5⟩ := hQ5
 have N5 := Fr.app N1 Nq5
 refine gob st5 ?_
 have c6 := (F_e0_o0.keep K1 nin0)
 have c7 := (E_o0.keep K1)
 obtain ⟨T8, h8, X8, e8, W8, st8⟩ := putF X5 hx hZ hown (host := "") (Or.inl (hW hw 170 rfl)) Via.refl e5 c6 c7 (Or.inr ⟨(u 171), rfl, hnm⟩) (u 146) (ty := (.object s_0)) (by decide) rfl rfl (g := (mkF m 9 #[.val (.ref o0), .val (.ref o1)] [(.ref o1), (.ref o0)])) rfl rfl (D 5)
 refine gob st8 ?_
 have N8 := Fr.snoc X8 N5 g_o0
 have K10 : Keep h0 h8 ([o0] : List Addr) := K4.wr W8 (Or.inl (List.mem_of_getElem? (i := 0) rfl))
 have Fw8 := c6.same W8
 show gO (tF T8 m 12 #[.val (.ref o0), .val (.ref o1)] [])
 refine gaN X8 hx (D 6) rfl rfl ?_
 have c12 := ((own_staKeep S_EMPTY K1 ns2).wr W8)
 obtain ⟨T13, X13, e13, st13⟩ := getS2 X8 hx hZ hown (Or.inr (hW hw 172 rfl)) Via.refl e8 c12 (g := (mkF m 13 #[.val (.ref o0), .val (.ref o1)] [(.ref o0)])) rfl (D 7)
 refine gob st13 ?_
 have c14 := (fo (F_e1_o0.keep K1 nin0) W8 (Or.inr (hW hw 174 rfl)) (Or.inr (hW hw 171 rfl)) (.object s_0) (.object s_0))
 have c15 := (c7.wr W8)
 obtain ⟨T16, h16, X16, e16, W16, st16⟩ := putF X13 hx hZ hown (host := "") (Or.inl (hW hw 173 rfl)) Via.refl e13 c14 c15 (Or.inr ⟨(u 174), rfl, hnm⟩) (u 146) (ty := (.object s_0)) (by decide) rfl rfl (g := (mkF m 16 #[.val (.ref o0), .val (.ref o1)] [(.ref w11), (.ref o0)])) rfl rfl (D 8)
 refine gob st16 ?_
 have N16 := Fr.snoc X16 N8 g_o0
 have K18 : Keep h0 h16 ([o0] : List Addr) := K10.wr W16 (Or.inl (List.mem_of_getElem? (i := 0) rfl))
 have Fw16 := c14.same W16
 show gO (tF T16 m 19 #[.val (.ref o0), .val (.ref o1)] [])
 refine goV X16 hx hlk Bd.returns (D 9) ?_ (by decide) (by decide)
 show Q24 Z o0 o1 w11 h0 n0 (none) T16.heap _
 have c19 := (fo Fw8 W16 (Or.inr (hW hw 171 rfl)) (Or.inr (hW hw 174 rfl)) (.object s_0) (.object s_0))
 rw [e16]
 exact ⟨rfl, N16, K18, c19, Fw16⟩
def t_62 : List (Nat × Instr × Nat) := [(0, .aload_n 0, 1), (1, .invokespecial 1, 3), (4, .aload_n 0, 1), (5, .aload_n 1, 1), (6, .invokestatic 7, 3), (9, .putfield 13, 3), (12, .aload_n 0, 1), (13, .aload_n 2, 1), (14, .invokestatic 7, 3), (17, .putfield 24, 3), (20, .return_, 1)]
theorem q_62 : ∀ i : Fin 11, decode c_62 (gt t_62 i.1).1 = .ok ((gt t_62 i.1).2.1, (gt t_62 i.1).2.2) := by decide +kernel
theorem ef_62 (m : MethodId) (x0 : Addr) (x1 : Addr) (x2 : Addr) : entryFrame m #[(.ref x0), (.ref x1), (.ref x2)] 3 = mkF m 0 #[.val (.ref x0), .val (.ref x1), .val (.ref x2)] [] := by first | (simp [entryFrame, mkF, argsToLocals, Value.category]; done) | rfl
def Q62 (Z : State) (o0 : Addr) (o1 : Addr) (o2 : Addr) (h0 : Heap) (n0 : Nat) (v : Option Value) (h : Heap) (L : List Loc) : Prop := v = none ∧ Fr n0 L ∧ Keep h0 h ([o0] : List Addr) ∧ Fld Z h o0 s_13 "e0" s_17 (.ref o1) ∧ Fld Z h o0 s_13 "e1" s_17 (.ref o2)
set_option maxRecDepth 65536 in
set_option maxHeartbeats 40000000 in
theorem rm62 (o0 : Addr) (o1 : Addr) (o2 : Addr) (h0 : Heap) (n0 : Nat) (Z0 : n0 ≤ h0.size) (E_o0 : Exa Z h0 o0 s_13) (F_e0_o0 : Fld Z h0 o0 s_13 "e0" s_17 .null) (g_o0 : n0 ≤ o0) (F_e1_o0 : Fld Z h0 o0 s_13 "e1" s_17 .null) :
  Mt hw l M_16 (Jvm.Cond.code M_16 c_62 3 none) ws R_4_0_0_48 #[(.ref o0), (.ref o1), (.ref o2)] h0 (Q62 Z o0 o1 o2 h0 n0) := by
 refine ent s_13 rfl hisR fun p e s m below meth c s₁ Bd hx hby hml hown hnm hlk hZ X0 e0 => ?_
 have D := fun i => hb hby (q_62 i)
 have u := hU hw
 have N0 := Fr.nil n0
 rw [ef_62]
 show gO (tF s₁ m 0 #[.val (.ref o0), .val (.ref o1), .val (.ref o2)] [])
 refine gaN X0 hx (D 0) rfl rfl ?_
 obtain ⟨_, T1, Lc1, X1, hQ1, st1⟩ := clB X0 (X0.specialBack hx (y := M_8) rfl hown (mvT hZ (u 152)) (mvT hZ (u 153)) (mvT hZ (u 157)) (by decide) (backOf (W := 0) (rm25 l Z a0 hw [] o0 h0 n0 Z0 ) hZ (u 157) (u 156) (by decide) (by decide)) (g := (mkF m 1 #[.val (.ref o0), .val (.ref o1), .val (.ref o2)] [(.ref o0)])) rfl (by rw [hml]; rfl) (Steps.refl _) (a := o0) (argsL := []) (rest := []) (lenOf pd_0 rfl) rfl (wk rfl rfl) (D 1) (fun _ _ => ⟨rfl, e0, lD rfl, lD rfl⟩)) (k := 0) (n := 0) rfl rfl
 obtain ⟨rfl, Nq1, K1⟩ := hQ1
 have N1 := Fr.app N0 Nq1
 have z3 : n0 ≤ T1.heap.size := Nat.le_trans Z0 K1.1
 have K4 : Keep h0 T1.heap ([o0] : List Addr) := (Keep.refl h0 ([o0] : List Addr)).trans K1 all0
 refine gob (fun _ k => st1.trans k) ?_
 refine gaN X1 hx (D 2) rfl rfl ?_
 refine gaN X1 hx (D 3) rfl rfl ?_
 obtain ⟨_, T5, Lc5, X5, hQ5, st5⟩ := clS X1 (Jvm.LawKit.callS X1 hx (y := M_9) hown (mvT hZ (u 166)) (mvT hZ (u 167)) (mvT hZ (u 168)) (mvT hZ (u 169)) (by decide) (backOf (W := 1) (rm27 l Z a0 hw [] o1 T1.heap n0 z3 ) hZ (u 169) (u 168) (by decide) (by decide)) (g := (mkF m 6 #[.val (.ref o0), .val (.ref o1), .val (.ref o2)] [(.ref o1), (.ref o0)])) rfl (by rw [hml]; rfl) (argsL := [(.ref o1)]) (rest := [(.ref o0)]) (lenOf pd_2 rfl) rfl (wk rfl rfl) (D 4) (fun _ _ => ⟨rfl, (rfl : T1.heap = _), lD rfl, lD rfl⟩)) (k := 0) (n := 0) rfl rfl
 obtain ⟨rfl, Nq5, e5⟩ := hQ5
 have N5 := Fr.app N1 Nq5
 refine gob st5 ?_
 have c6 := (F_e0_o0.keep K1 nin0)
 have c7 := (E_o0.keep K1)
 obtain ⟨T8, h8, X8, e8, W8, st8⟩ := putF X5 hx hZ hown (host := "") (Or.inl (hW hw 170 rfl)) Via.refl e5 c6 c7 (Or.inr ⟨(u 171), rfl, hnm⟩) (u 146) (ty := (.object s_0)) (by decide) rfl rfl (g := (mkF m 9 #[.val (.ref o0), .val (.ref o1), .val (.ref o2)] [(.ref o1), (.ref o0)])) rfl rfl (D 5)
 refine gob st8 ?_
 have z9 : n0 ≤ h8.size := Nat.le_trans z3 (Keep.of_wr W8).1
 have N8 := Fr.snoc X8 N5 g_o0
 have K10 : Keep h0 h8 ([o0] : List Addr) := K4.wr W8 (Or.inl (List.mem_of_getElem? (i := 0) rfl))
 have Fw8 := c6.same W8
 show gO (tF T8 m 12 #[.val (.ref o0), .val (.ref o1), .val (.ref o2)] [])
 refine gaN X8 hx (D 6) rfl rfl ?_
 refine gaN X8 hx (D 7) rfl rfl ?_
 obtain ⟨_, T11, Lc11, X11, hQ11, st11⟩ := clS X8 (Jvm.LawKit.callS X8 hx (y := M_9) hown (mvT hZ (u 166)) (mvT hZ (u 167)) (mvT hZ (u 168)) (mvT hZ (u 169)) (by decide) (backOf (W := 1) (rm27 l Z a0 hw [] o2 h8 n0 z9 ) hZ (u 169) (u 168) (by decide) (by decide)) (g := (mkF m 14 #[.val (.ref o0), .val (.ref o1), .val (.ref o2)] [(.ref o2), (.ref o0)])) rfl (by rw [hml]; rfl) (argsL := [(.ref o2)]) (rest := [(.ref o0)]) (lenOf pd_2 rfl) rfl (wk rfl rfl) (D 8) (fun _ _ => ⟨rfl, e8, lD rfl, lD rfl⟩)) (k := 0) (n := 0) rfl rfl
 obtain ⟨rfl, Nq11, e11⟩ := hQ11
 have N11 := Fr.app N8 Nq11
 refine gob st11 ?_
 have c12 := (fo (F_e1_o0.keep K1 nin0) W8 (Or.inr (hW hw 174 rfl)) (Or.inr (hW hw 171 rfl)) (.object s_0) (.object s_0))
 have c13 := (c7.wr W8)
 obtain ⟨T14, h14, X14, e14, W14, st14⟩ := putF X11 hx hZ hown (host := "") (Or.inl (hW hw 173 rfl)) Via.refl e11 c12 c13 (Or.inr ⟨(u 174), rfl, hnm⟩) (u 146) (ty := (.object s_0)) (by decide) rfl rfl (g := (mkF m 17 #[.val (.ref o0), .val (.ref o1), .val (.ref o2)] [(.ref o2), (.ref o0)])) rfl rfl (D 9)
 refine gob st14 ?_
 have N14 := Fr.snoc X14 N11 g_o0
 have K16 : Keep h0 h14 ([o0] : List Addr) := K10.wr W14 (Or.inl (List.mem_of_getElem? (i := 0) rfl))
 have Fw14 := c12.same W14
 show gO (tF T14 m 20 #[.val (.ref o0), .val (.ref o1), .val (.ref o2)] [])
 refine goV X14 hx hlk Bd.returns (D 10) ?_ (by decide) (by decide)
 show Q62 Z o0 o1 o2 h0 n0 (none) T14.heap _
 have c17 := (fo Fw8 W14 (Or.inr (hW hw 171 rfl)) (Or.inr (hW hw 174 rfl)) (.object s_0) (.object s_0))
 rw [e14]
 exact ⟨rfl, N14, K16, c17, Fw14⟩
def t_64 : List (Nat × Instr × Nat) := [(0, .aload_n 0, 1), (1, .invokespecial 1, 3), (4, .aload_n 0, 1), (5, .aload_n 1, 1), (6, .putfield 7, 3), (9, .aload_n 0, 1), (10, .iload_n 2, 1), (11, .putfield 13, 3), (14, .return_, 1)]
theorem q_64 : ∀ i : Fin 9, decode c_64 (gt t_64 i.1).1 = .ok ((gt t_64 i.1).2.1, (gt t_64 i.1).2.2) := by decide +kernel
theorem ef_64 (m : MethodId) (x0 : Addr) (x1 : Addr) (x2 : Int32) : entryFrame m #[(.ref x0), (.ref x1), (.int x2)] 3 = mkF m 0 #[.val (.ref x0), .val (.ref x1), .val (.int x2)] [] := by first | (simp [entryFrame, mkF, argsToLocals, Value.category]; done) | rfl
def Q64 (Z : State) (o0 : Addr) (o1 : Addr) (p2 : Int32) (h0 : Heap) (n0 : Nat) (v : Option Value) (h : Heap) (L : List Loc) : Prop := v = none ∧ Fr n0 L ∧ Keep h0 h ([o0] : List Addr) ∧ Fld Z h o0 s_16 s_20 s_3 (.ref o1) ∧ Fld Z h o0 s_16 s_29 "Z" (.int (p2 &&& 1))
set_option maxRecDepth 65536 in
set_option maxHeartbeats 40000000 in
theorem rm64 (o0 : Addr) (o1 : Addr) (p2 : Int32) (h0 : Heap) (n0 : Nat) (Z0 : n0 ≤ h0.size) (E_o0 : Exa Z h0 o0 s_16) (F_elements_o0 : Fld Z h0 o0 s_16 s_20 s_3 .null) (g_o0 : n0 ≤ o0) (F_allowNulls_o0 : Fld Z h0 o0 s_16 s_29 "Z" (.int (0 : Int32))) :
  Mt hw l M_17 (Jvm.Cond.code M_17 c_64 3 none) ws R_4_0_0_48 #[(.ref o0), (.ref o1), (.int p2)] h0 (Q64 Z o0 o1 p2 h0 n0) := by
 refine ent s_16 rfl hisR fun p e s m below meth c s₁ Bd hx hby hml hown hnm hlk hZ X0 e0 => ?_
 have D := fun i => hb hby (q_64 i)
 have u := hU hw
 have N0 := Fr.nil n0
 rw [ef_64]
 show gO (tF s₁ m 0 #[.val (.ref o0), .val (.ref o1), .val (.int p2)] [])
 refine gaN X0 hx (D 0) rfl rfl ?_
 obtain ⟨_, T1, Lc1, X1, hQ1, st1⟩ := clB X0 (X0.specialBack hx (y := M_8) rfl hown (mvT hZ (u 508)) (mvT hZ (u 153)) (mvT hZ (u 157)) (by decide) (backOf (W := 0) (rm25 l Z a0 hw [] o0 h0 n0 Z0 ) hZ (u 157) (u 156) (by decide) (by decide)) (g := (mkF m 1 #[.val (.ref o0), .val (.ref o1), .val (.int p2)] [(.ref o0)])) rfl (by rw [hml]; rfl) (Steps.refl _) (a := o0) (argsL := []) (rest := []) (lenOf pd_0 rfl) rfl (wk rfl rfl) (D 1) (fun _ _ => ⟨rfl, e0, lD rfl, lD rfl⟩)) (k := 0) (n := 0) rfl rfl
 obtain ⟨rfl, Nq1, K1⟩ := hQ1
 have N1 := Fr.app N0 Nq1
 have K3 : Keep h0 T1.heap ([o0] : List Addr) := (Keep.refl h0 ([o0] : List Addr)).trans K1 all0
 refine gob (fun _ k => st1.trans k) ?_
 refine gaN X1 hx (D 2) rfl rfl ?_
 refine gaN X1 hx (D 3) rfl rfl ?_
 have c4 := (F_elements_o0.keep K1 nin0)
 have c5 := (E_o0.keep K1)
 obtain ⟨T6, h6, X6, e6, W6, st6⟩ := putF X1 hx hZ hown (host := "") (Or.inl (hW hw 309 rfl)) Via.refl (rfl : T1.heap = _) c4 c5 (Or.inr ⟨(u 310), rfl, hnm⟩) (u 503) (ty := (.array (.object s_0))) (by decide) rfl rfl (g := (mkF m 6 #[.val (.ref o0), .val (.ref o1), .val (.int p2)] [(.ref o1), (.ref o0)])) rfl rfl (D 4)
 refine gob st6 ?_
 have N6 := Fr.snoc X6 N1 g_o0
 have K8 : Keep h0 h6 ([o0] : List Addr) := K3.wr W6 (Or.inl (List.mem_of_getElem? (i := 0) rfl))
 have Fw6 := c4.same W6
 show gO (tF T6 m 9 #[.val (.ref o0), .val (.ref o1), .val (.int p2)] [])
 refine gaN X6 hx (D 5) rfl rfl ?_
 refine giN X6 hx (D 6) rfl ?_
 have c9 := (fo (F_allowNulls_o0.keep K1 nin0) W6 (Or.inr (hW hw 513 rfl)) (Or.inr (hW hw 310 rfl)) .boolean (.array (.object s_0)))
 have c10 := (c5.wr W6)
 obtain ⟨T11, h11, X11, e11, W11, st11⟩ := putFN X6 hx hZ hown (u 512) Via.refl e6 c9 c10 (Or.inr ⟨(u 513), rfl, hnm⟩) (u 503) (ty := .boolean) (v' := (.int (p2 &&& 1))) (by decide) rfl (fits_nar_bool _) (g := (mkF m 11 #[.val (.ref o0), .val (.ref o1), .val (.int p2)] [(.int p2), (.ref o0)])) rfl rfl (D 7)
 refine gob st11 ?_
 have N11 := Fr.snoc X11 N6 g_o0
 have K13 : Keep h0 h11 ([o0] : List Addr) := K8.wr W11 (Or.inl (List.mem_of_getElem? (i := 0) rfl))
 have Fw11 := c9.same W11
 show gO (tF T11 m 14 #[.val (.ref o0), .val (.ref o1), .val (.int p2)] [])
 refine goV X11 hx hlk Bd.returns (D 8) ?_ (by decide) (by decide)
 show Q64 Z o0 o1 p2 h0 n0 (none) T11.heap _
 have c14 := (fo Fw6 W11 (Or.inr (hW hw 310 rfl)) (Or.inr (hW hw 513 rfl)) (.array (.object s_0)) .boolean)
 rw [e11]
 exact ⟨rfl, N11, K13, c14, Fw11⟩
def t_39 : List (Nat × Instr × Nat) := [(0, .aload_n 0, 1), (1, .invokespecial 1, 3), (4, .aload_n 0, 1), (5, .aload_n 1, 1), (6, .putfield 7, 3), (9, .aload_n 0, 1), (10, .iload_n 2, 1), (11, .putfield 13, 3), (14, .aload_n 0, 1), (15, .iconst 0, 1), (16, .putfield 17, 3), (19, .aload_n 0, 1), (20, .iconst 0, 1), (21, .putfield 20, 3), (24, .return_, 1)]
theorem q_39 : ∀ i : Fin 15, decode c_39 (gt t_39 i.1).1 = .ok ((gt t_39 i.1).2.1, (gt t_39 i.1).2.2) := by decide +kernel
def Q39 (Z : State) (o0 : Addr) (o1 : Addr) (p2 : Int32) (h0 : Heap) (n0 : Nat) (v : Option Value) (h : Heap) (L : List Loc) : Prop := v = none ∧ Fr n0 L ∧ Keep h0 h ([o0] : List Addr) ∧ Fld Z h o0 s_6 "list" s_11 (.ref o1) ∧ Fld Z h o0 s_6 "size" "I" (.int p2) ∧ Fld Z h o0 s_6 "cursor" "I" (.int 0) ∧ Fld Z h o0 s_6 s_33 "Z" (.int 0)
set_option maxRecDepth 65536 in
set_option maxHeartbeats 40000000 in
theorem rm39 (o0 : Addr) (o1 : Addr) (p2 : Int32) (h0 : Heap) (n0 : Nat) (Z0 : n0 ≤ h0.size) (E_o0 : Exa Z h0 o0 s_6) (F_list_o0 : Fld Z h0 o0 s_6 "list" s_11 .null) (g_o0 : n0 ≤ o0) (F_size_o0 : Fld Z h0 o0 s_6 "size" "I" (.int (0 : Int32))) (F_cursor_o0 : Fld Z h0 o0 s_6 "cursor" "I" (.int (0 : Int32))) (F_isListIterator_o0 : Fld Z h0 o0 s_6 s_33 "Z" (.int (0 : Int32))) :
  Mt hw l M_18 (Jvm.Cond.code M_18 c_39 3 none) ws R_1_0_0_12 #[(.ref o0), (.ref o1), (.int p2)] h0 (Q39 Z o0 o1 p2 h0 n0) := by
 refine ent s_6 rfl hisR fun p e s m below meth c s₁ Bd hx hby hml hown hnm hlk hZ X0 e0 => ?_
 have D := fun i => hb hby (q_39 i)
 have u := hU hw
 have N0 := Fr.nil n0
 rw [ef_64]
 show gO (tF s₁ m 0 #[.val (.ref o0), .val (.ref o1), .val (.int p2)] [])
 refine gaN X0 hx (D 0) rfl rfl ?_
 obtain ⟨T1, X1, e1, st1⟩ := initO X0 hx hZ hown (u 315) (u 25) (u 26) e0 (g := (mkF m 1 #[.val (.ref o0), .val (.ref o1), .val (.int p2)] [(.ref o0)])) rfl (by rw [hml]; rfl) rfl (D 1) (by decide) (W := 0) (wk rfl rfl) (by decide)
 refine gob st1 ?_
 refine gaN X1 hx (D 2) rfl rfl ?_
 refine gaN X1 hx (D 3) rfl rfl ?_
 obtain ⟨T2, h2, X2, e2, W2, st2⟩ := putF X1 hx hZ hown (host := "") (Or.inl (hW hw 316 rfl)) Via.refl e1 F_list_o0 E_o0 (Or.inr ⟨(u 317), rfl, hnm⟩) (u 300) (ty := (.object s_2)) (by decide) rfl rfl (g := (mkF m 6 #[.val (.ref o0), .val (.ref o1), .val (.int p2)] [(.ref o1), (.ref o0)])) rfl rfl (D 4)
 refine gob st2 ?_
 have N2 := Fr.snoc X2 N0 g_o0
 have K4 : Keep h0 h2 ([o0] : List Addr) := (Keep.refl h0 ([o0] : List Addr)).wr W2 (Or.inl (List.mem_of_getElem? (i := 0) rfl))
 have Fw2 := F_list_o0.same W2
 show gO (tF T2 m 9 #[.val (.ref o0), .val (.ref o1), .val (.int p2)] [])
 refine gaN X2 hx (D 5) rfl rfl ?_
 refine giN X2 hx (D 6) rfl ?_
 have c5 := (fo F_size_o0 W2 (Or.inr (hW hw 319 rfl)) (Or.inr (hW hw 317 rfl)) .int (.object s_2))
 have c6 := (E_o0.wr W2)
 obtain ⟨T7, h7, X7, e7, W7, st7⟩ := putF X2 hx hZ hown (host := "") (Or.inl (hW hw 318 rfl)) Via.refl e2 c5 c6 (Or.inr ⟨(u 319), rfl, hnm⟩) (u 300) (ty := .int) (by decide) rfl rfl (g := (mkF m 11 #[.val (.ref o0), .val (.ref o1), .val (.int p2)] [(.int p2), (.ref o0)])) rfl rfl (D 7)
 refine gob st7 ?_
 have N7 := Fr.snoc X7 N2 g_o0
 have K9 : Keep h0 h7 ([o0] : List Addr) := K4.wr W7 (Or.inl (List.mem_of_getElem? (i := 0) rfl))
 have Fw7 := c5.same W7
 show gO (tF T7 m 14 #[.val (.ref o0), .val (.ref o1), .val (.int p2)] [])
 refine gaN X7 hx (D 8) rfl rfl ?_
 refine giC X7 hx (D 9) ?_
 have c10 := (fo (fo F_cursor_o0 W2 (Or.inl (hW hw 321 rfl)) (Or.inr (hW hw 317 rfl)) .int (.object s_2)) W7 (Or.inl (hW hw 321 rfl)) (Or.inr (hW hw 319 rfl)) .int .int)
 have c11 := (c6.wr W7)
 obtain ⟨T12, h12, X12, e12, W12, st12⟩ := putF X7 hx hZ hown (host := "") (Or.inl (hW hw 320 rfl)) Via.refl e7 c10 c11 (Or.inl (hW hw 321 rfl)) (u 300) (ty := .int) (by decide) rfl rfl (g := (mkF m 16 #[.val (.ref o0), .val (.ref o1), .val (.int p2)] [(.int 0), (.ref o0)])) rfl rfl (D 10)
 refine gob st12 ?_
 have N12 := Fr.snoc X12 N7 g_o0
 have K14 : Keep h0 h12 ([o0] : List Addr) := K9.wr W12 (Or.inl (List.mem_of_getElem? (i := 0) rfl))
 have Fw12 := c10.same W12
 show gO (tF T12 m 19 #[.val (.ref o0), .val (.ref o1), .val (.int p2)] [])
 refine gaN X12 hx (D 11) rfl rfl ?_
 refine giC X12 hx (D 12) ?_
 have c15 := (fo (fo (fo F_isListIterator_o0 W2 (Or.inr (hW hw 323 rfl)) (Or.inr (hW hw 317 rfl)) .boolean (.object s_2)) W7 (Or.inr (hW hw 323 rfl)) (Or.inr (hW hw 319 rfl)) .boolean .int) W12 (Or.inr (hW hw 323 rfl)) (Or.inl (hW hw 321 rfl)) .boolean .int)
 have c16 := (c11.wr W12)
 obtain ⟨T17, h17, X17, e17, W17, st17⟩ := putFN X12 hx hZ hown (u 322) Via.refl e12 c15 c16 (Or.inr ⟨(u 323), rfl, hnm⟩) (u 300) (ty := .boolean) (v' := (.int (0 : Int32))) (by decide) rfl rfl (g := (mkF m 21 #[.val (.ref o0), .val (.ref o1), .val (.int p2)] [(.int 0), (.ref o0)])) rfl rfl (D 13)
 refine gob st17 ?_
 have N17 := Fr.snoc X17 N12 g_o0
 have K19 : Keep h0 h17 ([o0] : List Addr) := K14.wr W17 (Or.inl (List.mem_of_getElem? (i := 0) rfl))
 have Fw17 := c15.same W17
 show gO (tF T17 m 24 #[.val (.ref o0), .val (.ref o1), .val (.int p2)] [])
 refine goV X17 hx hlk Bd.returns (D 14) ?_ (by decide) (by decide)
 show Q39 Z o0 o1 p2 h0 n0 (none) T17.heap _
 have c20 := (fo (fo (fo Fw2 W7 (Or.inr (hW hw 317 rfl)) (Or.inr (hW hw 319 rfl)) (.object s_2) .int) W12 (Or.inr (hW hw 317 rfl)) (Or.inl (hW hw 321 rfl)) (.object s_2) .int) W17 (Or.inr (hW hw 317 rfl)) (Or.inr (hW hw 323 rfl)) (.object s_2) .boolean)
 have c21 := (fo (fo Fw7 W12 (Or.inr (hW hw 319 rfl)) (Or.inl (hW hw 321 rfl)) .int .int) W17 (Or.inr (hW hw 319 rfl)) (Or.inr (hW hw 323 rfl)) .int .boolean)
 have c22 := (fo Fw12 W17 (Or.inl (hW hw 321 rfl)) (Or.inr (hW hw 323 rfl)) .int .boolean)
 rw [e17]
 exact ⟨rfl, N17, K19, c20, c21, c22, Fw17⟩
def t_49 : List (Nat × Instr × Nat) := [(0, .aload_n 0, 1), (1, .aload_n 1, 1), (2, .putfield 1, 3), (5, .aload_n 0, 1), (6, .invokespecial 7, 3), (9, .aload_n 0, 1), (10, .iconst (-1), 1), (11, .putfield 13, 3), (14, .aload_n 0, 1), (15, .aload_n 0, 1), (16, .getfield 1, 3), (19, .getfield 17, 3), (22, .putfield 22, 3), (25, .return_, 1)]
theorem q_49 : ∀ i : Fin 14, decode c_49 (gt t_49 i.1).1 = .ok ((gt t_49 i.1).2.1, (gt t_49 i.1).2.2) := by decide +kernel
def Q49 (Z : State) (o0 : Addr) (o1 : Addr) (w12 : Int32) (h0 : Heap) (n0 : Nat) (v : Option Value) (h : Heap) (L : List Loc) : Prop := v = none ∧ Fr n0 L ∧ Keep h0 h ([o0] : List Addr) ∧ Fld Z h o0 s_19 "this$0" s_39 (.ref o1) ∧ Fld Z h o0 s_19 "lastRet" "I" (.int (-1)) ∧ Fld Z h o0 s_19 s_43 "I" (.int w12) ∧ Fld Z h o0 s_19 "cursor" "I" (.int 0)
set_option maxRecDepth 65536 in
set_option maxHeartbeats 40000000 in
theorem rm49 (o0 : Addr) (o1 : Addr) (w12 : Int32) (h0 : Heap) (n0 : Nat) (Z0 : n0 ≤ h0.size) (E_o0 : Exa Z h0 o0 s_19) (F_this_0_o0 : Fld Z h0 o0 s_19 "this$0" s_39 .null) (F_lastRet_o0 : Fld Z h0 o0 s_19 "lastRet" "I" (.int 0)) (F_expectedModCount_o0 : Fld Z h0 o0 s_19 s_43 "I" (.int 0)) (F_cursor_o0 : Fld Z h0 o0 s_19 "cursor" "I" (.int 0)) (n10 : o1 ≠ o0) (g_o0 : n0 ≤ o0) (F_modCount_o1 : Fld Z h0 o1 s_9 s_12 "I" (.int w12)) :
  Mt hw l M_19 (Jvm.Cond.code M_19 c_49 2 none) ws R_1_0_0_12 #[(.ref o0), (.ref o1)] h0 (Q49 Z o0 o1 w12 h0 n0) := by
 refine ent s_19 rfl hisR fun p e s m below meth c s₁ Bd hx hby hml hown hnm hlk hZ X0 e0 => ?_
 have D := fun i => hb hby (q_49 i)
 have u := hU hw
 have N0 := Fr.nil n0
 rw [ef_24]
 show gO (tF s₁ m 0 #[.val (.ref o0), .val (.ref o1)] [])
 refine gaN X0 hx (D 0) rfl rfl ?_
 refine gaN X0 hx (D 1) rfl rfl ?_
 obtain ⟨T1, h1, X1, e1, W1, st1⟩ := putF X0 hx hZ hown (host := "") (Or.inl (hW hw 404 rfl)) Via.refl e0 F_this_0_o0 E_o0 (Or.inr ⟨(u 405), rfl, hnm⟩) (u 398) (ty := (.object s_1)) (by decide) rfl rfl (g := (mkF m 2 #[.val (.ref o0), .val (.ref o1)] [(.ref o1), (.ref o0)])) rfl rfl (D 2)
 refine gob st1 ?_
 have N1 := Fr.snoc X1 N0 g_o0
 have K3 : Keep h0 h1 ([o0] : List Addr) := (Keep.refl h0 ([o0] : List Addr)).wr W1 (Or.inl (List.mem_of_getElem? (i := 0) rfl))
 have Fw1 := F_this_0_o0.same W1
 show gO (tF T1 m 5 #[.val (.ref o0), .val (.ref o1)] [])
 refine gaN X1 hx (D 3) rfl rfl ?_
 obtain ⟨T4, X4, e4, st4⟩ := initO X1 hx hZ hown (u 406) (u 25) (u 26) e1 (g := (mkF m 6 #[.val (.ref o0), .val (.ref o1)] [(.ref o0)])) rfl (by rw [hml]; rfl) rfl (D 4) (by decide) (W := 0) (wk rfl rfl) (by decide)
 refine gob st4 ?_
 refine gaN X4 hx (D 5) rfl rfl ?_
 refine giC X4 hx (D 6) ?_
 have c5 := (fo F_lastRet_o0 W1 (Or.inl (hW hw 408 rfl)) (Or.inr (hW hw 405 rfl)) .int (.object s_1))
 have c6 := (E_o0.wr W1)
 obtain ⟨T7, h7, X7, e7, W7, st7⟩ := putF X4 hx hZ hown (host := "") (Or.inl (hW hw 407 rfl)) Via.refl e4 c5 c6 (Or.inl (hW hw 408 rfl)) (u 398) (ty := .int) (by decide) rfl rfl (g := (mkF m 11 #[.val (.ref o0), .val (.ref o1)] [(.int (-1)), (.ref o0)])) rfl rfl (D 7)
 refine gob st7 ?_
 have N7 := Fr.snoc X7 N1 g_o0
 have K9 : Keep h0 h7 ([o0] : List Addr) := K3.wr W7 (Or.inl (List.mem_of_getElem? (i := 0) rfl))
 have Fw7 := c5.same W7
 show gO (tF T7 m 14 #[.val (.ref o0), .val (.ref o1)] [])
 refine gaN X7 hx (D 8) rfl rfl ?_
 refine gaN X7 hx (D 9) rfl rfl ?_
 have c10 := (fo Fw1 W7 (Or.inr (hW hw 405 rfl)) (Or.inl (hW hw 408 rfl)) (.object s_1) .int)
 obtain ⟨T11, X11, e11, st11⟩ := getF X7 hx hZ hown (host := "") (Or.inl (hW hw 404 rfl)) Via.refl e7 c10 (g := (mkF m 16 #[.val (.ref o0), .val (.ref o1)] [(.ref o0), (.ref o0)])) rfl rfl (D 10)
 refine gob st11 ?_
 have c13 := ((F_modCount_o1.other W1 (Or.inl n10)).other W7 (Or.inl n10))
 obtain ⟨T14, X14, e14, st14⟩ := getF X11 hx hZ hown (host := "") (Or.inl (hW hw 409 rfl)) (Via.of (u 51)) e11 c13 (g := (mkF m 19 #[.val (.ref o0), .val (.ref o1)] [(.ref o1), (.ref o0)])) rfl rfl (D 11)
 refine gob st14 ?_
 have c15 := (fo (fo F_expectedModCount_o0 W1 (Or.inl (hW hw 411 rfl)) (Or.inr (hW hw 405 rfl)) .int (.object s_1)) W7 (Or.inl (hW hw 411 rfl)) (Or.inl (hW hw 408 rfl)) .int .int)
 have c16 := (c6.wr W7)
 obtain ⟨T17, h17, X17, e17, W17, st17⟩ := putF X14 hx hZ hown (host := "") (Or.inl (hW hw 410 rfl)) Via.refl e14 c15 c16 (Or.inl (hW hw 411 rfl)) (u 398) (ty := .int) (by decide) rfl rfl (g := (mkF m 22 #[.val (.ref o0), .val (.ref o1)] [(.int w12), (.ref o0)])) rfl rfl (D 12)
 refine gob st17 ?_
 have N17 := Fr.snoc X17 N7 g_o0
 have K19 : Keep h0 h17 ([o0] : List Addr) := K9.wr W17 (Or.inl (List.mem_of_getElem? (i := 0) rfl))
 have Fw17 := c15.same W17
 show gO (tF T17 m 25 #[.val (.ref o0), .val (.ref o1)] [])
 refine goV X17 hx hlk Bd.returns (D 13) ?_ (by decide) (by decide)
 show Q49 Z o0 o1 w12 h0 n0 (none) T17.heap _
 have c20 := (fo c10 W17 (Or.inr (hW hw 405 rfl)) (Or.inl (hW hw 411 rfl)) (.object s_1) .int)
 have c21 := (fo Fw7 W17 (Or.inl (hW hw 408 rfl)) (Or.inl (hW hw 411 rfl)) .int .int)
 have c22 := (fo (fo (fo F_cursor_o0 W1 (Or.inl (hW hw 419 rfl)) (Or.inr (hW hw 405 rfl)) .int (.object s_1)) W7 (Or.inl (hW hw 419 rfl)) (Or.inl (hW hw 408 rfl)) .int .int) W17 (Or.inl (hW hw 419 rfl)) (Or.inl (hW hw 411 rfl)) .int .int)
 rw [e17]
 exact ⟨rfl, N17, K19, c20, c21, Fw17, c22⟩
def t_36 : List (Nat × Instr × Nat) := [(0, .aload_n 0, 1), (1, .getfield 48, 3), (4, .areturn, 1)]
theorem q_36 : ∀ i : Fin 3, decode c_36 (gt t_36 i.1).1 = .ok ((gt t_36 i.1).2.1, (gt t_36 i.1).2.2) := by decide +kernel
def Q36 (Z : State) (o0 : Addr) (w1 : Addr) (h0 : Heap) (n0 : Nat) (v : Option Value) (h : Heap) (L : List Loc) : Prop := v = some (.ref w1) ∧ Fr n0 L ∧ h = h0
set_option maxRecDepth 65536 in
set_option maxHeartbeats 40000000 in
theorem rm36 (o0 : Addr) (w1 : Addr) (h0 : Heap) (n0 : Nat) (Z0 : n0 ≤ h0.size) (F_crashed_o0 : Fld Z h0 o0 s_10 "crashed" s_11 (.ref w1)) :
  Mt hw l M_20 (Jvm.Cond.code M_20 c_36 1 (some (.object s_2))) ws R_0_0_0_0 #[(.ref o0)] h0 (Q36 Z o0 w1 h0 n0) := by
 refine ent s_10 rfl hisR fun p e s m below meth c s₁ Bd hx hby hml hown hnm hlk hZ X0 e0 => ?_
 have D := fun i => hb hby (q_36 i)
 have u := hU hw
 have N0 := Fr.nil n0
 rw [ef_4]
 show gO (tF s₁ m 0 #[.val (.ref o0)] [])
 refine gaN X0 hx (D 0) rfl rfl ?_
 obtain ⟨T2, X2, e2, st2⟩ := getF X0 hx hZ hown (host := "") (Or.inl (hW hw 183 rfl)) Via.refl e0 F_crashed_o0 (g := (mkF m 1 #[.val (.ref o0)] [(.ref o0)])) rfl rfl (D 1)
 refine gob st2 ?_
 refine goA X2 hx hlk Bd.returns rfl rfl (D 2) ?_ (by decide) (by decide)
 show Q36 Z o0 w1 h0 n0 (some (.ref w1)) T2.heap _
 exact ⟨rfl, N0, e2⟩
def t_41 : List (Nat × Instr × Nat) := [(0, .aload_n 0, 1), (1, .getfield 51, 3), (4, .areturn, 1)]
theorem q_41 : ∀ i : Fin 3, decode c_41 (gt t_41 i.1).1 = .ok ((gt t_41 i.1).2.1, (gt t_41 i.1).2.2) := by decide +kernel
def Q41 (Z : State) (o0 : Addr) (w1 : Addr) (h0 : Heap) (n0 : Nat) (v : Option Value) (h : Heap) (L : List Loc) : Prop := v = some (.ref w1) ∧ Fr n0 L ∧ h = h0
set_option maxRecDepth 65536 in
set_option maxHeartbeats 40000000 in
theorem rm41 (o0 : Addr) (w1 : Addr) (h0 : Heap) (n0 : Nat) (Z0 : n0 ≤ h0.size) (F_found_o0 : Fld Z h0 o0 s_10 "found" s_11 (.ref w1)) :
  Mt hw l M_21 (Jvm.Cond.code M_21 c_41 1 (some (.object s_2))) ws R_0_0_0_0 #[(.ref o0)] h0 (Q41 Z o0 w1 h0 n0) := by
 refine ent s_10 rfl hisR fun p e s m below meth c s₁ Bd hx hby hml hown hnm hlk hZ X0 e0 => ?_
 have D := fun i => hb hby (q_41 i)
 have u := hU hw
 have N0 := Fr.nil n0
 rw [ef_4]
 show gO (tF s₁ m 0 #[.val (.ref o0)] [])
 refine gaN X0 hx (D 0) rfl rfl ?_
 obtain ⟨T2, X2, e2, st2⟩ := getF X0 hx hZ hown (host := "") (Or.inl (hW hw 185 rfl)) Via.refl e0 F_found_o0 (g := (mkF m 1 #[.val (.ref o0)] [(.ref o0)])) rfl rfl (D 1)
 refine gob st2 ?_
 refine goA X2 hx hlk Bd.returns rfl rfl (D 2) ?_ (by decide) (by decide)
 show Q41 Z o0 w1 h0 n0 (some (.ref w1)) T2.heap _
 exact ⟨rfl, N0, e2⟩
def t_42 : List (Nat × Instr × Nat) := [(0, .aload_n 0, 1), (1, .getfield 45, 3), (4, .areturn, 1)]
theorem q_42 : ∀ i : Fin 3, decode c_42 (gt t_42 i.1).1 = .ok ((gt t_42 i.1).2.1, (gt t_42 i.1).2.2) := by decide +kernel
def Q42 (Z : State) (o0 : Addr) (w1 : Addr) (h0 : Heap) (n0 : Nat) (v : Option Value) (h : Heap) (L : List Loc) : Prop := v = some (.ref w1) ∧ Fr n0 L ∧ h = h0
set_option maxRecDepth 65536 in
set_option maxHeartbeats 40000000 in
theorem rm42 (o0 : Addr) (w1 : Addr) (h0 : Heap) (n0 : Nat) (Z0 : n0 ≤ h0.size) (F_visited_o0 : Fld Z h0 o0 s_10 "visited" s_11 (.ref w1)) :
  Mt hw l M_22 (Jvm.Cond.code M_22 c_42 1 (some (.object s_2))) ws R_0_0_0_0 #[(.ref o0)] h0 (Q42 Z o0 w1 h0 n0) := by
 refine ent s_10 rfl hisR fun p e s m below meth c s₁ Bd hx hby hml hown hnm hlk hZ X0 e0 => ?_
 have D := fun i => hb hby (q_42 i)
 have u := hU hw
 have N0 := Fr.nil n0
 rw [ef_4]
 show gO (tF s₁ m 0 #[.val (.ref o0)] [])
 refine gaN X0 hx (D 0) rfl rfl ?_
 obtain ⟨T2, X2, e2, st2⟩ := getF X0 hx hZ hown (host := "") (Or.inl (hW hw 181 rfl)) Via.refl e0 F_visited_o0 (g := (mkF m 1 #[.val (.ref o0)] [(.ref o0)])) rfl rfl (D 1)
 refine gob st2 ?_
 refine goA X2 hx hlk Bd.returns rfl rfl (D 2) ?_ (by decide) (by decide)
 show Q42 Z o0 w1 h0 n0 (some (.ref w1)) T2.heap _
 exact ⟨rfl, N0, e2⟩
def t_45 : List (Nat × Instr × Nat) := [(0, .aload_n 0, 1), (1, .getfield 205, 3), (4, .ireturn, 1)]
theorem q_45 : ∀ i : Fin 3, decode c_45 (gt t_45 i.1).1 = .ok ((gt t_45 i.1).2.1, (gt t_45 i.1).2.2) := by decide +kernel
def Q45 (Z : State) (o0 : Addr) (w1 : Int32) (h0 : Heap) (n0 : Nat) (v : Option Value) (h : Heap) (L : List Loc) : Prop := v = some (.int w1) ∧ Fr n0 L ∧ h = h0
set_option maxRecDepth 65536 in
set_option maxHeartbeats 40000000 in
theorem rm45 (o0 : Addr) (w1 : Int32) (h0 : Heap) (n0 : Nat) (Z0 : n0 ≤ h0.size) (F_value_o0 : Fld Z h0 o0 s_4 "value" "I" (.int w1)) :
  Mt hw l M_23 (Jvm.Cond.code M_23 c_45 1 (some .int)) ws R_0_0_0_0 #[(.ref o0)] h0 (Q45 Z o0 w1 h0 n0) := by
 refine ent s_4 rfl hisR fun p e s m below meth c s₁ Bd hx hby hml hown hnm hlk hZ X0 e0 => ?_
 have D := fun i => hb hby (q_45 i)
 have u := hU hw
 have N0 := Fr.nil n0
 rw [ef_4]
 show gO (tF s₁ m 0 #[.val (.ref o0)] [])
 refine gaN X0 hx (D 0) rfl rfl ?_
 obtain ⟨T2, X2, e2, st2⟩ := getF X0 hx hZ hown (host := "") (Or.inl (hW hw 369 rfl)) Via.refl e0 F_value_o0 (g := (mkF m 1 #[.val (.ref o0)] [(.ref o0)])) rfl rfl (D 1)
 refine gob st2 ?_
 refine goI X2 hx hlk Bd.returns (D 2) ?_ (by decide) (by decide)
 show Q45 Z o0 w1 h0 n0 (some (.int w1)) T2.heap _
 exact ⟨rfl, N0, e2⟩
def t_53 : List (Nat × Instr × Nat) := [(0, .aload_n 0, 1), (1, .getfield 57, 3), (4, .areturn, 1)]
theorem q_53 : ∀ i : Fin 3, decode c_53 (gt t_53 i.1).1 = .ok ((gt t_53 i.1).2.1, (gt t_53 i.1).2.2) := by decide +kernel
def Q53 (Z : State) (o0 : Addr) (w1 : Addr) (h0 : Heap) (n0 : Nat) (v : Option Value) (h : Heap) (L : List Loc) : Prop := v = some (.ref w1) ∧ Fr n0 L ∧ h = h0
set_option maxRecDepth 65536 in
set_option maxHeartbeats 40000000 in
theorem rm53 (o0 : Addr) (w1 : Addr) (h0 : Heap) (n0 : Nat) (Z0 : n0 ≤ h0.size) (F_waiters_o0 : Fld Z h0 o0 s_10 "waiters" s_11 (.ref w1)) :
  Mt hw l M_24 (Jvm.Cond.code M_24 c_53 1 (some (.object s_2))) ws R_0_0_0_0 #[(.ref o0)] h0 (Q53 Z o0 w1 h0 n0) := by
 refine ent s_10 rfl hisR fun p e s m below meth c s₁ Bd hx hby hml hown hnm hlk hZ X0 e0 => ?_
 have D := fun i => hb hby (q_53 i)
 have u := hU hw
 have N0 := Fr.nil n0
 rw [ef_4]
 show gO (tF s₁ m 0 #[.val (.ref o0)] [])
 refine gaN X0 hx (D 0) rfl rfl ?_
 obtain ⟨T2, X2, e2, st2⟩ := getF X0 hx hZ hown (host := "") (Or.inl (hW hw 189 rfl)) Via.refl e0 F_waiters_o0 (g := (mkF m 1 #[.val (.ref o0)] [(.ref o0)])) rfl rfl (D 1)
 refine gob st2 ?_
 refine goA X2 hx hlk Bd.returns rfl rfl (D 2) ?_ (by decide) (by decide)
 show Q53 Z o0 w1 h0 n0 (some (.ref w1)) T2.heap _
 exact ⟨rfl, N0, e2⟩
def t_54 : List (Nat × Instr × Nat) := [(0, .aload_n 0, 1), (1, .getfield 60, 3), (4, .areturn, 1)]
theorem q_54 : ∀ i : Fin 3, decode c_54 (gt t_54 i.1).1 = .ok ((gt t_54 i.1).2.1, (gt t_54 i.1).2.2) := by decide +kernel
def Q54 (Z : State) (o0 : Addr) (w1 : Addr) (h0 : Heap) (n0 : Nat) (v : Option Value) (h : Heap) (L : List Loc) : Prop := v = some (.ref w1) ∧ Fr n0 L ∧ h = h0
set_option maxRecDepth 65536 in
set_option maxHeartbeats 40000000 in
theorem rm54 (o0 : Addr) (w1 : Addr) (h0 : Heap) (n0 : Nat) (Z0 : n0 ≤ h0.size) (F_queued_o0 : Fld Z h0 o0 s_10 "queued" s_11 (.ref w1)) :
  Mt hw l M_25 (Jvm.Cond.code M_25 c_54 1 (some (.object s_2))) ws R_0_0_0_0 #[(.ref o0)] h0 (Q54 Z o0 w1 h0 n0) := by
 refine ent s_10 rfl hisR fun p e s m below meth c s₁ Bd hx hby hml hown hnm hlk hZ X0 e0 => ?_
 have D := fun i => hb hby (q_54 i)
 have u := hU hw
 have N0 := Fr.nil n0
 rw [ef_4]
 show gO (tF s₁ m 0 #[.val (.ref o0)] [])
 refine gaN X0 hx (D 0) rfl rfl ?_
 obtain ⟨T2, X2, e2, st2⟩ := getF X0 hx hZ hown (host := "") (Or.inl (hW hw 191 rfl)) Via.refl e0 F_queued_o0 (g := (mkF m 1 #[.val (.ref o0)] [(.ref o0)])) rfl rfl (D 1)
 refine gob st2 ?_
 refine goA X2 hx hlk Bd.returns rfl rfl (D 2) ?_ (by decide) (by decide)
 show Q54 Z o0 w1 h0 n0 (some (.ref w1)) T2.heap _
 exact ⟨rfl, N0, e2⟩
def t_60 : List (Nat × Instr × Nat) := [(0, .aload_n 0, 1), (1, .getfield 13, 3), (4, .ireturn, 1)]
theorem q_60 : ∀ i : Fin 3, decode c_60 (gt t_60 i.1).1 = .ok ((gt t_60 i.1).2.1, (gt t_60 i.1).2.2) := by decide +kernel
def Q60 (Z : State) (o0 : Addr) (w1 : Int32) (h0 : Heap) (n0 : Nat) (v : Option Value) (h : Heap) (L : List Loc) : Prop := v = some (.int w1) ∧ Fr n0 L ∧ h = h0
set_option maxRecDepth 65536 in
set_option maxHeartbeats 40000000 in
theorem rm60 (o0 : Addr) (w1 : Int32) (h0 : Heap) (n0 : Nat) (Z0 : n0 ≤ h0.size) (F_visitedBefore_o0 : Fld Z h0 o0 s_21 s_38 "I" (.int w1)) :
  Mt hw l M_26 (Jvm.Cond.code M_26 c_60 1 (some .int)) ws R_0_0_0_0 #[(.ref o0)] h0 (Q60 Z o0 w1 h0 n0) := by
 refine ent s_21 rfl hisR fun p e s m below meth c s₁ Bd hx hby hml hown hnm hlk hZ X0 e0 => ?_
 have D := fun i => hb hby (q_60 i)
 have u := hU hw
 have N0 := Fr.nil n0
 rw [ef_4]
 show gO (tF s₁ m 0 #[.val (.ref o0)] [])
 refine gaN X0 hx (D 0) rfl rfl ?_
 obtain ⟨T2, X2, e2, st2⟩ := getF X0 hx hZ hown (host := "") (Or.inl (hW hw 467 rfl)) Via.refl e0 F_visitedBefore_o0 (g := (mkF m 1 #[.val (.ref o0)] [(.ref o0)])) rfl rfl (D 1)
 refine gob st2 ?_
 refine goI X2 hx hlk Bd.returns (D 2) ?_ (by decide) (by decide)
 show Q60 Z o0 w1 h0 n0 (some (.int w1)) T2.heap _
 exact ⟨rfl, N0, e2⟩
theorem ef_12_10_1 (m : MethodId)  : entryFrame m #[(.int 10), (.int 1)] 2 = mkF m 0 #[.val (.int 10), .val (.int 1)] [] := by first | (simp [entryFrame, mkF, argsToLocals, Value.category]; done) | rfl
def Q12_10_1 (Z : State)  (h0 : Heap) (n0 : Nat) (v : Option Value) (h : Heap) (L : List Loc) : Prop := v = some (.int (10 : Int32)) ∧ Fr n0 L ∧ h = h0
set_option maxRecDepth 65536 in
set_option maxHeartbeats 40000000 in
theorem rm12_10_1  (h0 : Heap) (n0 : Nat) (Z0 : n0 ≤ h0.size) :
  Mt hw l M_4 (Jvm.Cond.code M_4 c_12 2 (some .int)) ws R_0_0_0_0 #[(.int 10), (.int 1)] h0 (Q12_10_1 Z  h0 n0) := by
 refine ent s_34 rfl (hx := (Jvm.Free.JP.mathPlain rfl (by decide +kernel))) hisR fun p e s m below meth c s₁ Bd hx hby hml hown hnm hlk hZ X0 e0 => ?_
 have D := fun i => hb hby (q_12 i)
 have u := hU hw
 have N0 := Fr.nil n0
 rw [ef_12_10_1]
 show gO (tF s₁ m 0 #[.val (.int 10), .val (.int 1)] [])
 refine giN X0 hx (D 0) rfl ?_
 refine giN X0 hx (D 1) rfl ?_
 refine go (XS.icmpNo X0.here hx rfl (D 2) rfl (flt (by decide : ¬ ((10 : Int32) < (1 : Int32)))).1) ?_
 refine giN X0 hx (D 3) rfl ?_
 refine go (XS.goto X0.here hx rfl (pc0 := 6) (pc' := 10) rfl (D 4) (by decide) (by decide)) ?_
 refine goI X0 hx hlk Bd.returns (D 6) ?_ (by decide) (by decide)
 show Q12_10_1 Z  h0 n0 (some (.int (10 : Int32))) s₁.heap _
 exact ⟨rfl, N0, e0⟩
def t_11 : List (Nat × Instr × Nat) := [(0, .aload_n 0, 1), (1, .getfield 9, 3), (4, .arraylength, 1), (5, .istore_n 2, 1), (6, .iload_n 2, 1), (7, .ifCond .gt 13, 3), (10, .aload_n 0, 1), (11, .getfield 9, 3), (14, .getstatic 39, 3), (17, .if_acmp .eq 28, 3), (45, .aload_n 0, 1), (46, .bipush 10, 2), (48, .iload_n 1, 1), (49, .invokestatic 79, 3), (52, .anewarray 7, 3), (55, .dup_x1, 1), (56, .putfield 9, 3), (59, .areturn, 1)]
theorem q_11 : ∀ i : Fin 18, decode c_11 (gt t_11 i.1).1 = .ok ((gt t_11 i.1).2.1, (gt t_11 i.1).2.2) := by decide +kernel
theorem pd_3 : parseMethodDescriptor "(II)I" = some ⟨[.int, .int], some .int⟩ := by decide +kernel
theorem ef_11_0 (m : MethodId) (x0 : Addr) : entryFrame m #[(.ref x0), (.int 1)] 4 = mkF m 0 #[.val (.ref x0), .val (.int 1), .unset, .unset] [] := by first | (simp [entryFrame, mkF, argsToLocals, Value.category]; done) | rfl
def Q11_0 (Z : State) (o0 : Addr) (w_e : Addr) (mc_ : Int32) (k_e : ClassId) (h0 : Heap) (n0 : Nat) (v : Option Value) (h : Heap) (L : List Loc) : Prop := ∃ b6 : Addr, ∃ k6 : ClassId, v = some (.ref b6) ∧ Fr n0 L ∧ Keep h0 h ([o0] : List Addr) ∧ h0.size ≤ b6 ∧ Fld Z h o0 s_1 s_8 s_3 (.ref b6) ∧ Fld Z h o0 s_1 "size" "I" (.int 0) ∧ Fld Z h o0 s_9 s_12 "I" (.int mc_) ∧ Exa Z h b6 s_3 ∧ Arv Z h b6 k6 (.object s_0) (10 : Int32) [.null, .null, .null, .null, .null, .null, .null, .null, .null, .null] .null ∧ Ovr Z k6 s_0
set_option maxRecDepth 65536 in
set_option maxHeartbeats 40000000 in
theorem rm11_0 (o0 : Addr) (w_e : Addr) (mc_ : Int32) (k_e : ClassId) (h0 : Heap) (n0 : Nat) (Z0 : n0 ≤ h0.size) (E_o0 : Exa Z h0 o0 s_1) (F_elementData : Fld Z h0 o0 s_1 s_8 s_3 (.ref w_e)) (F_size : Fld Z h0 o0 s_1 "size" "I" (.int 0)) (F_modCount : Fld Z h0 o0 s_9 s_12 "I" (.int mc_)) (V_e : Arv Z h0 w_e k_e (.object s_0) (0 : Int32) [] .null) (n_e : w_e ≠ o0) (S_D : Sta Z h0 s_1 s_28 s_3 (.ref w_e)) (g_o0 : n0 ≤ o0) :
  Mt hw l M_27 (Jvm.Cond.code M_27 c_11 4 (some (.array (.object s_0)))) ws R_1_1_10_14 #[(.ref o0), (.int 1)] h0 (Q11_0 Z o0 w_e mc_ k_e h0 n0) := by
 refine ent s_1 rfl hisR fun p e s m below meth c s₁ Bd hx hby hml hown hnm hlk hZ X0 e0 => ?_
 have D := fun i => hb hby (q_11 i)
 have u := hU hw
 have N0 := Fr.nil n0
 rw [ef_11_0]
 show gO (tF s₁ m 0 #[.val (.ref o0), .val (.int 1), .unset, .unset] [])
 refine gaN X0 hx (D 0) rfl rfl ?_
 obtain ⟨T1, X1, e1, st1⟩ := getF X0 hx hZ hown (host := "") (Or.inl (hW hw 30 rfl)) Via.refl e0 F_elementData (g := (mkF m 1 #[.val (.ref o0), .val (.int 1), .unset, .unset] [(.ref o0)])) rfl rfl (D 1)
 refine gob st1 ?_
 obtain ⟨cl2, Ar2, aq2, S2, N2, H2, G2⟩ := id V_e
 refine gob (X1.arraylength hx (by rw [e1]; exact Ar2.1) (State.isArrayOf_alike hZ.alike Ar2.2.1) (g := (mkF m 4 #[.val (.ref o0), .val (.int 1), .unset, .unset] [(.ref w_e)])) rfl rfl (D 2)) ?_
 rw [len_of S2 N2]
 show gO (tF T1 m 5 #[.val (.ref o0), .val (.int 1), .unset, .unset] [(.int 0)])
 refine go (XS.istoreN X1.here hx rfl (D 3) rfl (l' := #[.val (.ref o0), .val (.int 1), .val (.int 0), .unset]) rfl) ?_
 refine giN X1 hx (D 4) rfl ?_
 refine go (XS.ifNo X1.here hx rfl (D 5) rfl ((if0 _ _).trans (flt (by decide : ¬ ((0 : Int32) < (0 : Int32)))).2.2.1)) ?_
 refine gaN X1 hx (D 6) rfl rfl ?_
 obtain ⟨T3, X3, e3, st3⟩ := getF X1 hx hZ hown (host := "") (Or.inl (hW hw 30 rfl)) Via.refl e1 F_elementData (g := (mkF m 11 #[.val (.ref o0), .val (.int 1), .val (.int 0), .unset] [(.ref o0)])) rfl rfl (D 7)
 refine gob st3 ?_
 obtain ⟨T4, X4, e4, st4⟩ := getS2 X3 hx hZ hown (host := "") (Or.inl (hW hw 29 rfl)) Via.refl e3 S_D (g := (mkF m 14 #[.val (.ref o0), .val (.int 1), .val (.int 0), .unset] [(.ref w_e)])) rfl (D 8)
 refine gob st4 ?_
 refine gob (fun _ k => Jvm.RoadKit.acmp (g := (mkF m 17 #[.val (.ref o0), .val (.int 1), .val (.int 0), .unset] [(.ref w_e), (.ref w_e)])) X4 hx rfl rfl rfl (pc0 := 17) (pc' := 45) (same := true) rfl (D 9) rfl (decide_eq_true rfl) (by decide) (by decide) k) ?_
 show gO (tF T4 m 45 #[.val (.ref o0), .val (.int 1), .val (.int 0), .unset] [])
 refine gaN X4 hx (D 10) rfl rfl ?_
 refine go (XS.bipush X4.here hx rfl (D 11)) ?_
 refine giN X4 hx (D 12) rfl ?_
 obtain ⟨_, T5, Lc5, X5, hQ5, st5⟩ := clS X4 (Jvm.LawKit.callS X4 hx (y := M_4) hown (mvT hZ (u 69)) (mvT hZ (u 70)) (mvT hZ (u 71)) (mvT hZ (u 72)) (by decide) (backOf (W := 1) (rm12_10_1 l Z a0 hw []  h0 n0 Z0 ) hZ (u 72) (u 71) (by decide) (by decide)) (g := (mkF m 49 #[.val (.ref o0), .val (.int 1), .val (.int 0), .unset] [(.int 1), (.int 10), (.ref o0)])) rfl (by rw [hml]; rfl) (argsL := [(.int 10), (.int 1)]) (rest := [(.ref o0)]) (lenOf pd_3 rfl) rfl (wk rfl rfl) (D 13) (fun _ _ => ⟨rfl, e4, lD rfl, lD rfl⟩)) (k := 0) (n := 0) rfl rfl
 obtain ⟨rfl, Nq5, e5⟩ := hQ5
 have N5 := Fr.app N0 Nq5
 refine gob st5 ?_
 obtain ⟨T6, h6, k6, X6, e6, E6, A6, B6, O6, st6⟩ := newRE X5 hx hZ hown (u 73) (u 74) e5 (g := (mkF m 52 #[.val (.ref o0), .val (.int 1), .val (.int 0), .unset] [(.int 10), (.ref o0)])) rfl (D 14) rfl (by decide) (cap := 10) (by decide) (by decide) (by decide) (by decide) (ad := s_3) (by first | rfl | decide +kernel)
 obtain ⟨b6, g6⟩ : ∃ z, z = h0.size := ⟨_, rfl⟩
 rw [← g6] at A6 B6 st6
 have n7 : o0 ≠ b6 := Nat.ne_of_lt (Nat.lt_of_lt_of_le E_o0.lt (Nat.le_of_eq g6.symm))
 have sz_b6 : h0.size ≤ b6 := Nat.le_trans (Keep.refl h0 []).1 (Nat.le_of_eq g6.symm)
 have K11 : Keep h0 h6 ([o0] : List Addr) := (Keep.refl h0 ([o0] : List Addr)).ext E6
 have V6 : Arv Z h6 b6 k6 (.object s_0) (10 : Int32) [.null, .null, .null, .null, .null, .null, .null, .null, .null, .null] .null := (Arv.new A6 (by decide)).pad (pad_rep [] .null 10)
 refine gob st6 ?_
 replace X6 := castX X6 (rfl : _ = 1) (rfl : _ = 10)
 show gO (tF T6 m 55 #[.val (.ref o0), .val (.int 1), .val (.int 0), .unset] [(.ref b6), (.ref o0)])
 refine go (XS.dupX1 X6.here hx rfl (D 15) rfl rfl rfl) ?_
 have c12 := (F_elementData.ext E6)
 have c13 := (E_o0.ext E6)
 obtain ⟨T14, h14, X14, e14, W14, st14⟩ := putF X6 hx hZ hown (host := "") (Or.inl (hW hw 30 rfl)) Via.refl e6 c12 c13 (Or.inl (hW hw 31 rfl)) (u 7) (ty := (.array (.object s_0))) (by decide) rfl rfl (g := (mkF m 56 #[.val (.ref o0), .val (.int 1), .val (.int 0), .unset] [(.ref b6), (.ref o0), (.ref b6)])) rfl rfl (D 16)
 refine gob st14 ?_
 have N14 := Fr.snoc X14 N5 g_o0
 have K16 : Keep h0 h14 ([o0] : List Addr) := K11.wr W14 (Or.inl (List.mem_of_getElem? (i := 0) rfl))
 have Fw14 := c12.same W14
 show gO (tF T14 m 59 #[.val (.ref o0), .val (.int 1), .val (.int 0), .unset] [(.ref b6)])
 refine goA X14 hx hlk Bd.returns rfl rfl (D 17) ?_ (by decide) (by decide)
 show Q11_0 Z o0 w_e mc_ k_e h0 n0 (some (.ref b6)) T14.heap _
 have c17 := (fo (F_size.ext E6) W14 (Or.inl (hW hw 53 rfl)) (Or.inl (hW hw 31 rfl)) .int (.array (.object s_0)))
 have c18 := (fo (F_modCount.ext E6) W14 (Or.inl (hW hw 28 rfl)) (Or.inl (hW hw 31 rfl)) .int (.array (.object s_0)))
 have c19 := (B6.wr W14)
 have c20 := (V6.other W14 (Ne.symm n7))
 rw [e14]
 exact ⟨b6, k6, rfl, N14, K16, sz_b6, Fw14, c17, c18, c19, c20, O6⟩
def t_10 : List (Nat × Instr × Nat) := [(0, .aload_n 0, 1), (1, .aload_n 0, 1), (2, .getfield 48, 3), (5, .iconst 1, 1), (6, .iadd, 1), (7, .invokevirtual 69, 3), (10, .areturn, 1)]
theorem q_10 : ∀ i : Fin 7, decode c_10 (gt t_10 i.1).1 = .ok ((gt t_10 i.1).2.1, (gt t_10 i.1).2.2) := by decide +kernel
theorem pd_4 : parseMethodDescriptor "(I)[Ljava/lang/Object;" = some ⟨[.int], some (.array (.object "java/lang/Object"))⟩ := by decide +kernel
def Q10_0 (Z : State) (o0 : Addr) (w_e : Addr) (mc_ : Int32) (k_e : ClassId) (h0 : Heap) (n0 : Nat) (v : Option Value) (h : Heap) (L : List Loc) : Prop := ∃ b3 : Addr, ∃ k4 : ClassId, v = some (.ref b3) ∧ Fr n0 L ∧ Keep h0 h ([o0] : List Addr) ∧ h0.size ≤ b3 ∧ Fld Z h o0 s_1 s_8 s_3 (.ref b3) ∧ Fld Z h o0 s_1 "size" "I" (.int 0) ∧ Fld Z h o0 s_9 s_12 "I" (.int mc_) ∧ Exa Z h b3 s_3 ∧ Arv Z h b3 k4 (.object s_0) (10 : Int32) [.null, .null, .null, .null, .null, .null, .null, .null, .null, .null] .null ∧ Ovr Z k4 s_0
set_option maxRecDepth 65536 in
set_option maxHeartbeats 40000000 in
theorem rm10_0 (o0 : Addr) (w_e : Addr) (mc_ : Int32) (k_e : ClassId) (h0 : Heap) (n0 : Nat) (Z0 : n0 ≤ h0.size) (E_o0 : Exa Z h0 o0 s_1) (F_elementData : Fld Z h0 o0 s_1 s_8 s_3 (.ref w_e)) (F_size : Fld Z h0 o0 s_1 "size" "I" (.int 0)) (F_modCount : Fld Z h0 o0 s_9 s_12 "I" (.int mc_)) (V_e : Arv Z h0 w_e k_e (.object s_0) (0 : Int32) [] .null) (n_e : w_e ≠ o0) (S_D : Sta Z h0 s_1 s_28 s_3 (.ref w_e)) (g_o0 : n0 ≤ o0) :
  Mt hw l M_28 (Jvm.Cond.code M_28 c_10 1 (some (.array (.object s_0)))) ws R_2_1_10_29 #[(.ref o0)] h0 (Q10_0 Z o0 w_e mc_ k_e h0 n0) := by
 refine ent s_1 rfl hisR fun p e s m below meth c s₁ Bd hx hby hml hown hnm hlk hZ X0 e0 => ?_
 have D := fun i => hb hby (q_10 i)
 have u := hU hw
 have N0 := Fr.nil n0
 rw [ef_4]
 show gO (tF s₁ m 0 #[.val (.ref o0)] [])
 refine gaN X0 hx (D 0) rfl rfl ?_
 refine gaN X0 hx (D 1) rfl rfl ?_
 obtain ⟨T1, X1, e1, st1⟩ := getF X0 hx hZ hown (host := "") (Or.inl (hW hw 52 rfl)) Via.refl e0 F_size (g := (mkF m 2 #[.val (.ref o0)] [(.ref o0), (.ref o0)])) rfl rfl (D 2)
 refine gob st1 ?_
 refine giC X1 hx (D 3) ?_
 refine go (XS.iadd X1.here hx rfl (D 4) rfl) ?_
 obtain ⟨cq2, q2, q2'⟩ := E_o0.cell
 obtain ⟨_, T2, Lc2, X2, hQ2, st2⟩ := clB X1 (X1.privateBack hx (y := M_27) hown (mvT hZ (u 64)) (mvT hZ (u 65)) (mvT hZ (u 67)) (Cond.privateMethod_at (mvP hZ (u 66) (args := #[]))) (mvT hZ (u 68)) (by decide) (backOf (W := 0) (rm11_0 l Z a0 hw [] o0 w_e mc_ k_e h0 n0 Z0 E_o0 F_elementData F_size F_modCount V_e n_e S_D g_o0) hZ (u 68) (u 8) (by decide) (by decide)) (g := (mkF m 7 #[.val (.ref o0)] [(.int 1), (.ref o0)])) rfl (by rw [hml]; rfl) (Steps.refl _) (a := o0) (by rw [e1]; exact q2) q2' (argsL := [(.int 1)]) (rest := []) (lenOf pd_4 rfl) rfl (wk rfl rfl) (D 5) (fun _ _ => ⟨rfl, e1, lD rfl, lD rfl⟩)) (k := 1) (n := 10) rfl rfl
 obtain ⟨b3, k4, rfl, Nq2, K2, hz5, F6, F7, F8, F9, F10, hi11⟩ := hQ2
 have N2 := Fr.app N0 Nq2
 have sz_b3 : h0.size ≤ b3 := Nat.le_trans (Keep.refl h0 []).1 hz5
 have K17 : Keep h0 T2.heap ([o0] : List Addr) := (Keep.refl h0 ([o0] : List Addr)).trans K2 (allS (Or.inl (List.mem_of_getElem? (i := 0) rfl)) all0)
 refine gob (fun _ k => st2.trans k) ?_
 refine goA X2 hx hlk Bd.returns rfl rfl (D 6) ?_ (by decide) (by decide)
 show Q10_0 Z o0 w_e mc_ k_e h0 n0 (some (.ref b3)) T2.heap _
 exact ⟨b3, k4, rfl, N2, K17, sz_b3, F6, F7, F8, F9, F10, hi11⟩
def t_9 : List (Nat × Instr × Nat) := [(0, .iload_n 3, 1), (1, .aload_n 2, 1), (2, .arraylength, 1), (3, .if_icmp .ne 8, 3), (6, .aload_n 0, 1), (7, .invokevirtual 129, 3), (10, .astore_n 2, 1), (11, .aload_n 2, 1), (12, .iload_n 3, 1), (13, .aload_n 1, 1), (14, .aastore, 1), (15, .aload_n 0, 1), (16, .iload_n 3, 1), (17, .iconst 1, 1), (18, .iadd, 1), (19, .putfield 48, 3), (22, .return_, 1)]
theorem q_9 : ∀ i : Fin 17, decode c_9 (gt t_9 i.1).1 = .ok ((gt t_9 i.1).2.1, (gt t_9 i.1).2.2) := by decide +kernel
theorem pd_5 : parseMethodDescriptor "()[Ljava/lang/Object;" = some ⟨[], some (.array (.object "java/lang/Object"))⟩ := by decide +kernel
theorem ef_9_0g (m : MethodId) (x0 : Addr) (x1 : Addr) (x2 : Addr) : entryFrame m #[(.ref x0), (.ref x1), (.ref x2), (.int 0)] 4 = mkF m 0 #[.val (.ref x0), .val (.ref x1), .val (.ref x2), .val (.int 0)] [] := by first | (simp [entryFrame, mkF, argsToLocals, Value.category]; done) | rfl
def Q9_0g (Z : State) (o0 : Addr) (o1 : Addr) (o2 : Addr) (mc_ : Int32) (k_e : ClassId) (K_ : String) (h0 : Heap) (n0 : Nat) (v : Option Value) (h : Heap) (L : List Loc) : Prop := ∃ b3 : Addr, ∃ k4 : ClassId, v = none ∧ Fr n0 L ∧ Keep h0 h ([o0] : List Addr) ∧ h0.size ≤ b3 ∧ Fld Z h o0 s_1 s_8 s_3 (.ref b3) ∧ Fld Z h o0 s_1 "size" "I" (.int 1) ∧ Fld Z h o0 s_9 s_12 "I" (.int mc_) ∧ Exa Z h b3 s_3 ∧ Arv Z h b3 k4 (.object s_0) (10 : Int32) [(.ref o1), .null, .null, .null, .null, .null, .null, .null, .null, .null] .null ∧ Ovr Z k4 s_0
set_option maxRecDepth 65536 in
set_option maxHeartbeats 40000000 in
theorem rm9_0g (o0 : Addr) (o1 : Addr) (o2 : Addr) (mc_ : Int32) (k_e : ClassId) (K_ : String) (h0 : Heap) (n0 : Nat) (Z0 : n0 ≤ h0.size) (E_o0 : Exa Z h0 o0 s_1) (F_elementData : Fld Z h0 o0 s_1 s_8 s_3 (.ref o2)) (F_size : Fld Z h0 o0 s_1 "size" "I" (.int 0)) (F_modCount : Fld Z h0 o0 s_9 s_12 "I" (.int mc_)) (V_e : Arv Z h0 o2 k_e (.object s_0) (0 : Int32) [] .null) (n_e : o2 ≠ o0) (S_D : Sta Z h0 s_1 s_28 s_3 (.ref o2)) (wK : (Cond.castable K_ s_0).before a0 Z = true) (E_o1 : Exa Z h0 o1 K_) (g_o0 : n0 ≤ o0) :
  Mt hw l M_29 (Jvm.Cond.code M_29 c_9 4 none) ws R_3_1_10_41 #[(.ref o0), (.ref o1), (.ref o2), (.int 0)] h0 (Q9_0g Z o0 o1 o2 mc_ k_e K_ h0 n0) := by
 refine ent s_1 rfl hisR fun p e s m below meth c s₁ Bd hx hby hml hown hnm hlk hZ X0 e0 => ?_
 have D := fun i => hb hby (q_9 i)
 have u := hU hw
 have N0 := Fr.nil n0
 rw [ef_9_0g]
 show gO (tF s₁ m 0 #[.val (.ref o0), .val (.ref o1), .val (.ref o2), .val (.int 0)] [])
 refine giN X0 hx (D 0) rfl ?_
 refine gaN X0 hx (D 1) rfl rfl ?_
 obtain ⟨cl1, Ar1, aq1, S1, N1, H1, G1⟩ := id V_e
 refine gob (X0.arraylength hx (by rw [e0]; exact Ar1.1) (State.isArrayOf_alike hZ.alike Ar1.2.1) (g := (mkF m 2 #[.val (.ref o0), .val (.ref o1), .val (.ref o2), .val (.int 0)] [(.ref o2), (.int 0)])) rfl rfl (D 2)) ?_
 rw [len_of S1 N1]
 show gO (tF s₁ m 3 #[.val (.ref o0), .val (.ref o1), .val (.ref o2), .val (.int 0)] [(.int 0), (.int 0)])
 refine go (XS.icmpNo X0.here hx rfl (D 3) rfl (teq (by decide : (0 : Int32) = (0 : Int32))).2) ?_
 refine gaN X0 hx (D 4) rfl rfl ?_
 obtain ⟨cq2, q2, q2'⟩ := E_o0.cell
 obtain ⟨_, T2, Lc2, X2, hQ2, st2⟩ := clB X0 (X0.privateBack hx (y := M_28) hown (mvT hZ (u 59)) (mvT hZ (u 60)) (mvT hZ (u 62)) (Cond.privateMethod_at (mvP hZ (u 61) (args := #[]))) (mvT hZ (u 63)) (by decide) (backOf (W := 0) (rm10_0 l Z a0 hw [] o0 o2 mc_ k_e h0 n0 Z0 E_o0 F_elementData F_size F_modCount V_e n_e S_D g_o0) hZ (u 63) (u 8) (by decide) (by decide)) (g := (mkF m 7 #[.val (.ref o0), .val (.ref o1), .val (.ref o2), .val (.int 0)] [(.ref o0)])) rfl (by rw [hml]; rfl) (Steps.refl _) (a := o0) (by rw [e0]; exact q2) q2' (argsL := []) (rest := []) (lenOf pd_5 rfl) rfl (wk rfl rfl) (D 5) (fun _ _ => ⟨rfl, e0, lD rfl, lD rfl⟩)) (k := 1) (n := 10) rfl rfl
 obtain ⟨b3, k4, rfl, Nq2, K2, hz5, F6, F7, F8, F9, F10, hi11⟩ := hQ2
 have N2 := Fr.app N0 Nq2
 have n12 : o0 ≠ b3 := nlt E_o0.lt hz5
 have g15 : n0 ≤ b3 := Nat.le_trans Z0 hz5
 have sz_b3 : h0.size ≤ b3 := Nat.le_trans (Keep.refl h0 []).1 hz5
 have K18 : Keep h0 T2.heap ([o0] : List Addr) := (Keep.refl h0 ([o0] : List Addr)).trans K2 (allS (Or.inl (List.mem_of_getElem? (i := 0) rfl)) all0)
 refine gob (fun _ k => st2.trans k) ?_
 refine go (XS.astoreN X2.here hx rfl (D 6) rfl rfl (l' := #[.val (.ref o0), .val (.ref o1), .val (.ref b3), .val (.int 0)]) rfl) ?_
 refine gaN X2 hx (D 7) rfl rfl ?_
 refine giN X2 hx (D 8) rfl ?_
 refine gaN X2 hx (D 9) rfl rfl ?_
 obtain ⟨cl19, Ar19, aq19, S19, N19, H19, G19⟩ := id F10
 have hin19 : ¬ ((0 : Int32) < 0 ∨ cl19.slots.size ≤ ((0 : Int32)).toNatClampNeg) := inb_of S19 ⟨by decide, by decide⟩
 have c20 := (E_o1.keep K2)
 obtain ⟨T21, h21, X21, e21, W21, st21⟩ := stR X2 hx hZ (rfl : T2.heap = _) Ar19 (j := (0 : Int32)) hin19 rfl (Sto.ofV Ar19 aq19 hi11 (Ins.of_exa c20 wK)) (g := (mkF m 14 #[.val (.ref o0), .val (.ref o1), .val (.ref b3), .val (.int 0)] [(.ref o1), (.int 0), (.ref b3)])) rfl rfl (D 10)
 refine gob st21 ?_
 have N21 := Fr.snoc X21 N2 g15
 have K23 : Keep h0 h21 ([o0] : List Addr) := K18.wr W21 (Or.inr sz_b3)
 have V21 : Arv Z h21 b3 k4 (.object s_0) (10 : Int32) [(.ref o1), .null, .null, .null, .null, .null, .null, .null, .null, .null] .null := Arv.set Ar19 aq19 S19 N19 H19 G19 rfl W21 0 rfl (Nat.le_of_ble_eq_true rfl)
 show gO (tF T21 m 15 #[.val (.ref o0), .val (.ref o1), .val (.ref b3), .val (.int 0)] [])
 refine gaN X21 hx (D 11) rfl rfl ?_
 refine giN X21 hx (D 12) rfl ?_
 refine giC X21 hx (D 13) ?_
 refine go (XS.iadd X21.here hx rfl (D 14) rfl) ?_
 have c24 := (F7.other W21 (Or.inl n12))
 have c25 := ((E_o0.keep K2).wr W21)
 obtain ⟨T26, h26, X26, e26, W26, st26⟩ := putF X21 hx hZ hown (host := "") (Or.inl (hW hw 52 rfl)) Via.refl e21 c24 c25 (Or.inl (hW hw 53 rfl)) (u 7) (ty := .int) (by decide) rfl rfl (g := (mkF m 19 #[.val (.ref o0), .val (.ref o1), .val (.ref b3), .val (.int 0)] [(.int 1), (.ref o0)])) rfl rfl (D 15)
 refine gob st26 ?_
 have N26 := Fr.snoc X26 N21 g_o0
 have K28 : Keep h0 h26 ([o0] : List Addr) := K23.wr W26 (Or.inl (List.mem_of_getElem? (i := 0) rfl))
 have Fw26 := c24.same W26
 show gO (tF T26 m 22 #[.val (.ref o0), .val (.ref o1), .val (.ref b3), .val (.int 0)] [])
 refine goV X26 hx hlk Bd.returns (D 16) ?_ (by decide) (by decide)
 show Q9_0g Z o0 o1 o2 mc_ k_e K_ h0 n0 (none) T26.heap _
 have c29 := (fo (F6.other W21 (Or.inl n12)) W26 (Or.inl (hW hw 31 rfl)) (Or.inl (hW hw 53 rfl)) (.array (.object s_0)) .int)
 have c30 := (fo (F8.other W21 (Or.inl n12)) W26 (Or.inl (hW hw 28 rfl)) (Or.inl (hW hw 53 rfl)) .int .int)
 have c31 := ((F9.wr W21).wr W26)
 have c32 := (V21.other W26 (Ne.symm n12))
 rw [e26]
 exact ⟨b3, k4, rfl, N26, K28, sz_b3, c29, Fw26, c30, c31, c32, hi11⟩
def t_8 : List (Nat × Instr × Nat) := [(0, .aload_n 0, 1), (1, .dup, 1), (2, .getfield 63, 3), (5, .iconst 1, 1), (6, .iadd, 1), (7, .putfield 63, 3), (10, .aload_n 0, 1), (11, .aload_n 1, 1), (12, .aload_n 0, 1), (13, .getfield 9, 3), (16, .aload_n 0, 1), (17, .getfield 48, 3), (20, .invokevirtual 131, 3), (23, .iconst 1, 1), (24, .ireturn, 1)]
theorem q_8 : ∀ i : Fin 15, decode c_8 (gt t_8 i.1).1 = .ok ((gt t_8 i.1).2.1, (gt t_8 i.1).2.2) := by decide +kernel
theorem pd_6 : parseMethodDescriptor "(Ljava/lang/Object;[Ljava/lang/Object;I)V" = some ⟨[(.object "java/lang/Object"), (.array (.object "java/lang/Object")), .int], none⟩ := by decide +kernel
def Q8_0g (Z : State) (o0 : Addr) (o1 : Addr) (w_e : Addr) (mc_ : Int32) (k_e : ClassId) (K_ : String) (h0 : Heap) (n0 : Nat) (v : Option Value) (h : Heap) (L : List Loc) : Prop := ∃ b14 : Addr, ∃ k15 : ClassId, v = some (.int 1) ∧ Fr n0 L ∧ Keep h0 h ([o0] : List Addr) ∧ h0.size ≤ b14 ∧ Fld Z h o0 s_1 s_8 s_3 (.ref b14) ∧ Fld Z h o0 s_1 "size" "I" (.int 1) ∧ Fld Z h o0 s_9 s_12 "I" (.int (mc_ + (1 : Int32))) ∧ Exa Z h b14 s_3 ∧ Arv Z h b14 k15 (.object s_0) (10 : Int32) [(.ref o1), .null, .null, .null, .null, .null, .null, .null, .null, .null] .null ∧ Ovr Z k15 s_0
set_option maxRecDepth 65536 in
set_option maxHeartbeats 40000000 in
theorem rm8_0g (o0 : Addr) (o1 : Addr) (w_e : Addr) (mc_ : Int32) (k_e : ClassId) (K_ : String) (h0 : Heap) (n0 : Nat) (Z0 : n0 ≤ h0.size) (E_o0 : Exa Z h0 o0 s_1) (F_elementData : Fld Z h0 o0 s_1 s_8 s_3 (.ref w_e)) (F_size : Fld Z h0 o0 s_1 "size" "I" (.int 0)) (F_modCount : Fld Z h0 o0 s_9 s_12 "I" (.int mc_)) (V_e : Arv Z h0 w_e k_e (.object s_0) (0 : Int32) [] .null) (n_e : w_e ≠ o0) (S_D : Sta Z h0 s_1 s_28 s_3 (.ref w_e)) (wK : (Cond.castable K_ s_0).before a0 Z = true) (E_o1 : Exa Z h0 o1 K_) (g_o0 : n0 ≤ o0) :
  Mt hw l M_30 (Jvm.Cond.code M_30 c_8 2 (some .boolean)) ws R_4_1_10_56 #[(.ref o0), (.ref o1)] h0 (Q8_0g Z o0 o1 w_e mc_ k_e K_ h0 n0) := by
 refine ent s_1 rfl hisR fun p e s m below meth c s₁ Bd hx hby hml hown hnm hlk hZ X0 e0 => ?_
 have D := fun i => hb hby (q_8 i)
 have u := hU hw
 have N0 := Fr.nil n0
 rw [ef_24]
 show gO (tF s₁ m 0 #[.val (.ref o0), .val (.ref o1)] [])
 refine gaN X0 hx (D 0) rfl rfl ?_
 refine go (XS.dup X0.here hx rfl (D 1) rfl rfl) ?_
 obtain ⟨T1, X1, e1, st1⟩ := getF X0 hx hZ hown (host := "") (Or.inl (hW hw 50 rfl)) (Via.of (u 51)) e0 F_modCount (g := (mkF m 2 #[.val (.ref o0), .val (.ref o1)] [(.ref o0), (.ref o0)])) rfl rfl (D 2)
 refine gob st1 ?_
 refine giC X1 hx (D 3) ?_
 refine go (XS.iadd X1.here hx rfl (D 4) rfl) ?_
 obtain ⟨T2, h2, X2, e2, W2, st2⟩ := putF X1 hx hZ hown (host := "") (Or.inl (hW hw 50 rfl)) (Via.of (u 51)) e1 F_modCount E_o0 (Or.inl (hW hw 28 rfl)) (u 7) (ty := .int) (by decide) rfl rfl (g := (mkF m 7 #[.val (.ref o0), .val (.ref o1)] [(.int (mc_ + (1 : Int32))), (.ref o0)])) rfl rfl (D 5)
 refine gob st2 ?_
 have z3 : n0 ≤ h2.size := Nat.le_trans Z0 (Keep.of_wr W2).1
 have N2 := Fr.snoc X2 N0 g_o0
 have K4 : Keep h0 h2 ([o0] : List Addr) := (Keep.refl h0 ([o0] : List Addr)).wr W2 (Or.inl (List.mem_of_getElem? (i := 0) rfl))
 have Fw2 := F_modCount.same W2
 show gO (tF T2 m 10 #[.val (.ref o0), .val (.ref o1)] [])
 refine gaN X2 hx (D 6) rfl rfl ?_
 refine gaN X2 hx (D 7) rfl rfl ?_
 refine gaN X2 hx (D 8) rfl rfl ?_
 have c5 := (fo F_elementData W2 (Or.inl (hW hw 31 rfl)) (Or.inl (hW hw 28 rfl)) (.array (.object s_0)) .int)
 obtain ⟨T6, X6, e6, st6⟩ := getF X2 hx hZ hown (host := "") (Or.inl (hW hw 30 rfl)) Via.refl e2 c5 (g := (mkF m 13 #[.val (.ref o0), .val (.ref o1)] [(.ref o0), (.ref o1), (.ref o0)])) rfl rfl (D 9)
 refine gob st6 ?_
 refine gaN X6 hx (D 10) rfl rfl ?_
 have c7 := (fo F_size W2 (Or.inl (hW hw 53 rfl)) (Or.inl (hW hw 28 rfl)) .int .int)
 obtain ⟨T8, X8, e8, st8⟩ := getF X6 hx hZ hown (host := "") (Or.inl (hW hw 52 rfl)) Via.refl e6 c7 (g := (mkF m 17 #[.val (.ref o0), .val (.ref o1)] [(.ref o0), (.ref w_e), (.ref o1), (.ref o0)])) rfl rfl (D 11)
 refine gob st8 ?_
 have c10 := (E_o0.wr W2)
 have c11 := (V_e.other W2 n_e)
 have c12 := (S_D.wr W2)
 have c13 := (E_o1.wr W2)
 obtain ⟨cq9, q9, q9'⟩ := c10.cell
 obtain ⟨_, T9, Lc9, X9, hQ9, st9⟩ := clB X8 (X8.privateBack hx (y := M_29) hown (mvT hZ (u 54)) (mvT hZ (u 55)) (mvT hZ (u 57)) (Cond.privateMethod_at (mvP hZ (u 56) (args := #[]))) (mvT hZ (u 58)) (by decide) (backOf (W := 0) (rm9_0g l Z a0 hw [] o0 o1 w_e (mc_ + (1 : Int32)) k_e K_ h2 n0 z3 c10 c5 c7 Fw2 c11 n_e c12 wK c13 g_o0) hZ (u 58) (u 8) (by decide) (by decide)) (g := (mkF m 20 #[.val (.ref o0), .val (.ref o1)] [(.int 0), (.ref w_e), (.ref o1), (.ref o0)])) rfl (by rw [hml]; rfl) (Steps.refl _) (a := o0) (by rw [e8]; exact q9) q9' (argsL := [(.ref o1), (.ref w_e), (.int 0)]) (rest := []) (lenOf pd_6 rfl) rfl (wk rfl rfl) (D 12) (fun _ _ => ⟨rfl, e8, lD rfl, lD rfl⟩)) (k := 1) (n := 10) rfl rfl
 obtain ⟨b14, k15, rfl, Nq9, K9, hz16, F17, F18, F19, F20, F21, hi22⟩ := hQ9
 have N9 := Fr.app N2 Nq9
 have sz_b14 : h0.size ≤ b14 := Nat.le_trans K4.1 hz16
 have K29 : Keep h0 T9.heap ([o0] : List Addr) := K4.trans K9 (allS (Or.inl (List.mem_of_getElem? (i := 0) rfl)) all0)
 refine gob (fun _ k => st9.trans k) ?_
 refine giC X9 hx (D 13) ?_
 refine goZ X9 hx hlk (t := .boolean) Bd.returns (by simp) (D 14) (z' := (1 : Int32)) rfl ?_ (by decide) (by decide)
 show Q8_0g Z o0 o1 w_e mc_ k_e K_ h0 n0 (some (.int (1 : Int32))) T9.heap _
 exact ⟨b14, k15, rfl, N9, K29, sz_b14, F17, F18, F19, F20, F21, hi22⟩
theorem ef_9_1r (m : MethodId) (x0 : Addr) (x1 : Addr) (x2 : Addr) : entryFrame m #[(.ref x0), (.ref x1), (.ref x2), (.int 1)] 4 = mkF m 0 #[.val (.ref x0), .val (.ref x1), .val (.ref x2), .val (.int 1)] [] := by first | (simp [entryFrame, mkF, argsToLocals, Value.category]; done) | rfl
def Q9_1r (Z : State) (o0 : Addr) (o1 : Addr) (o2 : Addr) (mc_ : Int32) (k_e : ClassId) (v_0 : Addr) (h0 : Heap) (n0 : Nat) (v : Option Value) (h : Heap) (L : List Loc) : Prop := v = none ∧ Fr n0 L ∧ Keep h0 h ([o2, o0] : List Addr) ∧ Fld Z h o0 s_1 s_8 s_3 (.ref o2) ∧ Fld Z h o0 s_1 "size" "I" (.int 2) ∧ Fld Z h o0 s_9 s_12 "I" (.int mc_) ∧ Arv Z h o2 k_e (.object s_0) (10 : Int32) [(.ref v_0), (.ref o1), .null, .null, .null, .null, .null, .null, .null, .null] .null
set_option maxRecDepth 65536 in
set_option maxHeartbeats 40000000 in
theorem rm9_1r (o0 : Addr) (o1 : Addr) (o2 : Addr) (mc_ : Int32) (k_e : ClassId) (v_0 : Addr) (h0 : Heap) (n0 : Nat) (Z0 : n0 ≤ h0.size) (E_o0 : Exa Z h0 o0 s_1) (F_elementData : Fld Z h0 o0 s_1 s_8 s_3 (.ref o2)) (F_size : Fld Z h0 o0 s_1 "size" "I" (.int 1)) (F_modCount : Fld Z h0 o0 s_9 s_12 "I" (.int mc_)) (V_e : Arv Z h0 o2 k_e (.object s_0) (10 : Int32) [(.ref v_0), .null, .null, .null, .null, .null, .null, .null, .null, .null] .null) (n_e : o2 ≠ o0) (O_e : Ovr Z k_e s_0) (E_o1 : Exa Z h0 o1 s_4) (g_o2 : n0 ≤ o2) (g_o0 : n0 ≤ o0) :
  Mt hw l M_29 (Jvm.Cond.code M_29 c_9 4 none) ws R_0_0_0_0 #[(.ref o0), (.ref o1), (.ref o2), (.int 1)] h0 (Q9_1r Z o0 o1 o2 mc_ k_e v_0 h0 n0) := by
 refine ent s_1 rfl hisR fun p e s m below meth c s₁ Bd hx hby hml hown hnm hlk hZ X0 e0 => ?_
 have D := fun i => hb hby (q_9 i)
 have u := hU hw
 have N0 := Fr.nil n0
 rw [ef_9_1r]
 show gO (tF s₁ m 0 #[.val (.ref o0), .val (.ref o1), .val (.ref o2), .val (.int 1)] [])
 refine giN X0 hx (D 0) rfl ?_
 refine gaN X0 hx (D 1) rfl rfl ?_
 obtain ⟨cl1, Ar1, aq1, S1, N1, H1, G1⟩ := id V_e
 refine gob (X0.arraylength hx (by rw [e0]; exact Ar1.1) (State.isArrayOf_alike hZ.alike Ar1.2.1) (g := (mkF m 2 #[.val (.ref o0), .val (.ref o1), .val (.ref o2), .val (.int 1)] [(.ref o2), (.int 1)])) rfl rfl (D 2)) ?_
 rw [len_of S1 N1]
 show gO (tF s₁ m 3 #[.val (.ref o0), .val (.ref o1), .val (.ref o2), .val (.int 1)] [(.int 10), (.int 1)])
 refine go (XS.icmpYes X0.here hx rfl (pc0 := 3) (pc' := 11) rfl (D 3) rfl (feq (by decide : ¬ ((1 : Int32) = (10 : Int32)))).2 (by decide) (by decide)) ?_
 refine gaN X0 hx (D 7) rfl rfl ?_
 refine giN X0 hx (D 8) rfl ?_
 refine gaN X0 hx (D 9) rfl rfl ?_
 obtain ⟨cl2, Ar2, aq2, S2, N2, H2, G2⟩ := id V_e
 have hin2 : ¬ ((1 : Int32) < 0 ∨ cl2.slots.size ≤ ((1 : Int32)).toNatClampNeg) := inb_of S2 ⟨by decide, by decide⟩
 obtain ⟨T3, h3, X3, e3, W3, st3⟩ := stR X0 hx hZ e0 Ar2 (j := (1 : Int32)) hin2 rfl (Sto.ofV Ar2 aq2 O_e (Ins.of_exa E_o1 (u 75))) (g := (mkF m 14 #[.val (.ref o0), .val (.ref o1), .val (.ref o2), .val (.int 1)] [(.ref o1), (.int 1), (.ref o2)])) rfl rfl (D 10)
 refine gob st3 ?_
 have N3 := Fr.snoc X3 N0 g_o2
 have K5 : Keep h0 h3 ([o2, o0] : List Addr) := (Keep.refl h0 ([o2, o0] : List Addr)).wr W3 (Or.inl (List.mem_of_getElem? (i := 0) rfl))
 have V3 : Arv Z h3 o2 k_e (.object s_0) (10 : Int32) [(.ref v_0), (.ref o1), .null, .null, .null, .null, .null, .null, .null, .null] .null := Arv.set Ar2 aq2 S2 N2 H2 G2 rfl W3 1 rfl (Nat.le_of_ble_eq_true rfl)
 show gO (tF T3 m 15 #[.val (.ref o0), .val (.ref o1), .val (.ref o2), .val (.int 1)] [])
 refine gaN X3 hx (D 11) rfl rfl ?_
 refine giN X3 hx (D 12) rfl ?_
 refine giC X3 hx (D 13) ?_
 refine go (XS.iadd X3.here hx rfl (D 14) rfl) ?_
 have c6 := (F_size.other W3 (Or.inl (Ne.symm n_e)))
 have c7 := (E_o0.wr W3)
 obtain ⟨T8, h8, X8, e8, W8, st8⟩ := putF X3 hx hZ hown (host := "") (Or.inl (hW hw 52 rfl)) Via.refl e3 c6 c7 (Or.inl (hW hw 53 rfl)) (u 7) (ty := .int) (by decide) rfl rfl (g := (mkF m 19 #[.val (.ref o0), .val (.ref o1), .val (.ref o2), .val (.int 1)] [(.int 2), (.ref o0)])) rfl rfl (D 15)
 refine gob st8 ?_
 have N8 := Fr.snoc X8 N3 g_o0
 have K10 : Keep h0 h8 ([o2, o0] : List Addr) := K5.wr W8 (Or.inl (List.mem_of_getElem? (i := 1) rfl))
 have Fw8 := c6.same W8
 show gO (tF T8 m 22 #[.val (.ref o0), .val (.ref o1), .val (.ref o2), .val (.int 1)] [])
 refine goV X8 hx hlk Bd.returns (D 16) ?_ (by decide) (by decide)
 show Q9_1r Z o0 o1 o2 mc_ k_e v_0 h0 n0 (none) T8.heap _
 have c11 := (fo (F_elementData.other W3 (Or.inl (Ne.symm n_e))) W8 (Or.inl (hW hw 31 rfl)) (Or.inl (hW hw 53 rfl)) (.array (.object s_0)) .int)
 have c12 := (fo (F_modCount.other W3 (Or.inl (Ne.symm n_e))) W8 (Or.inl (hW hw 28 rfl)) (Or.inl (hW hw 53 rfl)) .int .int)
 have c13 := (V3.other W8 n_e)
 rw [e8]
 exact ⟨rfl, N8, K10, c11, Fw8, c12, c13⟩
def Q8_1r (Z : State) (o0 : Addr) (o1 : Addr) (w_e : Addr) (mc_ : Int32) (k_e : ClassId) (v_0 : Addr) (h0 : Heap) (n0 : Nat) (v : Option Value) (h : Heap) (L : List Loc) : Prop := v = some (.int 1) ∧ Fr n0 L ∧ Keep h0 h ([o0, w_e] : List Addr) ∧ Fld Z h o0 s_1 s_8 s_3 (.ref w_e) ∧ Fld Z h o0 s_1 "size" "I" (.int 2) ∧ Fld Z h o0 s_9 s_12 "I" (.int (mc_ + (1 : Int32))) ∧ Arv Z h w_e k_e (.object s_0) (10 : Int32) [(.ref v_0), (.ref o1), .null, .null, .null, .null, .null, .null, .null, .null] .null
set_option maxRecDepth 65536 in
set_option maxHeartbeats 40000000 in
theorem rm8_1r (o0 : Addr) (o1 : Addr) (w_e : Addr) (mc_ : Int32) (k_e : ClassId) (v_0 : Addr) (h0 : Heap) (n0 : Nat) (Z0 : n0 ≤ h0.size) (E_o0 : Exa Z h0 o0 s_1) (F_elementData : Fld Z h0 o0 s_1 s_8 s_3 (.ref w_e)) (F_size : Fld Z h0 o0 s_1 "size" "I" (.int 1)) (F_modCount : Fld Z h0 o0 s_9 s_12 "I" (.int mc_)) (V_e : Arv Z h0 w_e k_e (.object s_0) (10 : Int32) [(.ref v_0), .null, .null, .null, .null, .null, .null, .null, .null, .null] .null) (n_e : w_e ≠ o0) (O_e : Ovr Z k_e s_0) (E_o1 : Exa Z h0 o1 s_4) (g_o0 : n0 ≤ o0) (g_w_e : n0 ≤ w_e) :
  Mt hw l M_30 (Jvm.Cond.code M_30 c_8 2 (some .boolean)) ws R_1_0_0_15 #[(.ref o0), (.ref o1)] h0 (Q8_1r Z o0 o1 w_e mc_ k_e v_0 h0 n0) := by
 refine ent s_1 rfl hisR fun p e s m below meth c s₁ Bd hx hby hml hown hnm hlk hZ X0 e0 => ?_
 have D := fun i => hb hby (q_8 i)
 have u := hU hw
 have N0 := Fr.nil n0
 rw [ef_24]
 show gO (tF s₁ m 0 #[.val (.ref o0), .val (.ref o1)] [])
 refine gaN X0 hx (D 0) rfl rfl ?_
 refine go (XS.dup X0.here hx rfl (D 1) rfl rfl) ?_
 obtain ⟨T1, X1, e1, st1⟩ := getF X0 hx hZ hown (host := "") (Or.inl (hW hw 50 rfl)) (Via.of (u 51)) e0 F_modCount (g := (mkF m 2 #[.val (.ref o0), .val (.ref o1)] [(.ref o0), (.ref o0)])) rfl rfl (D 2)
 refine gob st1 ?_
 refine giC X1 hx (D 3) ?_
 refine go (XS.iadd X1.here hx rfl (D 4) rfl) ?_
 obtain ⟨T2, h2, X2, e2, W2, st2⟩ := putF X1 hx hZ hown (host := "") (Or.inl (hW hw 50 rfl)) (Via.of (u 51)) e1 F_modCount E_o0 (Or.inl (hW hw 28 rfl)) (u 7) (ty := .int) (by decide) rfl rfl (g := (mkF m 7 #[.val (.ref o0), .val (.ref o1)] [(.int (mc_ + (1 : Int32))), (.ref o0)])) rfl rfl (D 5)
 refine gob st2 ?_
 have z3 : n0 ≤ h2.size := Nat.le_trans Z0 (Keep.of_wr W2).1
 have N2 := Fr.snoc X2 N0 g_o0
 have K4 : Keep h0 h2 ([o0, w_e] : List Addr) := (Keep.refl h0 ([o0, w_e] : List Addr)).wr W2 (Or.inl (List.mem_of_getElem? (i := 0) rfl))
 have Fw2 := F_modCount.same W2
 show gO (tF T2 m 10 #[.val (.ref o0), .val (.ref o1)] [])
 refine gaN X2 hx (D 6) rfl rfl ?_
 refine gaN X2 hx (D 7) rfl rfl ?_
 refine gaN X2 hx (D 8) rfl rfl ?_
 have c5 := (fo F_elementData W2 (Or.inl (hW hw 31 rfl)) (Or.inl (hW hw 28 rfl)) (.array (.object s_0)) .int)
 obtain ⟨T6, X6, e6, st6⟩ := getF X2 hx hZ hown (host := "") (Or.inl (hW hw 30 rfl)) Via.refl e2 c5 (g := (mkF m 13 #[.val (.ref o0), .val (.ref o1)] [(.ref o0), (.ref o1), (.ref o0)])) rfl rfl (D 9)
 refine gob st6 ?_
 refine gaN X6 hx (D 10) rfl rfl ?_
 have c7 := (fo F_size W2 (Or.inl (hW hw 53 rfl)) (Or.inl (hW hw 28 rfl)) .int .int)
 obtain ⟨T8, X8, e8, st8⟩ := getF X6 hx hZ hown (host := "") (Or.inl (hW hw 52 rfl)) Via.refl e6 c7 (g := (mkF m 17 #[.val (.ref o0), .val (.ref o1)] [(.ref o0), (.ref w_e), (.ref o1), (.ref o0)])) rfl rfl (D 11)
 refine gob st8 ?_
 have c10 := (E_o0.wr W2)
 have c11 := (V_e.other W2 n_e)
 have c12 := (E_o1.wr W2)
 obtain ⟨cq9, q9, q9'⟩ := c10.cell
 obtain ⟨_, T9, Lc9, X9, hQ9, st9⟩ := clB X8 (X8.privateBack hx (y := M_29) hown (mvT hZ (u 54)) (mvT hZ (u 55)) (mvT hZ (u 57)) (Cond.privateMethod_at (mvP hZ (u 56) (args := #[]))) (mvT hZ (u 58)) (by decide) (backOf (W := 0) (rm9_1r l Z a0 hw [] o0 o1 w_e (mc_ + (1 : Int32)) k_e v_0 h2 n0 z3 c10 c5 c7 Fw2 c11 n_e O_e c12 g_w_e g_o0) hZ (u 58) (u 8) (by decide) (by decide)) (g := (mkF m 20 #[.val (.ref o0), .val (.ref o1)] [(.int 1), (.ref w_e), (.ref o1), (.ref o0)])) rfl (by rw [hml]; rfl) (Steps.refl _) (a := o0) (by rw [e8]; exact q9) q9' (argsL := [(.ref o1), (.ref w_e), (.int 1)]) (rest := []) (lenOf pd_6 rfl) rfl (wk rfl rfl) (D 12) (fun _ _ => ⟨rfl, e8, lD rfl, lD rfl⟩)) (k := 0) (n := 0) rfl rfl
 obtain ⟨rfl, Nq9, K9, F13, F14, F15, F16⟩ := hQ9
 have N9 := Fr.app N2 Nq9
 have K19 : Keep h0 T9.heap ([o0, w_e] : List Addr) := K4.trans K9 (allS (Or.inl (List.mem_of_getElem? (i := 1) rfl)) (allS (Or.inl (List.mem_of_getElem? (i := 0) rfl)) all0))
 refine gob (fun _ k => st9.trans k) ?_
 refine giC X9 hx (D 13) ?_
 refine goZ X9 hx hlk (t := .boolean) Bd.returns (by simp) (D 14) (z' := (1 : Int32)) rfl ?_ (by decide) (by decide)
 show Q8_1r Z o0 o1 w_e mc_ k_e v_0 h0 n0 (some (.int (1 : Int32))) T9.heap _
 exact ⟨rfl, N9, K19, F13, F14, F15, F16⟩
theorem ef_9_2r (m : MethodId) (x0 : Addr) (x1 : Addr) (x2 : Addr) : entryFrame m #[(.ref x0), (.ref x1), (.ref x2), (.int 2)] 4 = mkF m 0 #[.val (.ref x0), .val (.ref x1), .val (.ref x2), .val (.int 2)] [] := by first | (simp [entryFrame, mkF, argsToLocals, Value.category]; done) | rfl
def Q9_2r (Z : State) (o0 : Addr) (o1 : Addr) (o2 : Addr) (mc_ : Int32) (k_e : ClassId) (v_0 : Addr) (v_1 : Addr) (h0 : Heap) (n0 : Nat) (v : Option Value) (h : Heap) (L : List Loc) : Prop := v = none ∧ Fr n0 L ∧ Keep h0 h ([o2, o0] : List Addr) ∧ Fld Z h o0 s_1 s_8 s_3 (.ref o2) ∧ Fld Z h o0 s_1 "size" "I" (.int 3) ∧ Fld Z h o0 s_9 s_12 "I" (.int mc_) ∧ Arv Z h o2 k_e (.object s_0) (10 : Int32) [(.ref v_0), (.ref v_1), (.ref o1), .null, .null, .null, .null, .null, .null, .null] .null
set_option maxRecDepth 65536 in
set_option maxHeartbeats 40000000 in
theorem rm9_2r (o0 : Addr) (o1 : Addr) (o2 : Addr) (mc_ : Int32) (k_e : ClassId) (v_0 : Addr) (v_1 : Addr) (h0 : Heap) (n0 : Nat) (Z0 : n0 ≤ h0.size) (E_o0 : Exa Z h0 o0 s_1) (F_elementData : Fld Z h0 o0 s_1 s_8 s_3 (.ref o2)) (F_size : Fld Z h0 o0 s_1 "size" "I" (.int 2)) (F_modCount : Fld Z h0 o0 s_9 s_12 "I" (.int mc_)) (V_e : Arv Z h0 o2 k_e (.object s_0) (10 : Int32) [(.ref v_0), (.ref v_1), .null, .null, .null, .null, .null, .null, .null, .null] .null) (n_e : o2 ≠ o0) (O_e : Ovr Z k_e s_0) (E_o1 : Exa Z h0 o1 s_4) (g_o2 : n0 ≤ o2) (g_o0 : n0 ≤ o0) :
  Mt hw l M_29 (Jvm.Cond.code M_29 c_9 4 none) ws R_0_0_0_0 #[(.ref o0), (.ref o1), (.ref o2), (.int 2)] h0 (Q9_2r Z o0 o1 o2 mc_ k_e v_0 v_1 h0 n0) := by
 refine ent s_1 rfl hisR fun p e s m below meth c s₁ Bd hx hby hml hown hnm hlk hZ X0 e0 => ?_
 have D := fun i => hb hby (q_9 i)
 have u := hU hw
 have N0 := Fr.nil n0
 rw [ef_9_2r]
 show gO (tF s₁ m 0 #[.val (.ref o0), .val (.ref o1), .val (.ref o2), .val (.int 2)] [])
 refine giN X0 hx (D 0) rfl ?_
 refine gaN X0 hx (D 1) rfl rfl ?_
 obtain ⟨cl1, Ar1, aq1, S1, N1, H1, G1⟩ := id V_e
 refine gob (X0.arraylength hx (by rw [e0]; exact Ar1.1) (State.isArrayOf_alike hZ.alike Ar1.2.1) (g := (mkF m 2 #[.val (.ref o0), .val (.ref o1), .val (.ref o2), .val (.int 2)] [(.ref o2), (.int 2)])) rfl rfl (D 2)) ?_
 rw [len_of S1 N1]
 show gO (tF s₁ m 3 #[.val (.ref o0), .val (.ref o1), .val (.ref o2), .val (.int 2)] [(.int 10), (.int 2)])
 refine go (XS.icmpYes X0.here hx rfl (pc0 := 3) (pc' := 11) rfl (D 3) rfl (feq (by decide : ¬ ((2 : Int32) = (10 : Int32)))).2 (by decide) (by decide)) ?_
 refine gaN X0 hx (D 7) rfl rfl ?_
 refine giN X0 hx (D 8) rfl ?_
 refine gaN X0 hx (D 9) rfl rfl ?_
 obtain ⟨cl2, Ar2, aq2, S2, N2, H2, G2⟩ := id V_e
 have hin2 : ¬ ((2 : Int32) < 0 ∨ cl2.slots.size ≤ ((2 : Int32)).toNatClampNeg) := inb_of S2 ⟨by decide, by decide⟩
 obtain ⟨T3, h3, X3, e3, W3, st3⟩ := stR X0 hx hZ e0 Ar2 (j := (2 : Int32)) hin2 rfl (Sto.ofV Ar2 aq2 O_e (Ins.of_exa E_o1 (u 75))) (g := (mkF m 14 #[.val (.ref o0), .val (.ref o1), .val (.ref o2), .val (.int 2)] [(.ref o1), (.int 2), (.ref o2)])) rfl rfl (D 10)
 refine gob st3 ?_
 have N3 := Fr.snoc X3 N0 g_o2
 have K5 : Keep h0 h3 ([o2, o0] : List Addr) := (Keep.refl h0 ([o2, o0] : List Addr)).wr W3 (Or.inl (List.mem_of_getElem? (i := 0) rfl))
 have V3 : Arv Z h3 o2 k_e (.object s_0) (10 : Int32) [(.ref v_0), (.ref v_1), (.ref o1), .null, .null, .null, .null, .null, .null, .null] .null := Arv.set Ar2 aq2 S2 N2 H2 G2 rfl W3 2 rfl (Nat.le_of_ble_eq_true rfl)
 show gO (tF T3 m 15 #[.val (.ref o0), .val (.ref o1), .val (.ref o2), .val (.int 2)] [])
 refine gaN X3 hx (D 11) rfl rfl ?_
 refine giN X3 hx (D 12) rfl ?_
 refine giC X3 hx (D 13) ?_
 refine go (XS.iadd X3.here hx rfl (D 14) rfl) ?_
 have c6 := (F_size.other W3 (Or.inl (Ne.symm n_e)))
 have c7 := (E_o0.wr W3)
 obtain ⟨T8, h8, X8, e8, W8, st8⟩ := putF X3 hx hZ hown (host := "") (Or.inl (hW hw 52 rfl)) Via.refl e3 c6 c7 (Or.inl (hW hw 53 rfl)) (u 7) (ty := .int) (by decide) rfl rfl (g := (mkF m 19 #[.val (.ref o0), .val (.ref o1), .val (.ref o2), .val (.int 2)] [(.int 3), (.ref o0)])) rfl rfl (D 15)
 refine gob st8 ?_
 have N8 := Fr.snoc X8 N3 g_o0
 have K10 : Keep h0 h8 ([o2, o0] : List Addr) := K5.wr W8 (Or.inl (List.mem_of_getElem? (i := 1) rfl))
 have Fw8 := c6.same W8
 show gO (tF T8 m 22 #[.val (.ref o0), .val (.ref o1), .val (.ref o2), .val (.int 2)] [])
 refine goV X8 hx hlk Bd.returns (D 16) ?_ (by decide) (by decide)
 show Q9_2r Z o0 o1 o2 mc_ k_e v_0 v_1 h0 n0 (none) T8.heap _
 have c11 := (fo (F_elementData.other W3 (Or.inl (Ne.symm n_e))) W8 (Or.inl (hW hw 31 rfl)) (Or.inl (hW hw 53 rfl)) (.array (.object s_0)) .int)
 have c12 := (fo (F_modCount.other W3 (Or.inl (Ne.symm n_e))) W8 (Or.inl (hW hw 28 rfl)) (Or.inl (hW hw 53 rfl)) .int .int)
 have c13 := (V3.other W8 n_e)
 rw [e8]
 exact ⟨rfl, N8, K10, c11, Fw8, c12, c13⟩
def Q8_2r (Z : State) (o0 : Addr) (o1 : Addr) (w_e : Addr) (mc_ : Int32) (k_e : ClassId) (v_0 : Addr) (v_1 : Addr) (h0 : Heap) (n0 : Nat) (v : Option Value) (h : Heap) (L : List Loc) : Prop := v = some (.int 1) ∧ Fr n0 L ∧ Keep h0 h ([o0, w_e] : List Addr) ∧ Fld Z h o0 s_1 s_8 s_3 (.ref w_e) ∧ Fld Z h o0 s_1 "size" "I" (.int 3) ∧ Fld Z h o0 s_9 s_12 "I" (.int (mc_ + (1 : Int32))) ∧ Arv Z h w_e k_e (.object s_0) (10 : Int32) [(.ref v_0), (.ref v_1), (.ref o1), .null, .null, .null, .null, .null, .null, .null] .null
set_option maxRecDepth 65536 in
set_option maxHeartbeats 40000000 in
theorem rm8_2r (o0 : Addr) (o1 : Addr) (w_e : Addr) (mc_ : Int32) (k_e : ClassId) (v_0 : Addr) (v_1 : Addr) (h0 : Heap) (n0 : Nat) (Z0 : n0 ≤ h0.size) (E_o0 : Exa Z h0 o0 s_1) (F_elementData : Fld Z h0 o0 s_1 s_8 s_3 (.ref w_e)) (F_size : Fld Z h0 o0 s_1 "size" "I" (.int 2)) (F_modCount : Fld Z h0 o0 s_9 s_12 "I" (.int mc_)) (V_e : Arv Z h0 w_e k_e (.object s_0) (10 : Int32) [(.ref v_0), (.ref v_1), .null, .null, .null, .null, .null, .null, .null, .null] .null) (n_e : w_e ≠ o0) (O_e : Ovr Z k_e s_0) (E_o1 : Exa Z h0 o1 s_4) (g_o0 : n0 ≤ o0) (g_w_e : n0 ≤ w_e) :
  Mt hw l M_30 (Jvm.Cond.code M_30 c_8 2 (some .boolean)) ws R_1_0_0_15 #[(.ref o0), (.ref o1)] h0 (Q8_2r Z o0 o1 w_e mc_ k_e v_0 v_1 h0 n0) := by
 refine ent s_1 rfl hisR fun p e s m below meth c s₁ Bd hx hby hml hown hnm hlk hZ X0 e0 => ?_
 have D := fun i => hb hby (q_8 i)
 have u := hU hw
 have N0 := Fr.nil n0
 rw [ef_24]
 show gO (tF s₁ m 0 #[.val (.ref o0), .val (.ref o1)] [])
 refine gaN X0 hx (D 0) rfl rfl ?_
 refine go (XS.dup X0.here hx rfl (D 1) rfl rfl) ?_
 obtain ⟨T1, X1, e1, st1⟩ := getF X0 hx hZ hown (host := "") (Or.inl (hW hw 50 rfl)) (Via.of (u 51)) e0 F_modCount (g := (mkF m 2 #[.val (.ref o0), .val (.ref o1)] [(.ref o0), (.ref o0)])) rfl rfl (D 2)
 refine gob st1 ?_
 refine giC X1 hx (D 3) ?_
 refine go (XS.iadd X1.here hx rfl (D 4) rfl) ?_
 obtain ⟨T2, h2, X2, e2, W2, st2⟩ := putF X1 hx hZ hown (host := "") (Or.inl (hW hw 50 rfl)) (Via.of (u 51)) e1 F_modCount E_o0 (Or.inl (hW hw 28 rfl)) (u 7) (ty := .int) (by decide) rfl rfl (g := (mkF m 7 #[.val (.ref o0), .val (.ref o1)] [(.int (mc_ + (1 : Int32))), (.ref o0)])) rfl rfl (D 5)
 refine gob st2 ?_
 have z3 : n0 ≤ h2.size := Nat.le_trans Z0 (Keep.of_wr W2).1
 have N2 := Fr.snoc X2 N0 g_o0
 have K4 : Keep h0 h2 ([o0, w_e] : List Addr) := (Keep.refl h0 ([o0, w_e] : List Addr)).wr W2 (Or.inl (List.mem_of_getElem? (i := 0) rfl))
 have Fw2 := F_modCount.same W2
 show gO (tF T2 m 10 #[.val (.ref o0), .val (.ref o1)] [])
 refine gaN X2 hx (D 6) rfl rfl ?_
 refine gaN X2 hx (D 7) rfl rfl ?_
 refine gaN X2 hx (D 8) rfl rfl ?_
 have c5 := (fo F_elementData W2 (Or.inl (hW hw 31 rfl)) (Or.inl (hW hw 28 rfl)) (.array (.object s_0)) .int)
 obtain ⟨T6, X6, e6, st6⟩ := getF X2 hx hZ hown (host := "") (Or.inl (hW hw 30 rfl)) Via.refl e2 c5 (g := (mkF m 13 #[.val (.ref o0), .val (.ref o1)] [(.ref o0), (.ref o1), (.ref o0)])) rfl rfl (D 9)
 refine gob st6 ?_
 refine gaN X6 hx (D 10) rfl rfl ?_
 have c7 := (fo F_size W2 (Or.inl (hW hw 53 rfl)) (Or.inl (hW hw 28 rfl)) .int .int)
 obtain ⟨T8, X8, e8, st8⟩ := getF X6 hx hZ hown (host := "") (Or.inl (hW hw 52 rfl)) Via.refl e6 c7 (g := (mkF m 17 #[.val (.ref o0), .val (.ref o1)] [(.ref o0), (.ref w_e), (.ref o1), (.ref o0)])) rfl rfl (D 11)
 refine gob st8 ?_
 have c10 := (E_o0.wr W2)
 have c11 := (V_e.other W2 n_e)
 have c12 := (E_o1.wr W2)
 obtain ⟨cq9, q9, q9'⟩ := c10.cell
 obtain ⟨_, T9, Lc9, X9, hQ9, st9⟩ := clB X8 (X8.privateBack hx (y := M_29) hown (mvT hZ (u 54)) (mvT hZ (u 55)) (mvT hZ (u 57)) (Cond.privateMethod_at (mvP hZ (u 56) (args := #[]))) (mvT hZ (u 58)) (by decide) (backOf (W := 0) (rm9_2r l Z a0 hw [] o0 o1 w_e (mc_ + (1 : Int32)) k_e v_0 v_1 h2 n0 z3 c10 c5 c7 Fw2 c11 n_e O_e c12 g_w_e g_o0) hZ (u 58) (u 8) (by decide) (by decide)) (g := (mkF m 20 #[.val (.ref o0), .val (.ref o1)] [(.int 2), (.ref w_e), (.ref o1), (.ref o0)])) rfl (by rw [hml]; rfl) (Steps.refl _) (a := o0) (by rw [e8]; exact q9) q9' (argsL := [(.ref o1), (.ref w_e), (.int 2)]) (rest := []) (lenOf pd_6 rfl) rfl (wk rfl rfl) (D 12) (fun _ _ => ⟨rfl, e8, lD rfl, lD rfl⟩)) (k := 0) (n := 0) rfl rfl
 obtain ⟨rfl, Nq9, K9, F13, F14, F15, F16⟩ := hQ9
 have N9 := Fr.app N2 Nq9
 have K19 : Keep h0 T9.heap ([o0, w_e] : List Addr) := K4.trans K9 (allS (Or.inl (List.mem_of_getElem? (i := 1) rfl)) (allS (Or.inl (List.mem_of_getElem? (i := 0) rfl)) all0))
 refine gob (fun _ k => st9.trans k) ?_
 refine giC X9 hx (D 13) ?_
 refine goZ X9 hx hlk (t := .boolean) Bd.returns (by simp) (D 14) (z' := (1 : Int32)) rfl ?_ (by decide) (by decide)
 show Q8_2r Z o0 o1 w_e mc_ k_e v_0 v_1 h0 n0 (some (.int (1 : Int32))) T9.heap _
 exact ⟨rfl, N9, K19, F13, F14, F15, F16⟩
theorem ef_9_3r (m : MethodId) (x0 : Addr) (x1 : Addr) (x2 : Addr) : entryFrame m #[(.ref x0), (.ref x1), (.ref x2), (.int 3)] 4 = mkF m 0 #[.val (.ref x0), .val (.ref x1), .val (.ref x2), .val (.int 3)] [] := by first | (simp [entryFrame, mkF, argsToLocals, Value.category]; done) | rfl
def Q9_3r (Z : State) (o0 : Addr) (o1 : Addr) (o2 : Addr) (mc_ : Int32) (k_e : ClassId) (v_0 : Addr) (v_1 : Addr) (v_2 : Addr) (h0 : Heap) (n0 : Nat) (v : Option Value) (h : Heap) (L : List Loc) : Prop := v = none ∧ Fr n0 L ∧ Keep h0 h ([o2, o0] : List Addr) ∧ Fld Z h o0 s_1 s_8 s_3 (.ref o2) ∧ Fld Z h o0 s_1 "size" "I" (.int 4) ∧ Fld Z h o0 s_9 s_12 "I" (.int mc_) ∧ Arv Z h o2 k_e (.object s_0) (10 : Int32) [(.ref v_0), (.ref v_1), (.ref v_2), (.ref o1), .null, .null, .null, .null, .null, .null] .null
set_option maxRecDepth 65536 in
set_option maxHeartbeats 40000000 in
theorem rm9_3r (o0 : Addr) (o1 : Addr) (o2 : Addr) (mc_ : Int32) (k_e : ClassId) (v_0 : Addr) (v_1 : Addr) (v_2 : Addr) (h0 : Heap) (n0 : Nat) (Z0 : n0 ≤ h0.size) (E_o0 : Exa Z h0 o0 s_1) (F_elementData : Fld Z h0 o0 s_1 s_8 s_3 (.ref o2)) (F_size : Fld Z h0 o0 s_1 "size" "I" (.int 3)) (F_modCount : Fld Z h0 o0 s_9 s_12 "I" (.int mc_)) (V_e : Arv Z h0 o2 k_e (.object s_0) (10 : Int32) [(.ref v_0), (.ref v_1), (.ref v_2), .null, .null, .null, .null, .null, .null, .null] .null) (n_e : o2 ≠ o0) (O_e : Ovr Z k_e s_0) (E_o1 : Exa Z h0 o1 s_4) (g_o2 : n0 ≤ o2) (g_o0 : n0 ≤ o0) :
  Mt hw l M_29 (Jvm.Cond.code M_29 c_9 4 none) ws R_0_0_0_0 #[(.ref o0), (.ref o1), (.ref o2), (.int 3)] h0 (Q9_3r Z o0 o1 o2 mc_ k_e v_0 v_1 v_2 h0 n0) := by
 refine ent s_1 rfl hisR fun p e s m below meth c s₁ Bd hx hby hml hown hnm hlk hZ X0 e0 => ?_
 have D := fun i => hb hby (q_9 i)
 have u := hU hw
 have N0 := Fr.nil n0
 rw [ef_9_3r]
 show gO (tF s₁ m 0 #[.val (.ref o0), .val (.ref o1), .val (.ref o2), .val (.int 3)] [])
 refine giN X0 hx (D 0) rfl ?_
 refine gaN X0 hx (D 1) rfl rfl ?_
 obtain ⟨cl1, Ar1, aq1, S1, N1, H1, G1⟩ := id V_e
 refine gob (X0.arraylength hx (by rw [e0]; exact Ar1.1) (State.isArrayOf_alike hZ.alike Ar1.2.1) (g := (mkF m 2 #[.val (.ref o0), .val (.ref o1), .val (.ref o2), .val (.int 3)] [(.ref o2), (.int 3)])) rfl rfl (D 2)) ?_
 rw [len_of S1 N1]
 show gO (tF s₁ m 3 #[.val (.ref o0), .val (.ref o1), .val (.ref o2), .val (.int 3)] [(.int 10), (.int 3)])
 refine go (XS.icmpYes X0.here hx rfl (pc0 := 3) (pc' := 11) rfl (D 3) rfl (feq (by decide : ¬ ((3 : Int32) = (10 : Int32)))).2 (by decide) (by decide)) ?_
 refine gaN X0 hx (D 7) rfl rfl ?_
 refine giN X0 hx (D 8) rfl ?_
 refine gaN X0 hx (D 9) rfl rfl ?_
 obtain ⟨cl2, Ar2, aq2, S2, N2, H2, G2⟩ := id V_e
 have hin2 : ¬ ((3 : Int32) < 0 ∨ cl2.slots.size ≤ ((3 : Int32)).toNatClampNeg) := inb_of S2 ⟨by decide, by decide⟩
 obtain ⟨T3, h3, X3, e3, W3, st3⟩ := stR X0 hx hZ e0 Ar2 (j := (3 : Int32)) hin2 rfl (Sto.ofV Ar2 aq2 O_e (Ins.of_exa E_o1 (u 75))) (g := (mkF m 14 #[.val (.ref o0), .val (.ref o1), .val (.ref o2), .val (.int 3)] [(.ref o1), (.int 3), (.ref o2)])) rfl rfl (D 10)
 refine gob st3 ?_
 have N3 := Fr.snoc X3 N0 g_o2
 have K5 : Keep h0 h3 ([o2, o0] : List Addr) := (Keep.refl h0 ([o2, o0] : List Addr)).wr W3 (Or.inl (List.mem_of_getElem? (i := 0) rfl))
 have V3 : Arv Z h3 o2 k_e (.object s_0) (10 : Int32) [(.ref v_0), (.ref v_1), (.ref v_2), (.ref o1), .null, .null, .null, .null, .null, .null] .null := Arv.set Ar2 aq2 S2 N2 H2 G2 rfl W3 3 rfl (Nat.le_of_ble_eq_true rfl)
 show gO (tF T3 m 15 #[.val (.ref o0), .val (.ref o1), .val (.ref o2), .val (.int 3)] [])
 refine gaN X3 hx (D 11) rfl rfl ?_
 refine giN X3 hx (D 12) rfl ?_
 refine giC X3 hx (D 13) ?_
 refine go (XS.iadd X3.here hx rfl (D 14) rfl) ?_
 have c6 := (F_size.other W3 (Or.inl (Ne.symm n_e)))
 have c7 := (E_o0.wr W3)
 obtain ⟨T8, h8, X8, e8, W8, st8⟩ := putF X3 hx hZ hown (host := "") (Or.inl (hW hw 52 rfl)) Via.refl e3 c6 c7 (Or.inl (hW hw 53 rfl)) (u 7) (ty := .int) (by decide) rfl rfl (g := (mkF m 19 #[.val (.ref o0), .val (.ref o1), .val (.ref o2), .val (.int 3)] [(.int 4), (.ref o0)])) rfl rfl (D 15)
 refine gob st8 ?_
 have N8 := Fr.snoc X8 N3 g_o0
 have K10 : Keep h0 h8 ([o2, o0] : List Addr) := K5.wr W8 (Or.inl (List.mem_of_getElem? (i := 1) rfl))
 have Fw8 := c6.same W8
 show gO (tF T8 m 22 #[.val (.ref o0), .val (.ref o1), .val (.ref o2), .val (.int 3)] [])
 refine goV X8 hx hlk Bd.returns (D 16) ?_ (by decide) (by decide)
 show Q9_3r Z o0 o1 o2 mc_ k_e v_0 v_1 v_2 h0 n0 (none) T8.heap _
 have c11 := (fo (F_elementData.other W3 (Or.inl (Ne.symm n_e))) W8 (Or.inl (hW hw 31 rfl)) (Or.inl (hW hw 53 rfl)) (.array (.object s_0)) .int)
 have c12 := (fo (F_modCount.other W3 (Or.inl (Ne.symm n_e))) W8 (Or.inl (hW hw 28 rfl)) (Or.inl (hW hw 53 rfl)) .int .int)
 have c13 := (V3.other W8 n_e)
 rw [e8]
 exact ⟨rfl, N8, K10, c11, Fw8, c12, c13⟩
def Q8_3r (Z : State) (o0 : Addr) (o1 : Addr) (w_e : Addr) (mc_ : Int32) (k_e : ClassId) (v_0 : Addr) (v_1 : Addr) (v_2 : Addr) (h0 : Heap) (n0 : Nat) (v : Option Value) (h : Heap) (L : List Loc) : Prop := v = some (.int 1) ∧ Fr n0 L ∧ Keep h0 h ([o0, w_e] : List Addr) ∧ Fld Z h o0 s_1 s_8 s_3 (.ref w_e) ∧ Fld Z h o0 s_1 "size" "I" (.int 4) ∧ Fld Z h o0 s_9 s_12 "I" (.int (mc_ + (1 : Int32))) ∧ Arv Z h w_e k_e (.object s_0) (10 : Int32) [(.ref v_0), (.ref v_1), (.ref v_2), (.ref o1), .null, .null, .null, .null, .null, .null] .null
set_option maxRecDepth 65536 in
set_option maxHeartbeats 40000000 in
theorem rm8_3r (o0 : Addr) (o1 : Addr) (w_e : Addr) (mc_ : Int32) (k_e : ClassId) (v_0 : Addr) (v_1 : Addr) (v_2 : Addr) (h0 : Heap) (n0 : Nat) (Z0 : n0 ≤ h0.size) (E_o0 : Exa Z h0 o0 s_1) (F_elementData : Fld Z h0 o0 s_1 s_8 s_3 (.ref w_e)) (F_size : Fld Z h0 o0 s_1 "size" "I" (.int 3)) (F_modCount : Fld Z h0 o0 s_9 s_12 "I" (.int mc_)) (V_e : Arv Z h0 w_e k_e (.object s_0) (10 : Int32) [(.ref v_0), (.ref v_1), (.ref v_2), .null, .null, .null, .null, .null, .null, .null] .null) (n_e : w_e ≠ o0) (O_e : Ovr Z k_e s_0) (E_o1 : Exa Z h0 o1 s_4) (g_o0 : n0 ≤ o0) (g_w_e : n0 ≤ w_e) :
  Mt hw l M_30 (Jvm.Cond.code M_30 c_8 2 (some .boolean)) ws R_1_0_0_15 #[(.ref o0), (.ref o1)] h0 (Q8_3r Z o0 o1 w_e mc_ k_e v_0 v_1 v_2 h0 n0) := by
 refine ent s_1 rfl hisR fun p e s m below meth c s₁ Bd hx hby hml hown hnm hlk hZ X0 e0 => ?_
 have D := fun i => hb hby (q_8 i)
 have u := hU hw
 have N0 := Fr.nil n0
 rw [ef_24]
 show gO (tF s₁ m 0 #[.val (.ref o0), .val (.ref o1)] [])
 refine gaN X0 hx (D 0) rfl rfl ?_
 refine go (XS.dup X0.here hx rfl (D 1) rfl rfl) ?_
 obtain ⟨T1, X1, e1, st1⟩ := getF X0 hx hZ hown (host := "") (Or.inl (hW hw 50 rfl)) (Via.of (u 51)) e0 F_modCount (g := (mkF m 2 #[.val (.ref o0), .val (.ref o1)] [(.ref o0), (.ref o0)])) rfl rfl (D 2)
 refine gob st1 ?_
 refine giC X1 hx (D 3) ?_
 refine go (XS.iadd X1.here hx rfl (D 4) rfl) ?_
 obtain ⟨T2, h2, X2, e2, W2, st2⟩ := putF X1 hx hZ hown (host := "") (Or.inl (hW hw 50 rfl)) (Via.of (u 51)) e1 F_modCount E_o0 (Or.inl (hW hw 28 rfl)) (u 7) (ty := .int) (by decide) rfl rfl (g := (mkF m 7 #[.val (.ref o0), .val (.ref o1)] [(.int (mc_ + (1 : Int32))), (.ref o0)])) rfl rfl (D 5)
 refine gob st2 ?_
 have z3 : n0 ≤ h2.size := Nat.le_trans Z0 (Keep.of_wr W2).1
 have N2 := Fr.snoc X2 N0 g_o0
 have K4 : Keep h0 h2 ([o0, w_e] : List Addr) := (Keep.refl h0 ([o0, w_e] : List Addr)).wr W2 (Or.inl (List.mem_of_getElem? (i := 0) rfl))
 have Fw2 := F_modCount.same W2
 show gO (tF T2 m 10 #[.val (.ref o0), .val (.ref o1)] [])
 refine gaN X2 hx (D 6) rfl rfl ?_
 refine gaN X2 hx (D 7) rfl rfl ?_
 refine gaN X2 hx (D 8) rfl rfl ?_
 have c5 := (fo F_elementData W2 (Or.inl (hW hw 31 rfl)) (Or.inl (hW hw 28 rfl)) (.array (.object s_0)) .int)
 obtain ⟨T6, X6, e6, st6⟩ := getF X2 hx hZ hown (host := "") (Or.inl (hW hw 30 rfl)) Via.refl e2 c5 (g := (mkF m 13 #[.val (.ref o0), .val (.ref o1)] [(.ref o0), (.ref o1), (.ref o0)])) rfl rfl (D 9)
 refine gob st6 ?_
 refine gaN X6 hx (D 10) rfl rfl ?_
 have c7 := (fo F_size W2 (Or.inl (hW hw 53 rfl)) (Or.inl (hW hw 28 rfl)) .int .int)
 obtain ⟨T8, X8, e8, st8⟩ := getF X6 hx hZ hown (host := "") (Or.inl (hW hw 52 rfl)) Via.refl e6 c7 (g := (mkF m 17 #[.val (.ref o0), .val (.ref o1)] [(.ref o0), (.ref w_e), (.ref o1), (.ref o0)])) rfl rfl (D 11)
 refine gob st8 ?_
 have c10 := (E_o0.wr W2)
 have c11 := (V_e.other W2 n_e)
 have c12 := (E_o1.wr W2)
 obtain ⟨cq9, q9, q9'⟩ := c10.cell
 obtain ⟨_, T9, Lc9, X9, hQ9, st9⟩ := clB X8 (X8.privateBack hx (y := M_29) hown (mvT hZ (u 54)) (mvT hZ (u 55)) (mvT hZ (u 57)) (Cond.privateMethod_at (mvP hZ (u 56) (args := #[]))) (mvT hZ (u 58)) (by decide) (backOf (W := 0) (rm9_3r l Z a0 hw [] o0 o1 w_e (mc_ + (1 : Int32)) k_e v_0 v_1 v_2 h2 n0 z3 c10 c5 c7 Fw2 c11 n_e O_e c12 g_w_e g_o0) hZ (u 58) (u 8) (by decide) (by decide)) (g := (mkF m 20 #[.val (.ref o0), .val (.ref o1)] [(.int 3), (.ref w_e), (.ref o1), (.ref o0)])) rfl (by rw [hml]; rfl) (Steps.refl _) (a := o0) (by rw [e8]; exact q9) q9' (argsL := [(.ref o1), (.ref w_e), (.int 3)]) (rest := []) (lenOf pd_6 rfl) rfl (wk rfl rfl) (D 12) (fun _ _ => ⟨rfl, e8, lD rfl, lD rfl⟩)) (k := 0) (n := 0) rfl rfl
 obtain ⟨rfl, Nq9, K9, F13, F14, F15, F16⟩ := hQ9
 have N9 := Fr.app N2 Nq9
 have K19 : Keep h0 T9.heap ([o0, w_e] : List Addr) := K4.trans K9 (allS (Or.inl (List.mem_of_getElem? (i := 1) rfl)) (allS (Or.inl (List.mem_of_getElem? (i := 0) rfl)) all0))
 refine gob (fun _ k => st9.trans k) ?_
 refine giC X9 hx (D 13) ?_
 refine goZ X9 hx hlk (t := .boolean) Bd.returns (by simp) (D 14) (z' := (1 : Int32)) rfl ?_ (by decide) (by decide)
 show Q8_3r Z o0 o1 w_e mc_ k_e v_0 v_1 v_2 h0 n0 (some (.int (1 : Int32))) T9.heap _
 exact ⟨rfl, N9, K19, F13, F14, F15, F16⟩
def t_7 : List (Nat × Instr × Nat) := [(0, .iload_n 0, 1), (1, .bipush (-128), 2), (3, .if_icmp .lt 20, 3), (6, .iload_n 0, 1), (7, .getstatic 191, 3), (10, .if_icmp .gt 13, 3), (13, .getstatic 195, 3), (16, .iload_n 0, 1), (17, .sipush 128, 3), (20, .iadd, 1), (21, .aaload, 1), (22, .areturn, 1)]
theorem q_7 : ∀ i : Fin 12, decode c_7 (gt t_7 i.1).1 = .ok ((gt t_7 i.1).2.1, (gt t_7 i.1).2.2) := by decide +kernel
def Q7 (Z : State) (p0 : Int32) (w_c : Addr) (f_ : Nat → Addr) (wE : Addr) (wL : Addr) (wD : Addr) (wA : Addr) (kD : ClassId) (kA : ClassId) (h0 : Heap) (n0 : Nat) (v : Option Value) (h : Heap) (L : List Loc) : Prop := v = some (.ref (fI f_ p0)) ∧ Fr n0 L ∧ h = h0
set_option maxRecDepth 65536 in
set_option maxHeartbeats 40000000 in
theorem rm7 (p0 : Int32) (w_c : Addr) (f_ : Nat → Addr) (wE : Addr) (wL : Addr) (wD : Addr) (wA : Addr) (kD : ClassId) (kA : ClassId) (h0 : Heap) (n0 : Nat) (Z0 : n0 ≤ h0.size) (IC : Wd Z h0 n0 w_c f_ wE wL wD wA kD kA) (hlo : -128 ≤ p0.toInt) (hhi : p0.toInt ≤ 127) :
  Mt hw l M_31 (Jvm.Cond.code M_31 c_7 1 (some (.object s_4))) ws R_0_0_0_0 #[(.int p0)] h0 (Q7 Z p0 w_c f_ wE wL wD wA kD kA h0 n0) := by
 refine ent s_4 rfl hisR fun p e s m below meth c s₁ Bd hx hby hml hown hnm hlk hZ X0 e0 => ?_
 have D := fun i => hb hby (q_7 i)
 have u := hU hw
 have N0 := Fr.nil n0
 rw [ef_1]
 show gO (tF s₁ m 0 #[.val (.int p0)] [])
 refine giN X0 hx (D 0) rfl ?_
 refine go (XS.bipush X0.here hx rfl (D 1)) ?_
 refine go (XS.icmpNo X0.here hx rfl (D 2) rfl (flt (by rw [Int32.lt_iff_toInt_lt]; have : ((-128 : Int32)).toInt = -128 := (by decide); omega : ¬ (p0 < (-128 : Int32)))).1) ?_
 refine giN X0 hx (D 3) rfl ?_
 obtain ⟨T1, X1, e1, st1⟩ := getS2 X0 hx hZ hown (host := "") (Or.inl (hW hw 42 rfl)) Via.refl e0 (own_Wh IC) (g := (mkF m 7 #[.val (.int p0)] [(.int p0)])) rfl (D 4)
 refine gob st1 ?_
 refine go (XS.icmpNo X1.here hx rfl (D 5) rfl (flt (by rw [Int32.lt_iff_toInt_lt]; have : ((127 : Int32)).toInt = 127 := (by decide); omega : ¬ ((127 : Int32) < p0))).2.2.1) ?_
 obtain ⟨T2, X2, e2, st2⟩ := getS2 X1 hx hZ hown (host := "") (Or.inl (hW hw 44 rfl)) Via.refl e1 (own_Wc IC) (g := (mkF m 13 #[.val (.int p0)] [])) rfl (D 6)
 refine gob st2 ?_
 refine giN X2 hx (D 7) rfl ?_
 refine go (XS.sipush X2.here hx rfl (D 8)) ?_
 show gO (tF T2 m 20 #[.val (.int p0)] [(.int 128), (.int p0), (.ref w_c)])
 refine go (XS.iadd X2.here hx rfl (D 9) rfl) ?_
 obtain ⟨⟨cc3, Ac3, Sc3, Hc3⟩, -⟩ := own_Wi IC
 have ci3 := own_cin hlo hhi
 refine gob (X2.aaload hx (j := (p0 + (128 : Int32))) (v := (.ref (fI f_ p0))) (by rw [e2]; exact Ac3.1) (State.isArrayOf_alike hZ.alike Ac3.2.1) rfl Ac3.2.2 (fun q => q.elim ci3.1 (fun q => by rw [Sc3] at q; exact absurd ci3.2 (Nat.not_lt_of_le q))) (Hc3 _ ci3.2) (g := (mkF m 21 #[.val (.int p0)] [(.int (p0 + (128 : Int32))), (.ref w_c)])) rfl rfl (D 10)) ?_
 refine goA X2 hx hlk Bd.returns rfl rfl (D 11) ?_ (by decide) (by decide)
 show Q7 Z p0 w_c f_ wE wL wD wA kD kA h0 n0 (some (.ref (fI f_ p0))) T2.heap _
 exact ⟨rfl, N0, e2⟩
def t_17 : List (Nat × Instr × Nat) := [(0, .aload_n 0, 1), (1, .getfield 48, 3), (4, .ifCond .ne 7, 3), (7, .iconst 1, 1), (8, .goto 4, 3), (11, .iconst 0, 1), (12, .ireturn, 1)]
theorem q_17 : ∀ i : Fin 7, decode c_17 (gt t_17 i.1).1 = .ok ((gt t_17 i.1).2.1, (gt t_17 i.1).2.2) := by decide +kernel
def Q17_0 (Z : State) (o0 : Addr) (h0 : Heap) (n0 : Nat) (v : Option Value) (h : Heap) (L : List Loc) : Prop := v = some (.int (1 : Int32)) ∧ Fr n0 L ∧ h = h0
set_option maxRecDepth 65536 in
set_option maxHeartbeats 40000000 in
theorem rm17_0 (o0 : Addr) (h0 : Heap) (n0 : Nat) (Z0 : n0 ≤ h0.size) (F_size : Fld Z h0 o0 s_1 "size" "I" (.int 0)) :
  Mt hw l M_32 (Jvm.Cond.code M_32 c_17 1 (some .boolean)) ws R_0_0_0_0 #[(.ref o0)] h0 (Q17_0 Z o0 h0 n0) := by
 refine ent s_1 rfl hisR fun p e s m below meth c s₁ Bd hx hby hml hown hnm hlk hZ X0 e0 => ?_
 have D := fun i => hb hby (q_17 i)
 have u := hU hw
 have N0 := Fr.nil n0
 rw [ef_4]
 show gO (tF s₁ m 0 #[.val (.ref o0)] [])
 refine gaN X0 hx (D 0) rfl rfl ?_
 obtain ⟨T1, X1, e1, st1⟩ := getF X0 hx hZ hown (host := "") (Or.inl (hW hw 52 rfl)) Via.refl e0 F_size (g := (mkF m 1 #[.val (.ref o0)] [(.ref o0)])) rfl rfl (D 1)
 refine gob st1 ?_
 refine go (XS.ifNo X1.here hx rfl (D 2) rfl ((if0 _ _).trans (teq (by decide : (0 : Int32) = (0 : Int32))).2)) ?_
 refine giC X1 hx (D 3) ?_
 refine go (XS.goto X1.here hx rfl (pc0 := 8) (pc' := 12) rfl (D 4) (by decide) (by decide)) ?_
 refine goZ X1 hx hlk (t := .boolean) Bd.returns (by simp) (D 6) (z' := (1 : Int32)) rfl ?_ (by decide) (by decide)
 show Q17_0 Z o0 h0 n0 (some (.int (1 : Int32))) T1.heap _
 exact ⟨rfl, N0, e1⟩
def Q17_1 (Z : State) (o0 : Addr) (h0 : Heap) (n0 : Nat) (v : Option Value) (h : Heap) (L : List Loc) : Prop := v = some (.int (0 : Int32)) ∧ Fr n0 L ∧ h = h0
set_option maxRecDepth 65536 in
set_option maxHeartbeats 40000000 in
theorem rm17_1 (o0 : Addr) (h0 : Heap) (n0 : Nat) (Z0 : n0 ≤ h0.size) (F_size : Fld Z h0 o0 s_1 "size" "I" (.int 1)) :
  Mt hw l M_32 (Jvm.Cond.code M_32 c_17 1 (some .boolean)) ws R_0_0_0_0 #[(.ref o0)] h0 (Q17_1 Z o0 h0 n0) := by
 refine ent s_1 rfl hisR fun p e s m below meth c s₁ Bd hx hby hml hown hnm hlk hZ X0 e0 => ?_
 have D := fun i => hb hby (q_17 i)
 have u := hU hw
 have N0 := Fr.nil n0
 rw [ef_4]
 show gO (tF s₁ m 0 #[.val (.ref o0)] [])
 refine gaN X0 hx (D 0) rfl rfl ?_
 obtain ⟨T1, X1, e1, st1⟩ := getF X0 hx hZ hown (host := "") (Or.inl (hW hw 52 rfl)) Via.refl e0 F_size (g := (mkF m 1 #[.val (.ref o0)] [(.ref o0)])) rfl rfl (D 1)
 refine gob st1 ?_
 refine go (XS.ifYes X1.here hx rfl (pc0 := 4) (pc' := 11) rfl (D 2) rfl ((if0 _ _).trans (feq (by decide : ¬ ((1 : Int32) = (0 : Int32)))).2) (by decide) (by decide)) ?_
 refine giC X1 hx (D 5) ?_
 refine goZ X1 hx hlk (t := .boolean) Bd.returns (by simp) (D 6) (z' := (0 : Int32)) rfl ?_ (by decide) (by decide)
 show Q17_1 Z o0 h0 n0 (some (.int (0 : Int32))) T1.heap _
 exact ⟨rfl, N0, e1⟩
def Q17_2 (Z : State) (o0 : Addr) (h0 : Heap) (n0 : Nat) (v : Option Value) (h : Heap) (L : List Loc) : Prop := v = some (.int (0 : Int32)) ∧ Fr n0 L ∧ h = h0
set_option maxRecDepth 65536 in
set_option maxHeartbeats 40000000 in
theorem rm17_2 (o0 : Addr) (h0 : Heap) (n0 : Nat) (Z0 : n0 ≤ h0.size) (F_size : Fld Z h0 o0 s_1 "size" "I" (.int 2)) :
  Mt hw l M_32 (Jvm.Cond.code M_32 c_17 1 (some .boolean)) ws R_0_0_0_0 #[(.ref o0)] h0 (Q17_2 Z o0 h0 n0) := by
 refine ent s_1 rfl hisR fun p e s m below meth c s₁ Bd hx hby hml hown hnm hlk hZ X0 e0 => ?_
 have D := fun i => hb hby (q_17 i)
 have u := hU hw
 have N0 := Fr.nil n0
 rw [ef_4]
 show gO (tF s₁ m 0 #[.val (.ref o0)] [])
 refine gaN X0 hx (D 0) rfl rfl ?_
 obtain ⟨T1, X1, e1, st1⟩ := getF X0 hx hZ hown (host := "") (Or.inl (hW hw 52 rfl)) Via.refl e0 F_size (g := (mkF m 1 #[.val (.ref o0)] [(.ref o0)])) rfl rfl (D 1)
 refine gob st1 ?_
 refine go (XS.ifYes X1.here hx rfl (pc0 := 4) (pc' := 11) rfl (D 2) rfl ((if0 _ _).trans (feq (by decide : ¬ ((2 : Int32) = (0 : Int32)))).2) (by decide) (by decide)) ?_
 refine giC X1 hx (D 5) ?_
 refine goZ X1 hx hlk (t := .boolean) Bd.returns (by simp) (D 6) (z' := (0 : Int32)) rfl ?_ (by decide) (by decide)
 show Q17_2 Z o0 h0 n0 (some (.int (0 : Int32))) T1.heap _
 exact ⟨rfl, N0, e1⟩
def Q17_3 (Z : State) (o0 : Addr) (h0 : Heap) (n0 : Nat) (v : Option Value) (h : Heap) (L : List Loc) : Prop := v = some (.int (0 : Int32)) ∧ Fr n0 L ∧ h = h0
set_option maxRecDepth 65536 in
set_option maxHeartbeats 40000000 in
theorem rm17_3 (o0 : Addr) (h0 : Heap) (n0 : Nat) (Z0 : n0 ≤ h0.size) (F_size : Fld Z h0 o0 s_1 "size" "I" (.int 3)) :
  Mt hw l M_32 (Jvm.Cond.code M_32 c_17 1 (some .boolean)) ws R_0_0_0_0 #[(.ref o0)] h0 (Q17_3 Z o0 h0 n0) := by
 refine ent s_1 rfl hisR fun p e s m below meth c s₁ Bd hx hby hml hown hnm hlk hZ X0 e0 => ?_
 have D := fun i => hb hby (q_17 i)
 have u := hU hw
 have N0 := Fr.nil n0
 rw [ef_4]
 show gO (tF s₁ m 0 #[.val (.ref o0)] [])
 refine gaN X0 hx (D 0) rfl rfl ?_
 obtain ⟨T1, X1, e1, st1⟩ := getF X0 hx hZ hown (host := "") (Or.inl (hW hw 52 rfl)) Via.refl e0 F_size (g := (mkF m 1 #[.val (.ref o0)] [(.ref o0)])) rfl rfl (D 1)
 refine gob st1 ?_
 refine go (XS.ifYes X1.here hx rfl (pc0 := 4) (pc' := 11) rfl (D 2) rfl ((if0 _ _).trans (feq (by decide : ¬ ((3 : Int32) = (0 : Int32)))).2) (by decide) (by decide)) ?_
 refine giC X1 hx (D 5) ?_
 refine goZ X1 hx hlk (t := .boolean) Bd.returns (by simp) (D 6) (z' := (0 : Int32)) rfl ?_ (by decide) (by decide)
 show Q17_3 Z o0 h0 n0 (some (.int (0 : Int32))) T1.heap _
 exact ⟨rfl, N0, e1⟩
def Q17_4 (Z : State) (o0 : Addr) (h0 : Heap) (n0 : Nat) (v : Option Value) (h : Heap) (L : List Loc) : Prop := v = some (.int (0 : Int32)) ∧ Fr n0 L ∧ h = h0
set_option maxRecDepth 65536 in
set_option maxHeartbeats 40000000 in
theorem rm17_4 (o0 : Addr) (h0 : Heap) (n0 : Nat) (Z0 : n0 ≤ h0.size) (F_size : Fld Z h0 o0 s_1 "size" "I" (.int 4)) :
  Mt hw l M_32 (Jvm.Cond.code M_32 c_17 1 (some .boolean)) ws R_0_0_0_0 #[(.ref o0)] h0 (Q17_4 Z o0 h0 n0) := by
 refine ent s_1 rfl hisR fun p e s m below meth c s₁ Bd hx hby hml hown hnm hlk hZ X0 e0 => ?_
 have D := fun i => hb hby (q_17 i)
 have u := hU hw
 have N0 := Fr.nil n0
 rw [ef_4]
 show gO (tF s₁ m 0 #[.val (.ref o0)] [])
 refine gaN X0 hx (D 0) rfl rfl ?_
 obtain ⟨T1, X1, e1, st1⟩ := getF X0 hx hZ hown (host := "") (Or.inl (hW hw 52 rfl)) Via.refl e0 F_size (g := (mkF m 1 #[.val (.ref o0)] [(.ref o0)])) rfl rfl (D 1)
 refine gob st1 ?_
 refine go (XS.ifYes X1.here hx rfl (pc0 := 4) (pc' := 11) rfl (D 2) rfl ((if0 _ _).trans (feq (by decide : ¬ ((4 : Int32) = (0 : Int32)))).2) (by decide) (by decide)) ?_
 refine giC X1 hx (D 5) ?_
 refine goZ X1 hx hlk (t := .boolean) Bd.returns (by simp) (D 6) (z' := (0 : Int32)) rfl ?_ (by decide) (by decide)
 show Q17_4 Z o0 h0 n0 (some (.int (0 : Int32))) T1.heap _
 exact ⟨rfl, N0, e1⟩
def t_18 : List (Nat × Instr × Nat) := [(0, .getstatic 90, 3), (3, .areturn, 1)]
theorem q_18 : ∀ i : Fin 2, decode c_18 (gt t_18 i.1).1 = .ok ((gt t_18 i.1).2.1, (gt t_18 i.1).2.2) := by decide +kernel
def Q18 (Z : State) (w1 : Addr) (h0 : Heap) (n0 : Nat) (v : Option Value) (h : Heap) (L : List Loc) : Prop := v = some (.ref w1) ∧ Fr n0 L ∧ h = h0
set_option maxRecDepth 65536 in
set_option maxHeartbeats 40000000 in
theorem rm18 (w1 : Addr) (h0 : Heap) (n0 : Nat) (Z0 : n0 ≤ h0.size) (S_EMPTY_LIST : Sta Z h0 s_18 s_26 s_27 (.ref w1)) :
  Mt hw l M_33 (Jvm.Cond.code M_33 c_18 0 (some (.object s_2))) ws R_0_0_0_0 #[] h0 (Q18 Z w1 h0 n0) := by
 refine ent s_2 rfl hisR fun p e s m below meth c s₁ Bd hx hby hml hown hnm hlk hZ X0 e0 => ?_
 have D := fun i => hb hby (q_18 i)
 have u := hU hw
 have N0 := Fr.nil n0
 rw [ef_32]
 show gO (tF s₁ m 0 #[] [])
 obtain ⟨T2, X2, e2, st2⟩ := getS2 X0 hx hZ hown (host := "") (Or.inl (hW hw 111 rfl)) Via.refl e0 S_EMPTY_LIST (g := (mkF m 0 #[] [])) rfl (D 0)
 refine gob st2 ?_
 refine goA X2 hx hlk Bd.returns rfl rfl (D 1) ?_ (by decide) (by decide)
 show Q18 Z w1 h0 n0 (some (.ref w1)) T2.heap _
 exact ⟨rfl, N0, e2⟩
def t_16 : List (Nat × Instr × Nat) := [(0, .aload_n 0, 1), (1, .instanceof 10, 3), (4, .ifCond .ne 22, 3), (7, .aload_n 0, 1), (8, .instanceof 12, 3), (11, .ifCond .eq 20, 3), (31, .aload_n 0, 1), (32, .invokeinterface 20 1, 5), (37, .ifCond .eq 7, 3), (40, .invokestatic 26, 3), (43, .areturn, 1), (44, .aload_n 0, 1), (45, .invokeinterface 30 1, 5), (50, .invokestatic 34, 3), (53, .areturn, 1)]
theorem q_16 : ∀ i : Fin 15, decode c_16 (gt t_16 i.1).1 = .ok ((gt t_16 i.1).2.1, (gt t_16 i.1).2.2) := by decide +kernel
theorem pd_7 : parseMethodDescriptor "()Z" = some ⟨[], some .boolean⟩ := by decide +kernel
theorem pd_8 : parseMethodDescriptor "()Ljava/util/List;" = some ⟨[], some (.object "java/util/List")⟩ := by decide +kernel
theorem ef_16_0 (m : MethodId) (x0 : Addr) : entryFrame m #[(.ref x0)] 2 = mkF m 0 #[.val (.ref x0), .unset] [] := by first | (simp [entryFrame, mkF, argsToLocals, Value.category]; done) | rfl
def Q16_0 (Z : State) (o0 : Addr) (w5 : Addr) (h0 : Heap) (n0 : Nat) (v : Option Value) (h : Heap) (L : List Loc) : Prop := v = some (.ref w5) ∧ Fr n0 L ∧ h = h0
set_option maxRecDepth 65536 in
set_option maxHeartbeats 40000000 in
theorem rm16_0 (o0 : Addr) (w5 : Addr) (h0 : Heap) (n0 : Nat) (Z0 : n0 ≤ h0.size) (E_o0 : Exa Z h0 o0 s_1) (F_size : Fld Z h0 o0 s_1 "size" "I" (.int 0)) (S_EMPTY_LIST : Sta Z h0 s_18 s_26 s_27 (.ref w5)) :
  Mt hw l M_34 (Jvm.Cond.code M_34 c_16 2 (some (.object s_2))) ws R_1_0_0_12 #[(.ref o0)] h0 (Q16_0 Z o0 w5 h0 n0) := by
 refine ent s_18 rfl hisR fun p e s m below meth c s₁ Bd hx hby hml hown hnm hlk hZ X0 e0 => ?_
 have D := fun i => hb hby (q_16 i)
 have u := hU hw
 have N0 := Fr.nil n0
 rw [ef_16_0]
 show gO (tF s₁ m 0 #[.val (.ref o0), .unset] [])
 refine gaN X0 hx (D 0) rfl rfl ?_
 obtain ⟨T1, X1, e1, st1⟩ := instNo X0 hx hZ hown (u 93) e0 E_o0 (own_noinst (u 94) (u 95) (u 96) (u 97) (u 146) (by decide) (by decide) (by decide) (by decide)) (g := (mkF m 1 #[.val (.ref o0), .unset] [(.ref o0)])) rfl rfl (D 1)
 refine gob st1 ?_
 refine go (XS.ifNo X1.here hx rfl (D 2) rfl ((if0 _ _).trans (teq (by decide : (0 : Int32) = (0 : Int32))).2)) ?_
 refine gaN X1 hx (D 3) rfl rfl ?_
 obtain ⟨T2, X2, e2, st2⟩ := instNo X1 hx hZ hown (u 98) e1 E_o0 (own_noinst (u 94) (u 95) (u 96) (u 97) (u 503) (by decide) (by decide) (by decide) (by decide)) (g := (mkF m 8 #[.val (.ref o0), .unset] [(.ref o0)])) rfl rfl (D 4)
 refine gob st2 ?_
 refine go (XS.ifYes X2.here hx rfl (pc0 := 11) (pc' := 31) rfl (D 5) rfl ((if0 _ _).trans (teq (by decide : (0 : Int32) = (0 : Int32))).1) (by decide) (by decide)) ?_
 refine gaN X2 hx (D 6) rfl rfl ?_
 obtain ⟨cq3, kq3, q3a, q3b, q3c⟩ := isOf hZ e2 E_o0
 obtain ⟨_, T3, Lc3, X3, hQ3, st3⟩ := clB X2 (X2.interfaceBack hx (xi := M_35) (y := M_32) hown (mvT hZ (u 99)) (mvT hZ (u 100)) (mvT hZ (u 101)) (mvT hZ (u 102)) (mvT hZ (u 103)) (mvT hZ (u 104)) (mvT hZ (u 105)) (mvT hZ (u 106)) (by decide) (backOf (W := 0) (rm17_0 l Z a0 hw [] o0 h0 n0 Z0 F_size) hZ (u 107) (u 8) (by decide) (by decide)) q3a q3b q3c (g := (mkF m 32 #[.val (.ref o0), .unset] [(.ref o0)])) rfl (by rw [hml]; rfl) (Steps.refl _) (argsL := []) (rest := []) (lenOf pd_7 rfl) rfl (wk rfl rfl) (D 7) (fun _ _ => ⟨rfl, e2, lD rfl, lD rfl⟩)) (k := 0) (n := 0) rfl rfl
 obtain ⟨rfl, Nq3, e3⟩ := hQ3
 have N3 := Fr.app N0 Nq3
 refine gob (fun _ k => st3.trans k) ?_
 refine go (XS.ifNo X3.here hx rfl (D 8) rfl ((if0 _ _).trans (feq (by decide : ¬ ((1 : Int32) = (0 : Int32)))).1)) ?_
 show gO (tF T3 m 40 #[.val (.ref o0), .unset] [])
 obtain ⟨_, T4, Lc4, X4, hQ4, st4⟩ := clS X3 (Jvm.LawKit.callS X3 hx (y := M_33) hown (mvT hZ (u 108)) (mvT hZ (u 109)) (mvT hZ (u 87)) (mvT hZ (u 110)) (by decide) (backOf (W := 0) (rm18 l Z a0 hw [] w5 h0 n0 Z0 S_EMPTY_LIST) hZ (u 110) (u 87) (by decide) (by decide)) (g := (mkF m 40 #[.val (.ref o0), .unset] [])) rfl (by rw [hml]; rfl) (argsL := []) (rest := []) (lenOf pd_8 rfl) rfl (wk rfl rfl) (D 9) (fun _ _ => ⟨rfl, e3, lD rfl, lD rfl⟩)) (k := 0) (n := 0) rfl rfl
 obtain ⟨rfl, Nq4, e4⟩ := hQ4
 have N4 := Fr.app N3 Nq4
 refine gob st4 ?_
 refine goA X4 hx hlk Bd.returns rfl rfl (D 10) ?_ (by decide) (by decide)
 show Q16_0 Z o0 w5 h0 n0 (some (.ref w5)) T4.heap _
 exact ⟨rfl, N4, e4⟩
def t_15 : List (Nat × Instr × Nat) := [(0, .aload_n 0, 1), (1, .invokestatic 112, 3), (4, .areturn, 1)]
theorem q_15 : ∀ i : Fin 3, decode c_15 (gt t_15 i.1).1 = .ok ((gt t_15 i.1).2.1, (gt t_15 i.1).2.2) := by decide +kernel
theorem pd_9 : parseMethodDescriptor "(Ljava/util/Collection;)Ljava/util/List;" = some ⟨[(.object "java/util/Collection")], some (.object "java/util/List")⟩ := by decide +kernel
def Q15_0 (Z : State) (o0 : Addr) (w2 : Addr) (h0 : Heap) (n0 : Nat) (v : Option Value) (h : Heap) (L : List Loc) : Prop := v = some (.ref w2) ∧ Fr n0 L ∧ h = h0
set_option maxRecDepth 65536 in
set_option maxHeartbeats 40000000 in
theorem rm15_0 (o0 : Addr) (w2 : Addr) (h0 : Heap) (n0 : Nat) (Z0 : n0 ≤ h0.size) (E_o0 : Exa Z h0 o0 s_1) (F_size : Fld Z h0 o0 s_1 "size" "I" (.int 0)) (S_EMPTY_LIST : Sta Z h0 s_18 s_26 s_27 (.ref w2)) :
  Mt hw l M_36 (Jvm.Cond.code M_36 c_15 1 (some (.object s_2))) ws R_2_0_0_25 #[(.ref o0)] h0 (Q15_0 Z o0 w2 h0 n0) := by
 refine ent s_2 rfl hisR fun p e s m below meth c s₁ Bd hx hby hml hown hnm hlk hZ X0 e0 => ?_
 have D := fun i => hb hby (q_15 i)
 have u := hU hw
 have N0 := Fr.nil n0
 rw [ef_4]
 show gO (tF s₁ m 0 #[.val (.ref o0)] [])
 refine gaN X0 hx (D 0) rfl rfl ?_
 obtain ⟨_, T1, Lc1, X1, hQ1, st1⟩ := clS X0 (Jvm.LawKit.callS X0 hx (y := M_34) hown (mvT hZ (u 89)) (mvT hZ (u 90)) (mvT hZ (u 91)) (mvT hZ (u 92)) (by decide) (backOf (W := 0) (rm16_0 l Z a0 hw [] o0 w2 h0 n0 Z0 E_o0 F_size S_EMPTY_LIST) hZ (u 92) (u 91) (by decide) (by decide)) (g := (mkF m 1 #[.val (.ref o0)] [(.ref o0)])) rfl (by rw [hml]; rfl) (argsL := [(.ref o0)]) (rest := []) (lenOf pd_9 rfl) rfl (wk rfl rfl) (D 1) (fun _ _ => ⟨rfl, e0, lD rfl, lD rfl⟩)) (k := 0) (n := 0) rfl rfl
 obtain ⟨rfl, Nq1, e1⟩ := hQ1
 have N1 := Fr.app N0 Nq1
 refine gob st1 ?_
 refine goA X1 hx hlk Bd.returns rfl rfl (D 2) ?_ (by decide) (by decide)
 show Q15_0 Z o0 w2 h0 n0 (some (.ref w2)) T1.heap _
 exact ⟨rfl, N1, e1⟩
def t_22 : List (Nat × Instr × Nat) := [(0, .iload_n 0, 1), (1, .iload_n 1, 1), (2, .if_icmp .gt 7, 3), (9, .iload_n 1, 1), (10, .ireturn, 1)]
theorem q_22 : ∀ i : Fin 5, decode c_22 (gt t_22 i.1).1 = .ok ((gt t_22 i.1).2.1, (gt t_22 i.1).2.2) := by decide +kernel
def Q22_1g (Z : State)  (h0 : Heap) (n0 : Nat) (v : Option Value) (h : Heap) (L : List Loc) : Prop := v = some (.int (1 : Int32)) ∧ Fr n0 L ∧ h = h0
set_option maxRecDepth 65536 in
set_option maxHeartbeats 40000000 in
theorem rm22_1g  (h0 : Heap) (n0 : Nat) (Z0 : n0 ≤ h0.size) :
  Mt hw l M_37 (Jvm.Cond.code M_37 c_22 2 (some .int)) ws R_0_0_0_0 #[(.int 10), (.int 1)] h0 (Q22_1g Z  h0 n0) := by
 refine ent s_34 rfl (hx := (Jvm.Free.JP.mathPlain rfl (by decide +kernel))) hisR fun p e s m below meth c s₁ Bd hx hby hml hown hnm hlk hZ X0 e0 => ?_
 have D := fun i => hb hby (q_22 i)
 have u := hU hw
 have N0 := Fr.nil n0
 rw [ef_12_10_1]
 show gO (tF s₁ m 0 #[.val (.int 10), .val (.int 1)] [])
 refine giN X0 hx (D 0) rfl ?_
 refine giN X0 hx (D 1) rfl ?_
 refine go (XS.icmpYes X0.here hx rfl (pc0 := 2) (pc' := 9) rfl (D 2) rfl (tlt (by decide : (1 : Int32) < (10 : Int32))).2.2.1 (by decide) (by decide)) ?_
 refine giN X0 hx (D 3) rfl ?_
 refine goI X0 hx hlk Bd.returns (D 4) ?_ (by decide) (by decide)
 show Q22_1g Z  h0 n0 (some (.int (1 : Int32))) s₁.heap _
 exact ⟨rfl, N0, e0⟩
def t_21 : List (Nat × Instr × Nat) := [(0, .aload_n 2, 1), (1, .ldc 110, 2), (3, .if_acmp .ne 10, 3), (6, .iload_n 1, 1), (7, .anewarray 2, 3), (10, .goto 14, 3), (24, .astore_n 3, 1), (25, .aload_n 0, 1), (26, .iconst 0, 1), (27, .aload_n 3, 1), (28, .iconst 0, 1), (29, .aload_n 0, 1), (30, .arraylength, 1), (31, .iload_n 1, 1), (32, .invokestatic 304, 3), (35, .invokestatic 150, 3), (38, .aload_n 3, 1), (39, .areturn, 1)]
theorem q_21 : ∀ i : Fin 18, decode c_21 (gt t_21 i.1).1 = .ok ((gt t_21 i.1).2.1, (gt t_21 i.1).2.2) := by decide +kernel
theorem ef_21_1g (m : MethodId) (x0 : Addr) (x2 : Addr) : entryFrame m #[(.ref x0), (.int 1), (.ref x2)] 4 = mkF m 0 #[.val (.ref x0), .val (.int 1), .val (.ref x2), .unset] [] := by first | (simp [entryFrame, mkF, argsToLocals, Value.category]; done) | rfl
def Q21_1g (Z : State) (o0 : Addr) (mr_ : Addr) (k_e : ClassId) (v_0 : Addr) (K_ : String) (h0 : Heap) (n0 : Nat) (v : Option Value) (h : Heap) (L : List Loc) : Prop := ∃ b2 : Addr, ∃ k2 : ClassId, v = some (.ref b2) ∧ Fr n0 L ∧ Keep h0 h ([] : List Addr) ∧ h0.size ≤ b2 ∧ Exa Z h b2 s_3 ∧ Arv Z h b2 k2 (.object s_0) (1 : Int32) [(.ref v_0)] .null ∧ Ovr Z k2 s_0
set_option maxRecDepth 65536 in
set_option maxHeartbeats 40000000 in
theorem rm21_1g (o0 : Addr) (mr_ : Addr) (k_e : ClassId) (v_0 : Addr) (K_ : String) (h0 : Heap) (n0 : Nat) (Z0 : n0 ≤ h0.size) (V_e : Arv Z h0 o0 k_e (.object s_0) (10 : Int32) [(.ref v_0), .null, .null, .null, .null, .null, .null, .null, .null, .null] .null) (wK : (Cond.castable K_ s_0).before a0 Z = true) (E_e : Exa Z h0 o0 s_3) (E_v0 : Exa Z h0 v_0 K_) (MM : Mir Z mr_) :
  Mt hw l M_38 (Jvm.Cond.code M_38 c_21 4 (some (.array (.object s_0)))) ws R_1_1_1_18 #[(.ref o0), (.int 1), (.ref mr_)] h0 (Q21_1g Z o0 mr_ k_e v_0 K_ h0 n0) := by
 refine ent s_30 rfl hisR fun p e s m below meth c s₁ Bd hx hby hml hown hnm hlk hZ X0 e0 => ?_
 have D := fun i => hb hby (q_21 i)
 have u := hU hw
 have N0 := Fr.nil n0
 rw [ef_21_1g]
 show gO (tF s₁ m 0 #[.val (.ref o0), .val (.int 1), .val (.ref mr_), .unset] [])
 refine gaN X0 hx (D 0) rfl rfl ?_
 obtain ⟨cm, km, m1, m2, m3⟩ := own_mir hZ MM
 obtain ⟨vm1, X1, st1⟩ := X0.ldcMirror hx hown (mvT hZ (u 133)) (own_mirev m1 m2 m3) (g := (mkF m 1 #[.val (.ref o0), .val (.int 1), .val (.ref mr_), .unset] [(.ref mr_)])) rfl (D 1)
 have e1 : (s₁.setVm vm1).heap = h0 := e0
 refine gob st1 ?_
 refine gob (fun _ k => Jvm.RoadKit.acmp (g := (mkF m 3 #[.val (.ref o0), .val (.int 1), .val (.ref mr_), .unset] [(.ref mr_), (.ref mr_)])) X1 hx rfl rfl rfl (pc0 := 3) (pc' := 6) (same := true) rfl (D 2) rfl (decide_eq_true rfl) (by decide) (by decide) k) ?_
 show gO (tF (s₁.setVm vm1) m 6 #[.val (.ref o0), .val (.int 1), .val (.ref mr_), .unset] [])
 refine giN X1 hx (D 3) rfl ?_
 obtain ⟨T2, h2, k2, X2, e2, E2, A2, B2, O2, st2⟩ := newRE X1 hx hZ hown (u 134) (u 74) e1 (g := (mkF m 7 #[.val (.ref o0), .val (.int 1), .val (.ref mr_), .unset] [(.int 1)])) rfl (D 4) rfl (by decide) (cap := 1) (by decide) (by decide) (by decide) (by decide) (ad := s_3) (by first | rfl | decide +kernel)
 obtain ⟨b2, g2⟩ : ∃ z, z = h0.size := ⟨_, rfl⟩
 rw [← g2] at A2 B2 st2
 have g5 : n0 ≤ b2 := Nat.le_trans Z0 (Nat.le_of_eq g2.symm)
 have sz_b2 : h0.size ≤ b2 := Nat.le_trans (Keep.refl h0 []).1 (Nat.le_of_eq g2.symm)
 have z6 : n0 ≤ h2.size := Nat.le_trans Z0 E2.1
 have K7 : Keep h0 h2 ([] : List Addr) := (Keep.refl h0 ([] : List Addr)).ext E2
 have V2 : Arv Z h2 b2 k2 (.object s_0) (1 : Int32) [.null] .null := (Arv.new A2 (by decide)).pad (pad_rep [] .null 1)
 refine gob st2 ?_
 replace X2 := castX X2 (rfl : _ = 1) (rfl : _ = 1)
 show gO (tF T2 m 10 #[.val (.ref o0), .val (.int 1), .val (.ref mr_), .unset] [(.ref b2)])
 refine go (XS.goto X2.here hx rfl (pc0 := 10) (pc' := 24) rfl (D 5) (by decide) (by decide)) ?_
 refine go (XS.astoreN X2.here hx rfl (D 6) rfl rfl (l' := #[.val (.ref o0), .val (.int 1), .val (.ref mr_), .val (.ref b2)]) rfl) ?_
 refine gaN X2 hx (D 7) rfl rfl ?_
 refine giC X2 hx (D 8) ?_
 refine gaN X2 hx (D 9) rfl rfl ?_
 refine giC X2 hx (D 10) ?_
 refine gaN X2 hx (D 11) rfl rfl ?_
 have c9 := (V_e.ext E2)
 obtain ⟨cl8, Ar8, aq8, S8, N8, H8, G8⟩ := id c9
 refine gob (X2.arraylength hx (by rw [e2]; exact Ar8.1) (State.isArrayOf_alike hZ.alike Ar8.2.1) (g := (mkF m 30 #[.val (.ref o0), .val (.int 1), .val (.ref mr_), .val (.ref b2)] [(.ref o0), (.int 0), (.ref b2), (.int 0), (.ref o0)])) rfl rfl (D 12)) ?_
 rw [len_of S8 N8]
 show gO (tF T2 m 31 #[.val (.ref o0), .val (.int 1), .val (.ref mr_), .val (.ref b2)] [(.int 10), (.int 0), (.ref b2), (.int 0), (.ref o0)])
 refine giN X2 hx (D 13) rfl ?_
 obtain ⟨_, T10, Lc10, X10, hQ10, st10⟩ := clS X2 (Jvm.LawKit.callS X2 hx (y := M_37) hown (mvT hZ (u 135)) (mvT hZ (u 136)) (mvT hZ (u 71)) (mvT hZ (u 137)) (by decide) (backOf (W := 4) (rm22_1g l Z a0 hw []  h2 n0 z6 ) hZ (u 137) (u 71) (by decide) (by decide)) (g := (mkF m 32 #[.val (.ref o0), .val (.int 1), .val (.ref mr_), .val (.ref b2)] [(.int 1), (.int 10), (.int 0), (.ref b2), (.int 0), (.ref o0)])) rfl (by rw [hml]; rfl) (argsL := [(.int 10), (.int 1)]) (rest := [(.int 0), (.ref b2), (.int 0), (.ref o0)]) (lenOf pd_3 rfl) rfl (wk rfl rfl) (D 14) (fun _ _ => ⟨rfl, e2, lD rfl, lD rfl⟩)) (k := 1) (n := 1) rfl rfl
 obtain ⟨rfl, Nq10, e10⟩ := hQ10
 have N10 := Fr.app N0 Nq10
 refine gob st10 ?_
 obtain ⟨cl11, Ar11, aq11, S11, N11, H11, G11⟩ := id V2
 have c12 := (E_v0.ext E2)
 obtain ⟨T13, h13, L13, X13, e13, N13, K13, A13, st13⟩ := cpA X10 hx hZ hown (u 138) (u 141) (u 139) (u 140) e10 c9 V2 (Or.inr ⟨rfl, rfl, ⟨Sto.ofV Ar11 aq11 O2 (Ins.of_exa c12 wK), trivial⟩⟩) (sp := (0 : Int32)) (dp := (0 : Int32)) (nn := (1 : Int32)) (us := [(.ref v_0)]) (by decide) (by decide) (by decide) (by decide) (by decide) rfl (Nat.le_of_ble_eq_true rfl) N10 g5 (g := (mkF m 35 #[.val (.ref o0), .val (.int 1), .val (.ref mr_), .val (.ref b2)] [(.int 1), (.int 0), (.ref b2), (.int 0), (.ref o0)])) rfl (by rw [hml]; rfl) rfl (D 15) (by decide) (W := 0) (wk rfl rfl) (by decide)
 have K15 : Keep h0 h13 ([] : List Addr) := K7.trans K13 (allS (Or.inr sz_b2) all0)
 have V13 : Arv Z h13 b2 k2 (.object s_0) (1 : Int32) [(.ref v_0)] .null := A13
 refine gob st13 ?_
 refine gaN X13 hx (D 16) rfl rfl ?_
 refine goA X13 hx hlk Bd.returns rfl rfl (D 17) ?_ (by decide) (by decide)
 show Q21_1g Z o0 mr_ k_e v_0 K_ h0 n0 (some (.ref b2)) T13.heap _
 have c16 := (B2.keep K13)
 rw [e13]
 exact ⟨b2, k2, rfl, N13, K15, sz_b2, c16, V13, O2⟩
def t_20 : List (Nat × Instr × Nat) := [(0, .aload_n 0, 1), (1, .iload_n 1, 1), (2, .aload_n 0, 1), (3, .invokevirtual 86, 3), (6, .invokestatic 300, 3), (9, .areturn, 1)]
theorem q_20 : ∀ i : Fin 6, decode c_20 (gt t_20 i.1).1 = .ok ((gt t_20 i.1).2.1, (gt t_20 i.1).2.2) := by decide +kernel
theorem pd_10 : parseMethodDescriptor "([Ljava/lang/Object;ILjava/lang/Class;)[Ljava/lang/Object;" = some ⟨[(.array (.object "java/lang/Object")), .int, (.object "java/lang/Class")], some (.array (.object "java/lang/Object"))⟩ := by decide +kernel
theorem ef_20_1g (m : MethodId) (x0 : Addr) : entryFrame m #[(.ref x0), (.int 1)] 2 = mkF m 0 #[.val (.ref x0), .val (.int 1)] [] := by first | (simp [entryFrame, mkF, argsToLocals, Value.category]; done) | rfl
def Q20_1g (Z : State) (o0 : Addr) (k_e : ClassId) (v_0 : Addr) (K_ : String) (mr_ : Addr) (h0 : Heap) (n0 : Nat) (v : Option Value) (h : Heap) (L : List Loc) : Prop := ∃ b3 : Addr, ∃ k4 : ClassId, v = some (.ref b3) ∧ Fr n0 L ∧ Keep h0 h ([] : List Addr) ∧ h0.size ≤ b3 ∧ Exa Z h b3 s_3 ∧ Arv Z h b3 k4 (.object s_0) (1 : Int32) [(.ref v_0)] .null ∧ Ovr Z k4 s_0
set_option maxRecDepth 65536 in
set_option maxHeartbeats 40000000 in
theorem rm20_1g (o0 : Addr) (k_e : ClassId) (v_0 : Addr) (K_ : String) (mr_ : Addr) (h0 : Heap) (n0 : Nat) (Z0 : n0 ≤ h0.size) (V_e : Arv Z h0 o0 k_e (.object s_0) (10 : Int32) [(.ref v_0), .null, .null, .null, .null, .null, .null, .null, .null, .null] .null) (wK : (Cond.castable K_ s_0).before a0 Z = true) (E_e : Exa Z h0 o0 s_3) (E_v0 : Exa Z h0 v_0 K_) (MM : Mir Z mr_) :
  Mt hw l M_39 (Jvm.Cond.code M_39 c_20 2 (some (.array (.object s_0)))) ws R_2_1_1_33 #[(.ref o0), (.int 1)] h0 (Q20_1g Z o0 k_e v_0 K_ mr_ h0 n0) := by
 refine ent s_30 rfl hisR fun p e s m below meth c s₁ Bd hx hby hml hown hnm hlk hZ X0 e0 => ?_
 have D := fun i => hb hby (q_20 i)
 have u := hU hw
 have N0 := Fr.nil n0
 rw [ef_20_1g]
 show gO (tF s₁ m 0 #[.val (.ref o0), .val (.int 1)] [])
 refine gaN X0 hx (D 0) rfl rfl ?_
 refine giN X0 hx (D 1) rfl ?_
 refine gaN X0 hx (D 2) rfl rfl ?_
 obtain ⟨cm, km, m1, m2, m3⟩ := own_mir hZ MM
 obtain ⟨cq1, kq1, q1a, q1b, q1c⟩ := isOf hZ e0 E_e
 cases m1.symm.trans q1a
 obtain ⟨vm1, X1, st1⟩ := X0.getClassOf hx hown (mvT hZ (u 124)) (mvT hZ (u 125)) (notFace_of_selects (args := #[]) (mvT hZ (u 127))) (mvT hZ (u 127)) (mvT hZ (u 126)) (mvT hZ (u 128)) q1a q1c m2 m3 (g := (mkF m 3 #[.val (.ref o0), .val (.int 1)] [(.ref o0), (.int 1), (.ref o0)])) rfl (by rw [hml]; rfl) (rest := [(.int 1), (.ref o0)]) rfl (D 3) (Nat.le_of_ble_eq_true rfl) (Nat.le_of_ble_eq_true rfl)
 have e1 : (s₁.setVm vm1).heap = h0 := e0
 refine gob st1 ?_
 obtain ⟨_, T2, Lc2, X2, hQ2, st2⟩ := clS X1 (Jvm.LawKit.callS X1 hx (y := M_38) hown (mvT hZ (u 130)) (mvT hZ (u 131)) (mvT hZ (u 122)) (mvT hZ (u 132)) (by decide) (backOf (W := 0) (rm21_1g l Z a0 hw [] o0 mr_ k_e v_0 K_ h0 n0 Z0 V_e wK E_e E_v0 MM) hZ (u 132) (u 122) (by decide) (by decide)) (g := (mkF m 6 #[.val (.ref o0), .val (.int 1)] [(.ref mr_), (.int 1), (.ref o0)])) rfl (by rw [hml]; rfl) (argsL := [(.ref o0), (.int 1), (.ref mr_)]) (rest := []) (lenOf pd_10 rfl) rfl (wk rfl rfl) (D 4) (fun _ _ => ⟨rfl, e1, lD rfl, lD rfl⟩)) (k := 1) (n := 1) rfl rfl
 obtain ⟨b3, k4, rfl, Nq2, K2, hz5, F6, F7, hi8⟩ := hQ2
 have N2 := Fr.app N0 Nq2
 have sz_b3 : h0.size ≤ b3 := Nat.le_trans (Keep.refl h0 []).1 hz5
 have K13 : Keep h0 T2.heap ([] : List Addr) := (Keep.refl h0 ([] : List Addr)).trans K2 all0
 refine gob st2 ?_
 refine goA X2 hx hlk Bd.returns rfl rfl (D 5) ?_ (by decide) (by decide)
 show Q20_1g Z o0 k_e v_0 K_ mr_ h0 n0 (some (.ref b3)) T2.heap _
 exact ⟨b3, k4, rfl, N2, K13, sz_b3, F6, F7, hi8⟩
def t_19 : List (Nat × Instr × Nat) := [(0, .aload_n 0, 1), (1, .getfield 9, 3), (4, .aload_n 0, 1), (5, .getfield 48, 3), (8, .invokestatic 66, 3), (11, .areturn, 1)]
theorem q_19 : ∀ i : Fin 6, decode c_19 (gt t_19 i.1).1 = .ok ((gt t_19 i.1).2.1, (gt t_19 i.1).2.2) := by decide +kernel
theorem pd_11 : parseMethodDescriptor "([Ljava/lang/Object;I)[Ljava/lang/Object;" = some ⟨[(.array (.object "java/lang/Object")), .int], some (.array (.object "java/lang/Object"))⟩ := by decide +kernel
def Q19_1g (Z : State) (o0 : Addr) (w_e : Addr) (k_e : ClassId) (v_0 : Addr) (K_ : String) (mr_ : Addr) (h0 : Heap) (n0 : Nat) (v : Option Value) (h : Heap) (L : List Loc) : Prop := ∃ b4 : Addr, ∃ k5 : ClassId, v = some (.ref b4) ∧ Fr n0 L ∧ Keep h0 h ([] : List Addr) ∧ h0.size ≤ b4 ∧ Exa Z h b4 s_3 ∧ Arv Z h b4 k5 (.object s_0) (1 : Int32) [(.ref v_0)] .null ∧ Ovr Z k5 s_0
set_option maxRecDepth 65536 in
set_option maxHeartbeats 40000000 in
theorem rm19_1g (o0 : Addr) (w_e : Addr) (k_e : ClassId) (v_0 : Addr) (K_ : String) (mr_ : Addr) (h0 : Heap) (n0 : Nat) (Z0 : n0 ≤ h0.size) (E_o0 : Exa Z h0 o0 s_1) (F_size : Fld Z h0 o0 s_1 "size" "I" (.int 1)) (F_elementData : Fld Z h0 o0 s_1 s_8 s_3 (.ref w_e)) (V_e : Arv Z h0 w_e k_e (.object s_0) (10 : Int32) [(.ref v_0), .null, .null, .null, .null, .null, .null, .null, .null, .null] .null) (wK : (Cond.castable K_ s_0).before a0 Z = true) (E_e : Exa Z h0 w_e s_3) (E_v0 : Exa Z h0 v_0 K_) (MM : Mir Z mr_) :
  Mt hw l M_40 (Jvm.Cond.code M_40 c_19 1 (some (.array (.object s_0)))) ws R_3_1_1_46 #[(.ref o0)] h0 (Q19_1g Z o0 w_e k_e v_0 K_ mr_ h0 n0) := by
 refine ent s_1 rfl hisR fun p e s m below meth c s₁ Bd hx hby hml hown hnm hlk hZ X0 e0 => ?_
 have D := fun i => hb hby (q_19 i)
 have u := hU hw
 have N0 := Fr.nil n0
 rw [ef_4]
 show gO (tF s₁ m 0 #[.val (.ref o0)] [])
 refine gaN X0 hx (D 0) rfl rfl ?_
 obtain ⟨T1, X1, e1, st1⟩ := getF X0 hx hZ hown (host := "") (Or.inl (hW hw 30 rfl)) Via.refl e0 F_elementData (g := (mkF m 1 #[.val (.ref o0)] [(.ref o0)])) rfl rfl (D 1)
 refine gob st1 ?_
 refine gaN X1 hx (D 2) rfl rfl ?_
 obtain ⟨T2, X2, e2, st2⟩ := getF X1 hx hZ hown (host := "") (Or.inl (hW hw 52 rfl)) Via.refl e1 F_size (g := (mkF m 5 #[.val (.ref o0)] [(.ref o0), (.ref w_e)])) rfl rfl (D 3)
 refine gob st2 ?_
 obtain ⟨_, T3, Lc3, X3, hQ3, st3⟩ := clS X2 (Jvm.LawKit.callS X2 hx (y := M_39) hown (mvT hZ (u 120)) (mvT hZ (u 121)) (mvT hZ (u 122)) (mvT hZ (u 123)) (by decide) (backOf (W := 0) (rm20_1g l Z a0 hw [] w_e k_e v_0 K_ mr_ h0 n0 Z0 V_e wK E_e E_v0 MM) hZ (u 123) (u 122) (by decide) (by decide)) (g := (mkF m 8 #[.val (.ref o0)] [(.int 1), (.ref w_e)])) rfl (by rw [hml]; rfl) (argsL := [(.ref w_e), (.int 1)]) (rest := []) (lenOf pd_11 rfl) rfl (wk rfl rfl) (D 4) (fun _ _ => ⟨rfl, e2, lD rfl, lD rfl⟩)) (k := 1) (n := 1) rfl rfl
 obtain ⟨b4, k5, rfl, Nq3, K3, hz6, F7, F8, hi9⟩ := hQ3
 have N3 := Fr.app N0 Nq3
 have sz_b4 : h0.size ≤ b4 := Nat.le_trans (Keep.refl h0 []).1 hz6
 have K15 : Keep h0 T3.heap ([] : List Addr) := (Keep.refl h0 ([] : List Addr)).trans K3 all0
 refine gob st3 ?_
 refine goA X3 hx hlk Bd.returns rfl rfl (D 5) ?_ (by decide) (by decide)
 show Q19_1g Z o0 w_e k_e v_0 K_ mr_ h0 n0 (some (.ref b4)) T3.heap _
 exact ⟨b4, k5, rfl, N3, K15, sz_b4, F7, F8, hi9⟩
def t_23 : List (Nat × Instr × Nat) := [(0, .aload_n 0, 1), (1, .arraylength, 1), (2, .tableswitch 57 0 2 #[26, 32, 43], 26), (34, .new 96, 3), (37, .dup, 1), (38, .aload_n 0, 1), (39, .iconst 0, 1), (40, .aaload, 1), (41, .invokespecial 98, 3), (44, .areturn, 1), (45, .new 96, 3), (48, .dup, 1), (49, .aload_n 0, 1), (50, .iconst 0, 1), (51, .aaload, 1), (52, .aload_n 0, 1), (53, .iconst 1, 1), (54, .aaload, 1), (55, .invokespecial 100, 3), (58, .areturn, 1), (59, .aload_n 0, 1), (60, .invokestatic 109, 3), (63, .areturn, 1)]
theorem q_23 : ∀ i : Fin 23, decode c_23 (gt t_23 i.1).1 = .ok ((gt t_23 i.1).2.1, (gt t_23 i.1).2.2) := by decide +kernel
theorem pd_12 : parseMethodDescriptor "(Ljava/lang/Object;)V" = some ⟨[(.object "java/lang/Object")], none⟩ := by decide +kernel
def Q23_1g (Z : State) (o0 : Addr) (k_a : ClassId) (v_0 : Addr) (K_ : String) (w11 : Addr) (h0 : Heap) (n0 : Nat) (v : Option Value) (h : Heap) (L : List Loc) : Prop := ∃ b2 : Addr, v = some (.ref b2) ∧ Fr n0 L ∧ Keep h0 h ([] : List Addr) ∧ h0.size ≤ b2 ∧ Exa Z h b2 s_13 ∧ Fld Z h b2 s_13 "e0" s_17 (.ref v_0) ∧ Fld Z h b2 s_13 "e1" s_17 (.ref w11)
set_option maxRecDepth 65536 in
set_option maxHeartbeats 40000000 in
theorem rm23_1g (o0 : Addr) (k_a : ClassId) (v_0 : Addr) (K_ : String) (w11 : Addr) (h0 : Heap) (n0 : Nat) (Z0 : n0 ≤ h0.size) (V_a : Arv Z h0 o0 k_a (.object s_0) (1 : Int32) [(.ref v_0)] .null) (wK : (Cond.castable K_ s_0).before a0 Z = true) (E_v0 : Exa Z h0 v_0 K_) (S_EMPTY : Sta Z h0 s_18 "EMPTY" s_17 (.ref w11)) :
  Mt hw l M_41 (Jvm.Cond.code M_41 c_23 2 (some (.object s_2))) ws R_5_1_2_62 #[(.ref o0)] h0 (Q23_1g Z o0 k_a v_0 K_ w11 h0 n0) := by
 refine ent s_2 rfl hisR fun p e s m below meth c s₁ Bd hx hby hml hown hnm hlk hZ X0 e0 => ?_
 have D := fun i => hb hby (q_23 i)
 have u := hU hw
 have N0 := Fr.nil n0
 rw [ef_16_0]
 show gO (tF s₁ m 0 #[.val (.ref o0), .unset] [])
 refine gaN X0 hx (D 0) rfl rfl ?_
 obtain ⟨cl1, Ar1, aq1, S1, N1, H1, G1⟩ := id V_a
 refine gob (X0.arraylength hx (by rw [e0]; exact Ar1.1) (State.isArrayOf_alike hZ.alike Ar1.2.1) (g := (mkF m 1 #[.val (.ref o0), .unset] [(.ref o0)])) rfl rfl (D 1)) ?_
 rw [len_of S1 N1]
 show gO (tF s₁ m 2 #[.val (.ref o0), .unset] [(.int 1)])
 refine gob (fun _ k => (XS.tswIn X0.here hx rfl (pc0 := 2) (pc' := 34) (dflt := 57) (low := 0) (high := 2) (offs := #[26, 32, 43]) (len := 26) (i := 1) (rest := []) (g := (mkF m 2 #[.val (.ref o0), .unset] [(.int 1)])) rfl (D 2) rfl (by decide) (o := 32) (by decide) (by decide) (by decide) k)) ?_
 obtain ⟨T2, h2, X2, e2, E2, A2, D2, -, st2⟩ := newO X0 hx hZ hown (u 145) (u 146) (u 147) e0 (g := (mkF m 34 #[.val (.ref o0), .unset] [])) rfl (D 3) (by decide) (by decide)
 obtain ⟨b2, g2⟩ : ∃ z, z = h0.size := ⟨_, rfl⟩
 rw [← g2] at A2 D2 st2
 have g5 : n0 ≤ b2 := Nat.le_trans Z0 (Nat.le_of_eq g2.symm)
 have sz_b2 : h0.size ≤ b2 := Nat.le_trans (Keep.refl h0 []).1 (Nat.le_of_eq g2.symm)
 have z6 : n0 ≤ h2.size := Nat.le_trans Z0 E2.1
 have K7 : Keep h0 h2 ([] : List Addr) := (Keep.refl h0 ([] : List Addr)).ext E2
 have F2_e0 : Fld Z h2 b2 s_13 "e0" s_17 .null := D2 (Or.inr (hW hw 171 rfl)) (ty := (.object s_0)) (by decide)
 have F2_e1 : Fld Z h2 b2 s_13 "e1" s_17 .null := D2 (Or.inr (hW hw 174 rfl)) (ty := (.object s_0)) (by decide)
 refine gob st2 ?_
 replace X2 := castX X2 (rfl : _ = 1) (rfl : _ = 2)
 show gO (tF T2 m 37 #[.val (.ref o0), .unset] [(.ref b2)])
 refine go (XS.dup X2.here hx rfl (D 4) rfl rfl) ?_
 refine gaN X2 hx (D 5) rfl rfl ?_
 refine giC X2 hx (D 6) ?_
 have c9 := (V_a.ext E2)
 obtain ⟨cl8, Ar8, aq8, S8, N8, H8, G8⟩ := id c9
 have hin8 : ¬ ((0 : Int32) < 0 ∨ cl8.slots.size ≤ ((0 : Int32)).toNatClampNeg) := inb_of S8 ⟨by decide, by decide⟩
 refine gob (X2.aaload hx (j := (0 : Int32)) (v := (.ref v_0)) (by rw [e2]; exact Ar8.1) (State.isArrayOf_alike hZ.alike Ar8.2.1) rfl Ar8.2.2 hin8 (Has.at H8 hin8 rfl) (g := (mkF m 40 #[.val (.ref o0), .unset] [(.int 0), (.ref o0), (.ref b2), (.ref b2)])) rfl rfl (D 7)) ?_
 have c12 := (S_EMPTY.ext E2)
 obtain ⟨_, T10, Lc10, X10, hQ10, st10⟩ := clB X2 (X2.specialBack hx (y := M_15) rfl hown (mvT hZ (u 148)) (mvT hZ (u 149)) (mvT hZ (u 151)) (by decide) (backOf (W := 1) (rm24 l Z a0 hw [] b2 v_0 w11 h2 n0 z6 A2 F2_e0 g5 c12 F2_e1) hZ (u 151) (u 147) (by decide) (by decide)) (g := (mkF m 41 #[.val (.ref o0), .unset] [(.ref v_0), (.ref b2), (.ref b2)])) rfl (by rw [hml]; rfl) (Steps.refl _) (a := b2) (argsL := [(.ref v_0)]) (rest := [(.ref b2)]) (lenOf pd_12 rfl) rfl (wk rfl rfl) (D 8) (fun _ _ => ⟨rfl, e2, lD rfl, lD rfl⟩)) (k := 1) (n := 2) rfl rfl
 obtain ⟨rfl, Nq10, K10, F13, F14⟩ := hQ10
 have N10 := Fr.app N0 Nq10
 have K17 : Keep h0 T10.heap ([] : List Addr) := K7.trans K10 (allS (Or.inr sz_b2) all0)
 refine gob (fun _ k => st10.trans k) ?_
 refine goA X10 hx hlk Bd.returns rfl rfl (D 9) ?_ (by decide) (by decide)
 show Q23_1g Z o0 k_a v_0 K_ w11 h0 n0 (some (.ref b2)) T10.heap _
 have c18 := (A2.keep K10)
 exact ⟨b2, rfl, N10, K17, sz_b2, c18, F13, F14⟩
theorem pd_13 : parseMethodDescriptor "([Ljava/lang/Object;)Ljava/util/List;" = some ⟨[(.array (.object "java/lang/Object"))], some (.object "java/util/List")⟩ := by decide +kernel
def Q16_1g (Z : State) (o0 : Addr) (w_e : Addr) (k_e : ClassId) (v_0 : Addr) (K_ : String) (mr_ : Addr) (w19 : Addr) (h0 : Heap) (n0 : Nat) (v : Option Value) (h : Heap) (L : List Loc) : Prop := ∃ b5 : Addr, ∃ b22 : Addr, ∃ k6 : ClassId, v = some (.ref b22) ∧ Fr n0 L ∧ Keep h0 h ([] : List Addr) ∧ h0.size ≤ b5 ∧ h0.size ≤ b22 ∧ b5 ≠ b22 ∧ Exa Z h b5 s_3 ∧ Arv Z h b5 k6 (.object s_0) (1 : Int32) [(.ref v_0)] .null ∧ Exa Z h b22 s_13 ∧ Fld Z h b22 s_13 "e0" s_17 (.ref v_0) ∧ Fld Z h b22 s_13 "e1" s_17 (.ref w19) ∧ Ovr Z k6 s_0
set_option maxRecDepth 65536 in
set_option maxHeartbeats 40000000 in
theorem rm16_1g (o0 : Addr) (w_e : Addr) (k_e : ClassId) (v_0 : Addr) (K_ : String) (mr_ : Addr) (w19 : Addr) (h0 : Heap) (n0 : Nat) (Z0 : n0 ≤ h0.size) (E_o0 : Exa Z h0 o0 s_1) (F_size : Fld Z h0 o0 s_1 "size" "I" (.int 1)) (F_elementData : Fld Z h0 o0 s_1 s_8 s_3 (.ref w_e)) (V_e : Arv Z h0 w_e k_e (.object s_0) (10 : Int32) [(.ref v_0), .null, .null, .null, .null, .null, .null, .null, .null, .null] .null) (wK : (Cond.castable K_ s_0).before a0 Z = true) (E_e : Exa Z h0 w_e s_3) (E_v0 : Exa Z h0 v_0 K_) (MM : Mir Z mr_) (S_EMPTY : Sta Z h0 s_18 "EMPTY" s_17 (.ref w19)) :
  Mt hw l M_34 (Jvm.Cond.code M_34 c_16 2 (some (.object s_2))) ws R_6_2_3_75 #[(.ref o0)] h0 (Q16_1g Z o0 w_e k_e v_0 K_ mr_ w19 h0 n0) := by
 refine ent s_18 rfl hisR fun p e s m below meth c s₁ Bd hx hby hml hown hnm hlk hZ X0 e0 => ?_
 have D := fun i => hb hby (q_16 i)
 have u := hU hw
 have N0 := Fr.nil n0
 rw [ef_16_0]
 show gO (tF s₁ m 0 #[.val (.ref o0), .unset] [])
 refine gaN X0 hx (D 0) rfl rfl ?_
 obtain ⟨T1, X1, e1, st1⟩ := instNo X0 hx hZ hown (u 93) e0 E_o0 (own_noinst (u 94) (u 95) (u 96) (u 97) (u 146) (by decide) (by decide) (by decide) (by decide)) (g := (mkF m 1 #[.val (.ref o0), .unset] [(.ref o0)])) rfl rfl (D 1)
 refine gob st1 ?_
 refine go (XS.ifNo X1.here hx rfl (D 2) rfl ((if0 _ _).trans (teq (by decide : (0 : Int32) = (0 : Int32))).2)) ?_
 refine gaN X1 hx (D 3) rfl rfl ?_
 obtain ⟨T2, X2, e2, st2⟩ := instNo X1 hx hZ hown (u 98) e1 E_o0 (own_noinst (u 94) (u 95) (u 96) (u 97) (u 503) (by decide) (by decide) (by decide) (by decide)) (g := (mkF m 8 #[.val (.ref o0), .unset] [(.ref o0)])) rfl rfl (D 4)
 refine gob st2 ?_
 refine go (XS.ifYes X2.here hx rfl (pc0 := 11) (pc' := 31) rfl (D 5) rfl ((if0 _ _).trans (teq (by decide : (0 : Int32) = (0 : Int32))).1) (by decide) (by decide)) ?_
 refine gaN X2 hx (D 6) rfl rfl ?_
 obtain ⟨cq3, kq3, q3a, q3b, q3c⟩ := isOf hZ e2 E_o0
 obtain ⟨_, T3, Lc3, X3, hQ3, st3⟩ := clB X2 (X2.interfaceBack hx (xi := M_35) (y := M_32) hown (mvT hZ (u 99)) (mvT hZ (u 100)) (mvT hZ (u 101)) (mvT hZ (u 102)) (mvT hZ (u 103)) (mvT hZ (u 104)) (mvT hZ (u 105)) (mvT hZ (u 106)) (by decide) (backOf (W := 0) (rm17_1 l Z a0 hw [] o0 h0 n0 Z0 F_size) hZ (u 107) (u 8) (by decide) (by decide)) q3a q3b q3c (g := (mkF m 32 #[.val (.ref o0), .unset] [(.ref o0)])) rfl (by rw [hml]; rfl) (Steps.refl _) (argsL := []) (rest := []) (lenOf pd_7 rfl) rfl (wk rfl rfl) (D 7) (fun _ _ => ⟨rfl, e2, lD rfl, lD rfl⟩)) (k := 0) (n := 0) rfl rfl
 obtain ⟨rfl, Nq3, e3⟩ := hQ3
 have N3 := Fr.app N0 Nq3
 refine gob (fun _ k => st3.trans k) ?_
 refine go (XS.ifYes X3.here hx rfl (pc0 := 37) (pc' := 44) rfl (D 8) rfl ((if0 _ _).trans (teq (by decide : (0 : Int32) = (0 : Int32))).1) (by decide) (by decide)) ?_
 show gO (tF T3 m 44 #[.val (.ref o0), .unset] [])
 refine gaN X3 hx (D 11) rfl rfl ?_
 obtain ⟨cq4, kq4, q4a, q4b, q4c⟩ := isOf hZ e3 E_o0
 obtain ⟨_, T4, Lc4, X4, hQ4, st4⟩ := clB X3 (X3.interfaceBack hx (xi := M_42) (y := M_40) hown (mvT hZ (u 112)) (mvT hZ (u 113)) (mvT hZ (u 114)) (mvT hZ (u 115)) (mvT hZ (u 116)) (mvT hZ (u 117)) (mvT hZ (u 118)) (mvT hZ (u 106)) (by decide) (backOf (W := 0) (rm19_1g l Z a0 hw [] o0 w_e k_e v_0 K_ mr_ h0 n0 Z0 E_o0 F_size F_elementData V_e wK E_e E_v0 MM) hZ (u 119) (u 8) (by decide) (by decide)) q4a q4b q4c (g := (mkF m 45 #[.val (.ref o0), .unset] [(.ref o0)])) rfl (by rw [hml]; rfl) (Steps.refl _) (argsL := []) (rest := []) (lenOf pd_5 rfl) rfl (wk rfl rfl) (D 12) (fun _ _ => ⟨rfl, e3, lD rfl, lD rfl⟩)) (k := 1) (n := 1) rfl rfl
 obtain ⟨b5, k6, rfl, Nq4, K4, hz7, F8, F9, hi10⟩ := hQ4
 have N4 := Fr.app N3 Nq4
 have sz_b5 : h0.size ≤ b5 := Nat.le_trans (Keep.refl h0 []).1 hz7
 have ns15 := (ns0 (h := h0))
 have z16 : n0 ≤ T4.heap.size := Nat.le_trans Z0 K4.1
 have K17 : Keep h0 T4.heap ([] : List Addr) := (Keep.refl h0 ([] : List Addr)).trans K4 all0
 refine gob (fun _ k => st4.trans k) ?_
 have c20 := (E_v0.keep K4)
 have c21 := (own_staKeep S_EMPTY K4 ns15)
 obtain ⟨_, T18, Lc18, X18, hQ18, st18⟩ := clS X4 (Jvm.LawKit.callS X4 hx (y := M_41) hown (mvT hZ (u 142)) (mvT hZ (u 143)) (mvT hZ (u 87)) (mvT hZ (u 144)) (by decide) (backOf (W := 0) (rm23_1g l Z a0 hw [] b5 k6 v_0 K_ w19 T4.heap n0 z16 F9 wK c20 c21) hZ (u 144) (u 87) (by decide) (by decide)) (g := (mkF m 50 #[.val (.ref o0), .unset] [(.ref b5)])) rfl (by rw [hml]; rfl) (argsL := [(.ref b5)]) (rest := []) (lenOf pd_13 rfl) rfl (wk rfl rfl) (D 13) (fun _ _ => ⟨rfl, (rfl : T4.heap = _), lD rfl, lD rfl⟩)) (k := 2) (n := 3) rfl rfl
 obtain ⟨b22, rfl, Nq18, K18, hz23, F24, F25, F26⟩ := hQ18
 have N18 := Fr.app N4 Nq18
 have n32 : b5 ≠ b22 := nlt F8.lt hz23
 have sz_b22 : h0.size ≤ b22 := Nat.le_trans K17.1 hz23
 have K36 : Keep h0 T18.heap ([] : List Addr) := K17.trans K18 all0
 refine gob st18 ?_
 refine goA X18 hx hlk Bd.returns rfl rfl (D 14) ?_ (by decide) (by decide)
 show Q16_1g Z o0 w_e k_e v_0 K_ mr_ w19 h0 n0 (some (.ref b22)) T18.heap _
 have c37 := (F8.keep K18)
 have c38 := (F9.keep K18 nin0)
 exact ⟨b5, b22, k6, rfl, N18, K36, sz_b5, sz_b22, n32, c37, c38, F24, F25, F26, hi10⟩
theorem ef_22_2r (m : MethodId)  : entryFrame m #[(.int 10), (.int 2)] 2 = mkF m 0 #[.val (.int 10), .val (.int 2)] [] := by first | (simp [entryFrame, mkF, argsToLocals, Value.category]; done) | rfl
def Q22_2r (Z : State)  (h0 : Heap) (n0 : Nat) (v : Option Value) (h : Heap) (L : List Loc) : Prop := v = some (.int (2 : Int32)) ∧ Fr n0 L ∧ h = h0
set_option maxRecDepth 65536 in
set_option maxHeartbeats 40000000 in
theorem rm22_2r  (h0 : Heap) (n0 : Nat) (Z0 : n0 ≤ h0.size) :
  Mt hw l M_37 (Jvm.Cond.code M_37 c_22 2 (some .int)) ws R_0_0_0_0 #[(.int 10), (.int 2)] h0 (Q22_2r Z  h0 n0) := by
 refine ent s_34 rfl (hx := (Jvm.Free.JP.mathPlain rfl (by decide +kernel))) hisR fun p e s m below meth c s₁ Bd hx hby hml hown hnm hlk hZ X0 e0 => ?_
 have D := fun i => hb hby (q_22 i)
 have u := hU hw
 have N0 := Fr.nil n0
 rw [ef_22_2r]
 show gO (tF s₁ m 0 #[.val (.int 10), .val (.int 2)] [])
 refine giN X0 hx (D 0) rfl ?_
 refine giN X0 hx (D 1) rfl ?_
 refine go (XS.icmpYes X0.here hx rfl (pc0 := 2) (pc' := 9) rfl (D 2) rfl (tlt (by decide : (2 : Int32) < (10 : Int32))).2.2.1 (by decide) (by decide)) ?_
 refine giN X0 hx (D 3) rfl ?_
 refine goI X0 hx hlk Bd.returns (D 4) ?_ (by decide) (by decide)
 show Q22_2r Z  h0 n0 (some (.int (2 : Int32))) s₁.heap _
 exact ⟨rfl, N0, e0⟩
theorem ef_21_2r (m : MethodId) (x0 : Addr) (x2 : Addr) : entryFrame m #[(.ref x0), (.int 2), (.ref x2)] 4 = mkF m 0 #[.val (.ref x0), .val (.int 2), .val (.ref x2), .unset] [] := by first | (simp [entryFrame, mkF, argsToLocals, Value.category]; done) | rfl
def Q21_2r (Z : State) (o0 : Addr) (mr_ : Addr) (k_e : ClassId) (v_0 : Addr) (v_1 : Addr) (h0 : Heap) (n0 : Nat) (v : Option Value) (h : Heap) (L : List Loc) : Prop := ∃ b2 : Addr, ∃ k2 : ClassId, v = some (.ref b2) ∧ Fr n0 L ∧ Keep h0 h ([] : List Addr) ∧ h0.size ≤ b2 ∧ Exa Z h b2 s_3 ∧ Arv Z h b2 k2 (.object s_0) (2 : Int32) [(.ref v_0), (.ref v_1)] .null ∧ Ovr Z k2 s_0
set_option maxRecDepth 65536 in
set_option maxHeartbeats 40000000 in
theorem rm21_2r (o0 : Addr) (mr_ : Addr) (k_e : ClassId) (v_0 : Addr) (v_1 : Addr) (h0 : Heap) (n0 : Nat) (Z0 : n0 ≤ h0.size) (V_e : Arv Z h0 o0 k_e (.object s_0) (10 : Int32) [(.ref v_0), (.ref v_1), .null, .null, .null, .null, .null, .null, .null, .null] .null) (E_e : Exa Z h0 o0 s_3) (E_v0 : Exa Z h0 v_0 s_4) (E_v1 : Exa Z h0 v_1 s_4) (MM : Mir Z mr_) :
  Mt hw l M_38 (Jvm.Cond.code M_38 c_21 4 (some (.array (.object s_0)))) ws R_1_1_2_18 #[(.ref o0), (.int 2), (.ref mr_)] h0 (Q21_2r Z o0 mr_ k_e v_0 v_1 h0 n0) := by
 refine ent s_30 rfl hisR fun p e s m below meth c s₁ Bd hx hby hml hown hnm hlk hZ X0 e0 => ?_
 have D := fun i => hb hby (q_21 i)
 have u := hU hw
 have N0 := Fr.nil n0
 rw [ef_21_2r]
 show gO (tF s₁ m 0 #[.val (.ref o0), .val (.int 2), .val (.ref mr_), .unset] [])
 refine gaN X0 hx (D 0) rfl rfl ?_
 obtain ⟨cm, km, m1, m2, m3⟩ := own_mir hZ MM
 obtain ⟨vm1, X1, st1⟩ := X0.ldcMirror hx hown (mvT hZ (u 133)) (own_mirev m1 m2 m3) (g := (mkF m 1 #[.val (.ref o0), .val (.int 2), .val (.ref mr_), .unset] [(.ref mr_)])) rfl (D 1)
 have e1 : (s₁.setVm vm1).heap = h0 := e0
 refine gob st1 ?_
 refine gob (fun _ k => Jvm.RoadKit.acmp (g := (mkF m 3 #[.val (.ref o0), .val (.int 2), .val (.ref mr_), .unset] [(.ref mr_), (.ref mr_)])) X1 hx rfl rfl rfl (pc0 := 3) (pc' := 6) (same := true) rfl (D 2) rfl (decide_eq_true rfl) (by decide) (by decide) k) ?_
 show gO (tF (s₁.setVm vm1) m 6 #[.val (.ref o0), .val (.int 2), .val (.ref mr_), .unset] [])
 refine giN X1 hx (D 3) rfl ?_
 obtain ⟨T2, h2, k2, X2, e2, E2, A2, B2, O2, st2⟩ := newRE X1 hx hZ hown (u 134) (u 74) e1 (g := (mkF m 7 #[.val (.ref o0), .val (.int 2), .val (.ref mr_), .unset] [(.int 2)])) rfl (D 4) rfl (by decide) (cap := 2) (by decide) (by decide) (by decide) (by decide) (ad := s_3) (by first | rfl | decide +kernel)
 obtain ⟨b2, g2⟩ : ∃ z, z = h0.size := ⟨_, rfl⟩
 rw [← g2] at A2 B2 st2
 have g6 : n0 ≤ b2 := Nat.le_trans Z0 (Nat.le_of_eq g2.symm)
 have sz_b2 : h0.size ≤ b2 := Nat.le_trans (Keep.refl h0 []).1 (Nat.le_of_eq g2.symm)
 have z7 : n0 ≤ h2.size := Nat.le_trans Z0 E2.1
 have K8 : Keep h0 h2 ([] : List Addr) := (Keep.refl h0 ([] : List Addr)).ext E2
 have V2 : Arv Z h2 b2 k2 (.object s_0) (2 : Int32) [.null, .null] .null := (Arv.new A2 (by decide)).pad (pad_rep [] .null 2)
 refine gob st2 ?_
 replace X2 := castX X2 (rfl : _ = 1) (rfl : _ = 2)
 show gO (tF T2 m 10 #[.val (.ref o0), .val (.int 2), .val (.ref mr_), .unset] [(.ref b2)])
 refine go (XS.goto X2.here hx rfl (pc0 := 10) (pc' := 24) rfl (D 5) (by decide) (by decide)) ?_
 refine go (XS.astoreN X2.here hx rfl (D 6) rfl rfl (l' := #[.val (.ref o0), .val (.int 2), .val (.ref mr_), .val (.ref b2)]) rfl) ?_
 refine gaN X2 hx (D 7) rfl rfl ?_
 refine giC X2 hx (D 8) ?_
 refine gaN X2 hx (D 9) rfl rfl ?_
 refine giC X2 hx (D 10) ?_
 refine gaN X2 hx (D 11) rfl rfl ?_
 have c10 := (V_e.ext E2)
 obtain ⟨cl9, Ar9, aq9, S9, N9, H9, G9⟩ := id c10
 refine gob (X2.arraylength hx (by rw [e2]; exact Ar9.1) (State.isArrayOf_alike hZ.alike Ar9.2.1) (g := (mkF m 30 #[.val (.ref o0), .val (.int 2), .val (.ref mr_), .val (.ref b2)] [(.ref o0), (.int 0), (.ref b2), (.int 0), (.ref o0)])) rfl rfl (D 12)) ?_
 rw [len_of S9 N9]
 show gO (tF T2 m 31 #[.val (.ref o0), .val (.int 2), .val (.ref mr_), .val (.ref b2)] [(.int 10), (.int 0), (.ref b2), (.int 0), (.ref o0)])
 refine giN X2 hx (D 13) rfl ?_
 obtain ⟨_, T11, Lc11, X11, hQ11, st11⟩ := clS X2 (Jvm.LawKit.callS X2 hx (y := M_37) hown (mvT hZ (u 135)) (mvT hZ (u 136)) (mvT hZ (u 71)) (mvT hZ (u 137)) (by decide) (backOf (W := 4) (rm22_2r l Z a0 hw []  h2 n0 z7 ) hZ (u 137) (u 71) (by decide) (by decide)) (g := (mkF m 32 #[.val (.ref o0), .val (.int 2), .val (.ref mr_), .val (.ref b2)] [(.int 2), (.int 10), (.int 0), (.ref b2), (.int 0), (.ref o0)])) rfl (by rw [hml]; rfl) (argsL := [(.int 10), (.int 2)]) (rest := [(.int 0), (.ref b2), (.int 0), (.ref o0)]) (lenOf pd_3 rfl) rfl (wk rfl rfl) (D 14) (fun _ _ => ⟨rfl, e2, lD rfl, lD rfl⟩)) (k := 1) (n := 2) rfl rfl
 obtain ⟨rfl, Nq11, e11⟩ := hQ11
 have N11 := Fr.app N0 Nq11
 refine gob st11 ?_
 obtain ⟨cl12, Ar12, aq12, S12, N12, H12, G12⟩ := id V2
 have c13 := (E_v1.ext E2)
 have c14 := (E_v0.ext E2)
 obtain ⟨T15, h15, L15, X15, e15, N15, K15, A15, st15⟩ := cpA X11 hx hZ hown (u 138) (u 141) (u 139) (u 140) e11 c10 V2 (Or.inr ⟨rfl, rfl, ⟨Sto.ofV Ar12 aq12 O2 (Ins.of_exa c14 (u 75)), ⟨Sto.ofV Ar12 aq12 O2 (Ins.of_exa c13 (u 75)), trivial⟩⟩⟩) (sp := (0 : Int32)) (dp := (0 : Int32)) (nn := (2 : Int32)) (us := [(.ref v_0), (.ref v_1)]) (by decide) (by decide) (by decide) (by decide) (by decide) rfl (Nat.le_of_ble_eq_true rfl) N11 g6 (g := (mkF m 35 #[.val (.ref o0), .val (.int 2), .val (.ref mr_), .val (.ref b2)] [(.int 2), (.int 0), (.ref b2), (.int 0), (.ref o0)])) rfl (by rw [hml]; rfl) rfl (D 15) (by decide) (W := 0) (wk rfl rfl) (by decide)
 have K17 : Keep h0 h15 ([] : List Addr) := K8.trans K15 (allS (Or.inr sz_b2) all0)
 have V15 : Arv Z h15 b2 k2 (.object s_0) (2 : Int32) [(.ref v_0), (.ref v_1)] .null := A15
 refine gob st15 ?_
 refine gaN X15 hx (D 16) rfl rfl ?_
 refine goA X15 hx hlk Bd.returns rfl rfl (D 17) ?_ (by decide) (by decide)
 show Q21_2r Z o0 mr_ k_e v_0 v_1 h0 n0 (some (.ref b2)) T15.heap _
 have c18 := (B2.keep K15)
 rw [e15]
 exact ⟨b2, k2, rfl, N15, K17, sz_b2, c18, V15, O2⟩
theorem ef_20_2r (m : MethodId) (x0 : Addr) : entryFrame m #[(.ref x0), (.int 2)] 2 = mkF m 0 #[.val (.ref x0), .val (.int 2)] [] := by first | (simp [entryFrame, mkF, argsToLocals, Value.category]; done) | rfl
def Q20_2r (Z : State) (o0 : Addr) (k_e : ClassId) (v_0 : Addr) (v_1 : Addr) (mr_ : Addr) (h0 : Heap) (n0 : Nat) (v : Option Value) (h : Heap) (L : List Loc) : Prop := ∃ b3 : Addr, ∃ k4 : ClassId, v = some (.ref b3) ∧ Fr n0 L ∧ Keep h0 h ([] : List Addr) ∧ h0.size ≤ b3 ∧ Exa Z h b3 s_3 ∧ Arv Z h b3 k4 (.object s_0) (2 : Int32) [(.ref v_0), (.ref v_1)] .null ∧ Ovr Z k4 s_0
set_option maxRecDepth 65536 in
set_option maxHeartbeats 40000000 in
theorem rm20_2r (o0 : Addr) (k_e : ClassId) (v_0 : Addr) (v_1 : Addr) (mr_ : Addr) (h0 : Heap) (n0 : Nat) (Z0 : n0 ≤ h0.size) (V_e : Arv Z h0 o0 k_e (.object s_0) (10 : Int32) [(.ref v_0), (.ref v_1), .null, .null, .null, .null, .null, .null, .null, .null] .null) (E_e : Exa Z h0 o0 s_3) (E_v0 : Exa Z h0 v_0 s_4) (E_v1 : Exa Z h0 v_1 s_4) (MM : Mir Z mr_) :
  Mt hw l M_39 (Jvm.Cond.code M_39 c_20 2 (some (.array (.object s_0)))) ws R_2_1_2_33 #[(.ref o0), (.int 2)] h0 (Q20_2r Z o0 k_e v_0 v_1 mr_ h0 n0) := by
 refine ent s_30 rfl hisR fun p e s m below meth c s₁ Bd hx hby hml hown hnm hlk hZ X0 e0 => ?_
 have D := fun i => hb hby (q_20 i)
 have u := hU hw
 have N0 := Fr.nil n0
 rw [ef_20_2r]
 show gO (tF s₁ m 0 #[.val (.ref o0), .val (.int 2)] [])
 refine gaN X0 hx (D 0) rfl rfl ?_
 refine giN X0 hx (D 1) rfl ?_
 refine gaN X0 hx (D 2) rfl rfl ?_
 obtain ⟨cm, km, m1, m2, m3⟩ := own_mir hZ MM
 obtain ⟨cq1, kq1, q1a, q1b, q1c⟩ := isOf hZ e0 E_e
 cases m1.symm.trans q1a
 obtain ⟨vm1, X1, st1⟩ := X0.getClassOf hx hown (mvT hZ (u 124)) (mvT hZ (u 125)) (notFace_of_selects (args := #[]) (mvT hZ (u 127))) (mvT hZ (u 127)) (mvT hZ (u 126)) (mvT hZ (u 128)) q1a q1c m2 m3 (g := (mkF m 3 #[.val (.ref o0), .val (.int 2)] [(.ref o0), (.int 2), (.ref o0)])) rfl (by rw [hml]; rfl) (rest := [(.int 2), (.ref o0)]) rfl (D 3) (Nat.le_of_ble_eq_true rfl) (Nat.le_of_ble_eq_true rfl)
 have e1 : (s₁.setVm vm1).heap = h0 := e0
 refine gob st1 ?_
 obtain ⟨_, T2, Lc2, X2, hQ2, st2⟩ := clS X1 (Jvm.LawKit.callS X1 hx (y := M_38) hown (mvT hZ (u 130)) (mvT hZ (u 131)) (mvT hZ (u 122)) (mvT hZ (u 132)) (by decide) (backOf (W := 0) (rm21_2r l Z a0 hw [] o0 mr_ k_e v_0 v_1 h0 n0 Z0 V_e E_e E_v0 E_v1 MM) hZ (u 132) (u 122) (by decide) (by decide)) (g := (mkF m 6 #[.val (.ref o0), .val (.int 2)] [(.ref mr_), (.int 2), (.ref o0)])) rfl (by rw [hml]; rfl) (argsL := [(.ref o0), (.int 2), (.ref mr_)]) (rest := []) (lenOf pd_10 rfl) rfl (wk rfl rfl) (D 4) (fun _ _ => ⟨rfl, e1, lD rfl, lD rfl⟩)) (k := 1) (n := 2) rfl rfl
 obtain ⟨b3, k4, rfl, Nq2, K2, hz5, F6, F7, hi8⟩ := hQ2
 have N2 := Fr.app N0 Nq2
 have sz_b3 : h0.size ≤ b3 := Nat.le_trans (Keep.refl h0 []).1 hz5
 have K14 : Keep h0 T2.heap ([] : List Addr) := (Keep.refl h0 ([] : List Addr)).trans K2 all0
 refine gob st2 ?_
 refine goA X2 hx hlk Bd.returns rfl rfl (D 5) ?_ (by decide) (by decide)
 show Q20_2r Z o0 k_e v_0 v_1 mr_ h0 n0 (some (.ref b3)) T2.heap _
 exact ⟨b3, k4, rfl, N2, K14, sz_b3, F6, F7, hi8⟩
def Q19_2r (Z : State) (o0 : Addr) (w_e : Addr) (k_e : ClassId) (v_0 : Addr) (v_1 : Addr) (mr_ : Addr) (h0 : Heap) (n0 : Nat) (v : Option Value) (h : Heap) (L : List Loc) : Prop := ∃ b4 : Addr, ∃ k5 : ClassId, v = some (.ref b4) ∧ Fr n0 L ∧ Keep h0 h ([] : List Addr) ∧ h0.size ≤ b4 ∧ Exa Z h b4 s_3 ∧ Arv Z h b4 k5 (.object s_0) (2 : Int32) [(.ref v_0), (.ref v_1)] .null ∧ Ovr Z k5 s_0
set_option maxRecDepth 65536 in
set_option maxHeartbeats 40000000 in
theorem rm19_2r (o0 : Addr) (w_e : Addr) (k_e : ClassId) (v_0 : Addr) (v_1 : Addr) (mr_ : Addr) (h0 : Heap) (n0 : Nat) (Z0 : n0 ≤ h0.size) (E_o0 : Exa Z h0 o0 s_1) (F_size : Fld Z h0 o0 s_1 "size" "I" (.int 2)) (F_elementData : Fld Z h0 o0 s_1 s_8 s_3 (.ref w_e)) (V_e : Arv Z h0 w_e k_e (.object s_0) (10 : Int32) [(.ref v_0), (.ref v_1), .null, .null, .null, .null, .null, .null, .null, .null] .null) (E_e : Exa Z h0 w_e s_3) (E_v0 : Exa Z h0 v_0 s_4) (E_v1 : Exa Z h0 v_1 s_4) (MM : Mir Z mr_) :
  Mt hw l M_40 (Jvm.Cond.code M_40 c_19 1 (some (.array (.object s_0)))) ws R_3_1_2_46 #[(.ref o0)] h0 (Q19_2r Z o0 w_e k_e v_0 v_1 mr_ h0 n0) := by
 refine ent s_1 rfl hisR fun p e s m below meth c s₁ Bd hx hby hml hown hnm hlk hZ X0 e0 => ?_
 have D := fun i => hb hby (q_19 i)
 have u := hU hw
 have N0 := Fr.nil n0
 rw [ef_4]
 show gO (tF s₁ m 0 #[.val (.ref o0)] [])
 refine gaN X0 hx (D 0) rfl rfl ?_
 obtain ⟨T1, X1, e1, st1⟩ := getF X0 hx hZ hown (host := "") (Or.inl (hW hw 30 rfl)) Via.refl e0 F_elementData (g := (mkF m 1 #[.val (.ref o0)] [(.ref o0)])) rfl rfl (D 1)
 refine gob st1 ?_
 refine gaN X1 hx (D 2) rfl rfl ?_
 obtain ⟨T2, X2, e2, st2⟩ := getF X1 hx hZ hown (host := "") (Or.inl (hW hw 52 rfl)) Via.refl e1 F_size (g := (mkF m 5 #[.val (.ref o0)] [(.ref o0), (.ref w_e)])) rfl rfl (D 3)
 refine gob st2 ?_
 obtain ⟨_, T3, Lc3, X3, hQ3, st3⟩ := clS X2 (Jvm.LawKit.callS X2 hx (y := M_39) hown (mvT hZ (u 120)) (mvT hZ (u 121)) (mvT hZ (u 122)) (mvT hZ (u 123)) (by decide) (backOf (W := 0) (rm20_2r l Z a0 hw [] w_e k_e v_0 v_1 mr_ h0 n0 Z0 V_e E_e E_v0 E_v1 MM) hZ (u 123) (u 122) (by decide) (by decide)) (g := (mkF m 8 #[.val (.ref o0)] [(.int 2), (.ref w_e)])) rfl (by rw [hml]; rfl) (argsL := [(.ref w_e), (.int 2)]) (rest := []) (lenOf pd_11 rfl) rfl (wk rfl rfl) (D 4) (fun _ _ => ⟨rfl, e2, lD rfl, lD rfl⟩)) (k := 1) (n := 2) rfl rfl
 obtain ⟨b4, k5, rfl, Nq3, K3, hz6, F7, F8, hi9⟩ := hQ3
 have N3 := Fr.app N0 Nq3
 have sz_b4 : h0.size ≤ b4 := Nat.le_trans (Keep.refl h0 []).1 hz6
 have K16 : Keep h0 T3.heap ([] : List Addr) := (Keep.refl h0 ([] : List Addr)).trans K3 all0
 refine gob st3 ?_
 refine goA X3 hx hlk Bd.returns rfl rfl (D 5) ?_ (by decide) (by decide)
 show Q19_2r Z o0 w_e k_e v_0 v_1 mr_ h0 n0 (some (.ref b4)) T3.heap _
 exact ⟨b4, k5, rfl, N3, K16, sz_b4, F7, F8, hi9⟩
theorem pd_14 : parseMethodDescriptor "(Ljava/lang/Object;Ljava/lang/Object;)V" = some ⟨[(.object "java/lang/Object"), (.object "java/lang/Object")], none⟩ := by decide +kernel
def Q23_2r (Z : State) (o0 : Addr) (k_a : ClassId) (v_0 : Addr) (v_1 : Addr) (h0 : Heap) (n0 : Nat) (v : Option Value) (h : Heap) (L : List Loc) : Prop := ∃ b2 : Addr, v = some (.ref b2) ∧ Fr n0 L ∧ Keep h0 h ([] : List Addr) ∧ h0.size ≤ b2 ∧ Exa Z h b2 s_13 ∧ Fld Z h b2 s_13 "e0" s_17 (.ref v_0) ∧ Fld Z h b2 s_13 "e1" s_17 (.ref v_1)
set_option maxRecDepth 65536 in
set_option maxHeartbeats 40000000 in
theorem rm23_2r (o0 : Addr) (k_a : ClassId) (v_0 : Addr) (v_1 : Addr) (h0 : Heap) (n0 : Nat) (Z0 : n0 ≤ h0.size) (V_a : Arv Z h0 o0 k_a (.object s_0) (2 : Int32) [(.ref v_0), (.ref v_1)] .null) (E_v0 : Exa Z h0 v_0 s_4) (E_v1 : Exa Z h0 v_1 s_4) :
  Mt hw l M_41 (Jvm.Cond.code M_41 c_23 2 (some (.object s_2))) ws R_5_1_2_63 #[(.ref o0)] h0 (Q23_2r Z o0 k_a v_0 v_1 h0 n0) := by
 refine ent s_2 rfl hisR fun p e s m below meth c s₁ Bd hx hby hml hown hnm hlk hZ X0 e0 => ?_
 have D := fun i => hb hby (q_23 i)
 have u := hU hw
 have N0 := Fr.nil n0
 rw [ef_16_0]
 show gO (tF s₁ m 0 #[.val (.ref o0), .unset] [])
 refine gaN X0 hx (D 0) rfl rfl ?_
 obtain ⟨cl1, Ar1, aq1, S1, N1, H1, G1⟩ := id V_a
 refine gob (X0.arraylength hx (by rw [e0]; exact Ar1.1) (State.isArrayOf_alike hZ.alike Ar1.2.1) (g := (mkF m 1 #[.val (.ref o0), .unset] [(.ref o0)])) rfl rfl (D 1)) ?_
 rw [len_of S1 N1]
 show gO (tF s₁ m 2 #[.val (.ref o0), .unset] [(.int 2)])
 refine gob (fun _ k => (XS.tswIn X0.here hx rfl (pc0 := 2) (pc' := 45) (dflt := 57) (low := 0) (high := 2) (offs := #[26, 32, 43]) (len := 26) (i := 2) (rest := []) (g := (mkF m 2 #[.val (.ref o0), .unset] [(.int 2)])) rfl (D 2) rfl (by decide) (o := 43) (by decide) (by decide) (by decide) k)) ?_
 obtain ⟨T2, h2, X2, e2, E2, A2, D2, -, st2⟩ := newO X0 hx hZ hown (u 145) (u 146) (u 147) e0 (g := (mkF m 45 #[.val (.ref o0), .unset] [])) rfl (D 10) (by decide) (by decide)
 obtain ⟨b2, g2⟩ : ∃ z, z = h0.size := ⟨_, rfl⟩
 rw [← g2] at A2 D2 st2
 have g6 : n0 ≤ b2 := Nat.le_trans Z0 (Nat.le_of_eq g2.symm)
 have sz_b2 : h0.size ≤ b2 := Nat.le_trans (Keep.refl h0 []).1 (Nat.le_of_eq g2.symm)
 have z7 : n0 ≤ h2.size := Nat.le_trans Z0 E2.1
 have K8 : Keep h0 h2 ([] : List Addr) := (Keep.refl h0 ([] : List Addr)).ext E2
 have F2_e0 : Fld Z h2 b2 s_13 "e0" s_17 .null := D2 (Or.inr (hW hw 171 rfl)) (ty := (.object s_0)) (by decide)
 have F2_e1 : Fld Z h2 b2 s_13 "e1" s_17 .null := D2 (Or.inr (hW hw 174 rfl)) (ty := (.object s_0)) (by decide)
 refine gob st2 ?_
 replace X2 := castX X2 (rfl : _ = 1) (rfl : _ = 2)
 show gO (tF T2 m 48 #[.val (.ref o0), .unset] [(.ref b2)])
 refine go (XS.dup X2.here hx rfl (D 11) rfl rfl) ?_
 refine gaN X2 hx (D 12) rfl rfl ?_
 refine giC X2 hx (D 13) ?_
 have c10 := (V_a.ext E2)
 obtain ⟨cl9, Ar9, aq9, S9, N9, H9, G9⟩ := id c10
 have hin9 : ¬ ((0 : Int32) < 0 ∨ cl9.slots.size ≤ ((0 : Int32)).toNatClampNeg) := inb_of S9 ⟨by decide, by decide⟩
 refine gob (X2.aaload hx (j := (0 : Int32)) (v := (.ref v_0)) (by rw [e2]; exact Ar9.1) (State.isArrayOf_alike hZ.alike Ar9.2.1) rfl Ar9.2.2 hin9 (Has.at H9 hin9 rfl) (g := (mkF m 51 #[.val (.ref o0), .unset] [(.int 0), (.ref o0), (.ref b2), (.ref b2)])) rfl rfl (D 14)) ?_
 refine gaN X2 hx (D 15) rfl rfl ?_
 refine giC X2 hx (D 16) ?_
 obtain ⟨cl11, Ar11, aq11, S11, N11, H11, G11⟩ := id c10
 have hin11 : ¬ ((1 : Int32) < 0 ∨ cl11.slots.size ≤ ((1 : Int32)).toNatClampNeg) := inb_of S11 ⟨by decide, by decide⟩
 refine gob (X2.aaload hx (j := (1 : Int32)) (v := (.ref v_1)) (by rw [e2]; exact Ar11.1) (State.isArrayOf_alike hZ.alike Ar11.2.1) rfl Ar11.2.2 hin11 (Has.at H11 hin11 rfl) (g := (mkF m 54 #[.val (.ref o0), .unset] [(.int 1), (.ref o0), (.ref v_0), (.ref b2), (.ref b2)])) rfl rfl (D 17)) ?_
 obtain ⟨_, T12, Lc12, X12, hQ12, st12⟩ := clB X2 (X2.specialBack hx (y := M_16) rfl hown (mvT hZ (u 495)) (mvT hZ (u 496)) (mvT hZ (u 497)) (by decide) (backOf (W := 1) (rm62 l Z a0 hw [] b2 v_0 v_1 h2 n0 z7 A2 F2_e0 g6 F2_e1) hZ (u 497) (u 147) (by decide) (by decide)) (g := (mkF m 55 #[.val (.ref o0), .unset] [(.ref v_1), (.ref v_0), (.ref b2), (.ref b2)])) rfl (by rw [hml]; rfl) (Steps.refl _) (a := b2) (argsL := [(.ref v_0), (.ref v_1)]) (rest := [(.ref b2)]) (lenOf pd_14 rfl) rfl (wk rfl rfl) (D 18) (fun _ _ => ⟨rfl, e2, lD rfl, lD rfl⟩)) (k := 1) (n := 2) rfl rfl
 obtain ⟨rfl, Nq12, K12, F13, F14⟩ := hQ12
 have N12 := Fr.app N0 Nq12
 have K17 : Keep h0 T12.heap ([] : List Addr) := K8.trans K12 (allS (Or.inr sz_b2) all0)
 refine gob (fun _ k => st12.trans k) ?_
 refine goA X12 hx hlk Bd.returns rfl rfl (D 19) ?_ (by decide) (by decide)
 show Q23_2r Z o0 k_a v_0 v_1 h0 n0 (some (.ref b2)) T12.heap _
 have c18 := (A2.keep K12)
 exact ⟨b2, rfl, N12, K17, sz_b2, c18, F13, F14⟩
def Q16_2r (Z : State) (o0 : Addr) (w_e : Addr) (k_e : ClassId) (v_0 : Addr) (v_1 : Addr) (mr_ : Addr) (h0 : Heap) (n0 : Nat) (v : Option Value) (h : Heap) (L : List Loc) : Prop := ∃ b5 : Addr, ∃ b22 : Addr, ∃ k6 : ClassId, v = some (.ref b22) ∧ Fr n0 L ∧ Keep h0 h ([] : List Addr) ∧ h0.size ≤ b5 ∧ h0.size ≤ b22 ∧ b5 ≠ b22 ∧ Exa Z h b5 s_3 ∧ Arv Z h b5 k6 (.object s_0) (2 : Int32) [(.ref v_0), (.ref v_1)] .null ∧ Exa Z h b22 s_13 ∧ Fld Z h b22 s_13 "e0" s_17 (.ref v_0) ∧ Fld Z h b22 s_13 "e1" s_17 (.ref v_1) ∧ Ovr Z k6 s_0
set_option maxRecDepth 65536 in
set_option maxHeartbeats 40000000 in
theorem rm16_2r (o0 : Addr) (w_e : Addr) (k_e : ClassId) (v_0 : Addr) (v_1 : Addr) (mr_ : Addr) (h0 : Heap) (n0 : Nat) (Z0 : n0 ≤ h0.size) (E_o0 : Exa Z h0 o0 s_1) (F_size : Fld Z h0 o0 s_1 "size" "I" (.int 2)) (F_elementData : Fld Z h0 o0 s_1 s_8 s_3 (.ref w_e)) (V_e : Arv Z h0 w_e k_e (.object s_0) (10 : Int32) [(.ref v_0), (.ref v_1), .null, .null, .null, .null, .null, .null, .null, .null] .null) (E_e : Exa Z h0 w_e s_3) (E_v0 : Exa Z h0 v_0 s_4) (E_v1 : Exa Z h0 v_1 s_4) (MM : Mir Z mr_) :
  Mt hw l M_34 (Jvm.Cond.code M_34 c_16 2 (some (.object s_2))) ws R_6_2_4_76 #[(.ref o0)] h0 (Q16_2r Z o0 w_e k_e v_0 v_1 mr_ h0 n0) := by
 refine ent s_18 rfl hisR fun p e s m below meth c s₁ Bd hx hby hml hown hnm hlk hZ X0 e0 => ?_
 have D := fun i => hb hby (q_16 i)
 have u := hU hw
 have N0 := Fr.nil n0
 rw [ef_16_0]
 show gO (tF s₁ m 0 #[.val (.ref o0), .unset] [])
 refine gaN X0 hx (D 0) rfl rfl ?_
 obtain ⟨T1, X1, e1, st1⟩ := instNo X0 hx hZ hown (u 93) e0 E_o0 (own_noinst (u 94) (u 95) (u 96) (u 97) (u 146) (by decide) (by decide) (by decide) (by decide)) (g := (mkF m 1 #[.val (.ref o0), .unset] [(.ref o0)])) rfl rfl (D 1)
 refine gob st1 ?_
 refine go (XS.ifNo X1.here hx rfl (D 2) rfl ((if0 _ _).trans (teq (by decide : (0 : Int32) = (0 : Int32))).2)) ?_
 refine gaN X1 hx (D 3) rfl rfl ?_
 obtain ⟨T2, X2, e2, st2⟩ := instNo X1 hx hZ hown (u 98) e1 E_o0 (own_noinst (u 94) (u 95) (u 96) (u 97) (u 503) (by decide) (by decide) (by decide) (by decide)) (g := (mkF m 8 #[.val (.ref o0), .unset] [(.ref o0)])) rfl rfl (D 4)
 refine gob st2 ?_
 refine go (XS.ifYes X2.here hx rfl (pc0 := 11) (pc' := 31) rfl (D 5) rfl ((if0 _ _).trans (teq (by decide : (0 : Int32) = (0 : Int32))).1) (by decide) (by decide)) ?_
 refine gaN X2 hx (D 6) rfl rfl ?_
 obtain ⟨cq3, kq3, q3a, q3b, q3c⟩ := isOf hZ e2 E_o0
 obtain ⟨_, T3, Lc3, X3, hQ3, st3⟩ := clB X2 (X2.interfaceBack hx (xi := M_35) (y := M_32) hown (mvT hZ (u 99)) (mvT hZ (u 100)) (mvT hZ (u 101)) (mvT hZ (u 102)) (mvT hZ (u 103)) (mvT hZ (u 104)) (mvT hZ (u 105)) (mvT hZ (u 106)) (by decide) (backOf (W := 0) (rm17_2 l Z a0 hw [] o0 h0 n0 Z0 F_size) hZ (u 107) (u 8) (by decide) (by decide)) q3a q3b q3c (g := (mkF m 32 #[.val (.ref o0), .unset] [(.ref o0)])) rfl (by rw [hml]; rfl) (Steps.refl _) (argsL := []) (rest := []) (lenOf pd_7 rfl) rfl (wk rfl rfl) (D 7) (fun _ _ => ⟨rfl, e2, lD rfl, lD rfl⟩)) (k := 0) (n := 0) rfl rfl
 obtain ⟨rfl, Nq3, e3⟩ := hQ3
 have N3 := Fr.app N0 Nq3
 refine gob (fun _ k => st3.trans k) ?_
 refine go (XS.ifYes X3.here hx rfl (pc0 := 37) (pc' := 44) rfl (D 8) rfl ((if0 _ _).trans (teq (by decide : (0 : Int32) = (0 : Int32))).1) (by decide) (by decide)) ?_
 show gO (tF T3 m 44 #[.val (.ref o0), .unset] [])
 refine gaN X3 hx (D 11) rfl rfl ?_
 obtain ⟨cq4, kq4, q4a, q4b, q4c⟩ := isOf hZ e3 E_o0
 obtain ⟨_, T4, Lc4, X4, hQ4, st4⟩ := clB X3 (X3.interfaceBack hx (xi := M_42) (y := M_40) hown (mvT hZ (u 112)) (mvT hZ (u 113)) (mvT hZ (u 114)) (mvT hZ (u 115)) (mvT hZ (u 116)) (mvT hZ (u 117)) (mvT hZ (u 118)) (mvT hZ (u 106)) (by decide) (backOf (W := 0) (rm19_2r l Z a0 hw [] o0 w_e k_e v_0 v_1 mr_ h0 n0 Z0 E_o0 F_size F_elementData V_e E_e E_v0 E_v1 MM) hZ (u 119) (u 8) (by decide) (by decide)) q4a q4b q4c (g := (mkF m 45 #[.val (.ref o0), .unset] [(.ref o0)])) rfl (by rw [hml]; rfl) (Steps.refl _) (argsL := []) (rest := []) (lenOf pd_5 rfl) rfl (wk rfl rfl) (D 12) (fun _ _ => ⟨rfl, e3, lD rfl, lD rfl⟩)) (k := 1) (n := 2) rfl rfl
 obtain ⟨b5, k6, rfl, Nq4, K4, hz7, F8, F9, hi10⟩ := hQ4
 have N4 := Fr.app N3 Nq4
 have sz_b5 : h0.size ≤ b5 := Nat.le_trans (Keep.refl h0 []).1 hz7
 have z17 : n0 ≤ T4.heap.size := Nat.le_trans Z0 K4.1
 have K18 : Keep h0 T4.heap ([] : List Addr) := (Keep.refl h0 ([] : List Addr)).trans K4 all0
 refine gob (fun _ k => st4.trans k) ?_
 have c20 := (E_v0.keep K4)
 have c21 := (E_v1.keep K4)
 obtain ⟨_, T19, Lc19, X19, hQ19, st19⟩ := clS X4 (Jvm.LawKit.callS X4 hx (y := M_41) hown (mvT hZ (u 142)) (mvT hZ (u 143)) (mvT hZ (u 87)) (mvT hZ (u 144)) (by decide) (backOf (W := 0) (rm23_2r l Z a0 hw [] b5 k6 v_0 v_1 T4.heap n0 z17 F9 c20 c21) hZ (u 144) (u 87) (by decide) (by decide)) (g := (mkF m 50 #[.val (.ref o0), .unset] [(.ref b5)])) rfl (by rw [hml]; rfl) (argsL := [(.ref b5)]) (rest := []) (lenOf pd_13 rfl) rfl (wk rfl rfl) (D 13) (fun _ _ => ⟨rfl, (rfl : T4.heap = _), lD rfl, lD rfl⟩)) (k := 2) (n := 4) rfl rfl
 obtain ⟨b22, rfl, Nq19, K19, hz23, F24, F25, F26⟩ := hQ19
 have N19 := Fr.app N4 Nq19
 have n33 : b5 ≠ b22 := nlt F8.lt hz23
 have sz_b22 : h0.size ≤ b22 := Nat.le_trans K18.1 hz23
 have K37 : Keep h0 T19.heap ([] : List Addr) := K18.trans K19 all0
 refine gob st19 ?_
 refine goA X19 hx hlk Bd.returns rfl rfl (D 14) ?_ (by decide) (by decide)
 show Q16_2r Z o0 w_e k_e v_0 v_1 mr_ h0 n0 (some (.ref b22)) T19.heap _
 have c38 := (F8.keep K19)
 have c39 := (F9.keep K19 nin0)
 exact ⟨b5, b22, k6, rfl, N19, K37, sz_b5, sz_b22, n33, c38, c39, F24, F25, F26, hi10⟩
theorem ef_22_3r (m : MethodId)  : entryFrame m #[(.int 10), (.int 3)] 2 = mkF m 0 #[.val (.int 10), .val (.int 3)] [] := by first | (simp [entryFrame, mkF, argsToLocals, Value.category]; done) | rfl
def Q22_3r (Z : State)  (h0 : Heap) (n0 : Nat) (v : Option Value) (h : Heap) (L : List Loc) : Prop := v = some (.int (3 : Int32)) ∧ Fr n0 L ∧ h = h0
set_option maxRecDepth 65536 in
set_option maxHeartbeats 40000000 in
theorem rm22_3r  (h0 : Heap) (n0 : Nat) (Z0 : n0 ≤ h0.size) :
  Mt hw l M_37 (Jvm.Cond.code M_37 c_22 2 (some .int)) ws R_0_0_0_0 #[(.int 10), (.int 3)] h0 (Q22_3r Z  h0 n0) := by
 refine ent s_34 rfl (hx := (Jvm.Free.JP.mathPlain rfl (by decide +kernel))) hisR fun p e s m below meth c s₁ Bd hx hby hml hown hnm hlk hZ X0 e0 => ?_
 have D := fun i => hb hby (q_22 i)
 have u := hU hw
 have N0 := Fr.nil n0
 rw [ef_22_3r]
 show gO (tF s₁ m 0 #[.val (.int 10), .val (.int 3)] [])
 refine giN X0 hx (D 0) rfl ?_
 refine giN X0 hx (D 1) rfl ?_
 refine go (XS.icmpYes X0.here hx rfl (pc0 := 2) (pc' := 9) rfl (D 2) rfl (tlt (by decide : (3 : Int32) < (10 : Int32))).2.2.1 (by decide) (by decide)) ?_
 refine giN X0 hx (D 3) rfl ?_
 refine goI X0 hx hlk Bd.returns (D 4) ?_ (by decide) (by decide)
 show Q22_3r Z  h0 n0 (some (.int (3 : Int32))) s₁.heap _
 exact ⟨rfl, N0, e0⟩
theorem ef_21_3r (m : MethodId) (x0 : Addr) (x2 : Addr) : entryFrame m #[(.ref x0), (.int 3), (.ref x2)] 4 = mkF m 0 #[.val (.ref x0), .val (.int 3), .val (.ref x2), .unset] [] := by first | (simp [entryFrame, mkF, argsToLocals, Value.category]; done) | rfl
def Q21_3r (Z : State) (o0 : Addr) (mr_ : Addr) (k_e : ClassId) (v_0 : Addr) (v_1 : Addr) (v_2 : Addr) (h0 : Heap) (n0 : Nat) (v : Option Value) (h : Heap) (L : List Loc) : Prop := ∃ b2 : Addr, ∃ k2 : ClassId, v = some (.ref b2) ∧ Fr n0 L ∧ Keep h0 h ([] : List Addr) ∧ h0.size ≤ b2 ∧ Exa Z h b2 s_3 ∧ Arv Z h b2 k2 (.object s_0) (3 : Int32) [(.ref v_0), (.ref v_1), (.ref v_2)] .null ∧ Ovr Z k2 s_0
set_option maxRecDepth 65536 in
set_option maxHeartbeats 40000000 in
theorem rm21_3r (o0 : Addr) (mr_ : Addr) (k_e : ClassId) (v_0 : Addr) (v_1 : Addr) (v_2 : Addr) (h0 : Heap) (n0 : Nat) (Z0 : n0 ≤ h0.size) (V_e : Arv Z h0 o0 k_e (.object s_0) (10 : Int32) [(.ref v_0), (.ref v_1), (.ref v_2), .null, .null, .null, .null, .null, .null, .null] .null) (E_e : Exa Z h0 o0 s_3) (E_v0 : Exa Z h0 v_0 s_4) (E_v1 : Exa Z h0 v_1 s_4) (E_v2 : Exa Z h0 v_2 s_4) (MM : Mir Z mr_) :
  Mt hw l M_38 (Jvm.Cond.code M_38 c_21 4 (some (.array (.object s_0)))) ws R_1_1_3_18 #[(.ref o0), (.int 3), (.ref mr_)] h0 (Q21_3r Z o0 mr_ k_e v_0 v_1 v_2 h0 n0) := by
 refine ent s_30 rfl hisR fun p e s m below meth c s₁ Bd hx hby hml hown hnm hlk hZ X0 e0 => ?_
 have D := fun i => hb hby (q_21 i)
 have u := hU hw
 have N0 := Fr.nil n0
 rw [ef_21_3r]
 show gO (tF s₁ m 0 #[.val (.ref o0), .val (.int 3), .val (.ref mr_), .unset] [])
 refine gaN X0 hx (D 0) rfl rfl ?_
 obtain ⟨cm, km, m1, m2, m3⟩ := own_mir hZ MM
 obtain ⟨vm1, X1, st1⟩ := X0.ldcMirror hx hown (mvT hZ (u 133)) (own_mirev m1 m2 m3) (g := (mkF m 1 #[.val (.ref o0), .val (.int 3), .val (.ref mr_), .unset] [(.ref mr_)])) rfl (D 1)
 have e1 : (s₁.setVm vm1).heap = h0 := e0
 refine gob st1 ?_
 refine gob (fun _ k => Jvm.RoadKit.acmp (g := (mkF m 3 #[.val (.ref o0), .val (.int 3), .val (.ref mr_), .unset] [(.ref mr_), (.ref mr_)])) X1 hx rfl rfl rfl (pc0 := 3) (pc' := 6) (same := true) rfl (D 2) rfl (decide_eq_true rfl) (by decide) (by decide) k) ?_
 show gO (tF (s₁.setVm vm1) m 6 #[.val (.ref o0), .val (.int 3), .val (.ref mr_), .unset] [])
 refine giN X1 hx (D 3) rfl ?_
 obtain ⟨T2, h2, k2, X2, e2, E2, A2, B2, O2, st2⟩ := newRE X1 hx hZ hown (u 134) (u 74) e1 (g := (mkF m 7 #[.val (.ref o0), .val (.int 3), .val (.ref mr_), .unset] [(.int 3)])) rfl (D 4) rfl (by decide) (cap := 3) (by decide) (by decide) (by decide) (by decide) (ad := s_3) (by first | rfl | decide +kernel)
 obtain ⟨b2, g2⟩ : ∃ z, z = h0.size := ⟨_, rfl⟩
 rw [← g2] at A2 B2 st2
 have g7 : n0 ≤ b2 := Nat.le_trans Z0 (Nat.le_of_eq g2.symm)
 have sz_b2 : h0.size ≤ b2 := Nat.le_trans (Keep.refl h0 []).1 (Nat.le_of_eq g2.symm)
 have z8 : n0 ≤ h2.size := Nat.le_trans Z0 E2.1
 have K9 : Keep h0 h2 ([] : List Addr) := (Keep.refl h0 ([] : List Addr)).ext E2
 have V2 : Arv Z h2 b2 k2 (.object s_0) (3 : Int32) [.null, .null, .null] .null := (Arv.new A2 (by decide)).pad (pad_rep [] .null 3)
 refine gob st2 ?_
 replace X2 := castX X2 (rfl : _ = 1) (rfl : _ = 3)
 show gO (tF T2 m 10 #[.val (.ref o0), .val (.int 3), .val (.ref mr_), .unset] [(.ref b2)])
 refine go (XS.goto X2.here hx rfl (pc0 := 10) (pc' := 24) rfl (D 5) (by decide) (by decide)) ?_
 refine go (XS.astoreN X2.here hx rfl (D 6) rfl rfl (l' := #[.val (.ref o0), .val (.int 3), .val (.ref mr_), .val (.ref b2)]) rfl) ?_
 refine gaN X2 hx (D 7) rfl rfl ?_
 refine giC X2 hx (D 8) ?_
 refine gaN X2 hx (D 9) rfl rfl ?_
 refine giC X2 hx (D 10) ?_
 refine gaN X2 hx (D 11) rfl rfl ?_
 have c11 := (V_e.ext E2)
 obtain ⟨cl10, Ar10, aq10, S10, N10, H10, G10⟩ := id c11
 refine gob (X2.arraylength hx (by rw [e2]; exact Ar10.1) (State.isArrayOf_alike hZ.alike Ar10.2.1) (g := (mkF m 30 #[.val (.ref o0), .val (.int 3), .val (.ref mr_), .val (.ref b2)] [(.ref o0), (.int 0), (.ref b2), (.int 0), (.ref o0)])) rfl rfl (D 12)) ?_
 rw [len_of S10 N10]
 show gO (tF T2 m 31 #[.val (.ref o0), .val (.int 3), .val (.ref mr_), .val (.ref b2)] [(.int 10), (.int 0), (.ref b2), (.int 0), (.ref o0)])
 refine giN X2 hx (D 13) rfl ?_
 obtain ⟨_, T12, Lc12, X12, hQ12, st12⟩ := clS X2 (Jvm.LawKit.callS X2 hx (y := M_37) hown (mvT hZ (u 135)) (mvT hZ (u 136)) (mvT hZ (u 71)) (mvT hZ (u 137)) (by decide) (backOf (W := 4) (rm22_3r l Z a0 hw []  h2 n0 z8 ) hZ (u 137) (u 71) (by decide) (by decide)) (g := (mkF m 32 #[.val (.ref o0), .val (.int 3), .val (.ref mr_), .val (.ref b2)] [(.int 3), (.int 10), (.int 0), (.ref b2), (.int 0), (.ref o0)])) rfl (by rw [hml]; rfl) (argsL := [(.int 10), (.int 3)]) (rest := [(.int 0), (.ref b2), (.int 0), (.ref o0)]) (lenOf pd_3 rfl) rfl (wk rfl rfl) (D 14) (fun _ _ => ⟨rfl, e2, lD rfl, lD rfl⟩)) (k := 1) (n := 3) rfl rfl
 obtain ⟨rfl, Nq12, e12⟩ := hQ12
 have N12 := Fr.app N0 Nq12
 refine gob st12 ?_
 obtain ⟨cl13, Ar13, aq13, S13, N13, H13, G13⟩ := id V2
 have c14 := (E_v2.ext E2)
 have c15 := (E_v1.ext E2)
 have c16 := (E_v0.ext E2)
 obtain ⟨T17, h17, L17, X17, e17, N17, K17, A17, st17⟩ := cpA X12 hx hZ hown (u 138) (u 141) (u 139) (u 140) e12 c11 V2 (Or.inr ⟨rfl, rfl, ⟨Sto.ofV Ar13 aq13 O2 (Ins.of_exa c16 (u 75)), ⟨Sto.ofV Ar13 aq13 O2 (Ins.of_exa c15 (u 75)), ⟨Sto.ofV Ar13 aq13 O2 (Ins.of_exa c14 (u 75)), trivial⟩⟩⟩⟩) (sp := (0 : Int32)) (dp := (0 : Int32)) (nn := (3 : Int32)) (us := [(.ref v_0), (.ref v_1), (.ref v_2)]) (by decide) (by decide) (by decide) (by decide) (by decide) rfl (Nat.le_of_ble_eq_true rfl) N12 g7 (g := (mkF m 35 #[.val (.ref o0), .val (.int 3), .val (.ref mr_), .val (.ref b2)] [(.int 3), (.int 0), (.ref b2), (.int 0), (.ref o0)])) rfl (by rw [hml]; rfl) rfl (D 15) (by decide) (W := 0) (wk rfl rfl) (by decide)
 have K19 : Keep h0 h17 ([] : List Addr) := K9.trans K17 (allS (Or.inr sz_b2) all0)
 have V17 : Arv Z h17 b2 k2 (.object s_0) (3 : Int32) [(.ref v_0), (.ref v_1), (.ref v_2)] .null := A17
 refine gob st17 ?_
 refine gaN X17 hx (D 16) rfl rfl ?_
 refine goA X17 hx hlk Bd.returns rfl rfl (D 17) ?_ (by decide) (by decide)
 show Q21_3r Z o0 mr_ k_e v_0 v_1 v_2 h0 n0 (some (.ref b2)) T17.heap _
 have c20 := (B2.keep K17)
 rw [e17]
 exact ⟨b2, k2, rfl, N17, K19, sz_b2, c20, V17, O2⟩
theorem ef_20_3r (m : MethodId) (x0 : Addr) : entryFrame m #[(.ref x0), (.int 3)] 2 = mkF m 0 #[.val (.ref x0), .val (.int 3)] [] := by first | (simp [entryFrame, mkF, argsToLocals, Value.category]; done) | rfl
def Q20_3r (Z : State) (o0 : Addr) (k_e : ClassId) (v_0 : Addr) (v_1 : Addr) (v_2 : Addr) (mr_ : Addr) (h0 : Heap) (n0 : Nat) (v : Option Value) (h : Heap) (L : List Loc) : Prop := ∃ b3 : Addr, ∃ k4 : ClassId, v = some (.ref b3) ∧ Fr n0 L ∧ Keep h0 h ([] : List Addr) ∧ h0.size ≤ b3 ∧ Exa Z h b3 s_3 ∧ Arv Z h b3 k4 (.object s_0) (3 : Int32) [(.ref v_0), (.ref v_1), (.ref v_2)] .null ∧ Ovr Z k4 s_0
set_option maxRecDepth 65536 in
set_option maxHeartbeats 40000000 in
theorem rm20_3r (o0 : Addr) (k_e : ClassId) (v_0 : Addr) (v_1 : Addr) (v_2 : Addr) (mr_ : Addr) (h0 : Heap) (n0 : Nat) (Z0 : n0 ≤ h0.size) (V_e : Arv Z h0 o0 k_e (.object s_0) (10 : Int32) [(.ref v_0), (.ref v_1), (.ref v_2), .null, .null, .null, .null, .null, .null, .null] .null) (E_e : Exa Z h0 o0 s_3) (E_v0 : Exa Z h0 v_0 s_4) (E_v1 : Exa Z h0 v_1 s_4) (E_v2 : Exa Z h0 v_2 s_4) (MM : Mir Z mr_) :
  Mt hw l M_39 (Jvm.Cond.code M_39 c_20 2 (some (.array (.object s_0)))) ws R_2_1_3_33 #[(.ref o0), (.int 3)] h0 (Q20_3r Z o0 k_e v_0 v_1 v_2 mr_ h0 n0) := by
 refine ent s_30 rfl hisR fun p e s m below meth c s₁ Bd hx hby hml hown hnm hlk hZ X0 e0 => ?_
 have D := fun i => hb hby (q_20 i)
 have u := hU hw
 have N0 := Fr.nil n0
 rw [ef_20_3r]
 show gO (tF s₁ m 0 #[.val (.ref o0), .val (.int 3)] [])
 refine gaN X0 hx (D 0) rfl rfl ?_
 refine giN X0 hx (D 1) rfl ?_
 refine gaN X0 hx (D 2) rfl rfl ?_
 obtain ⟨cm, km, m1, m2, m3⟩ := own_mir hZ MM
 obtain ⟨cq1, kq1, q1a, q1b, q1c⟩ := isOf hZ e0 E_e
 cases m1.symm.trans q1a
 obtain ⟨vm1, X1, st1⟩ := X0.getClassOf hx hown (mvT hZ (u 124)) (mvT hZ (u 125)) (notFace_of_selects (args := #[]) (mvT hZ (u 127))) (mvT hZ (u 127)) (mvT hZ (u 126)) (mvT hZ (u 128)) q1a q1c m2 m3 (g := (mkF m 3 #[.val (.ref o0), .val (.int 3)] [(.ref o0), (.int 3), (.ref o0)])) rfl (by rw [hml]; rfl) (rest := [(.int 3), (.ref o0)]) rfl (D 3) (Nat.le_of_ble_eq_true rfl) (Nat.le_of_ble_eq_true rfl)
 have e1 : (s₁.setVm vm1).heap = h0 := e0
 refine gob st1 ?_
 obtain ⟨_, T2, Lc2, X2, hQ2, st2⟩ := clS X1 (Jvm.LawKit.callS X1 hx (y := M_38) hown (mvT hZ (u 130)) (mvT hZ (u 131)) (mvT hZ (u 122)) (mvT hZ (u 132)) (by decide) (backOf (W := 0) (rm21_3r l Z a0 hw [] o0 mr_ k_e v_0 v_1 v_2 h0 n0 Z0 V_e E_e E_v0 E_v1 E_v2 MM) hZ (u 132) (u 122) (by decide) (by decide)) (g := (mkF m 6 #[.val (.ref o0), .val (.int 3)] [(.ref mr_), (.int 3), (.ref o0)])) rfl (by rw [hml]; rfl) (argsL := [(.ref o0), (.int 3), (.ref mr_)]) (rest := []) (lenOf pd_10 rfl) rfl (wk rfl rfl) (D 4) (fun _ _ => ⟨rfl, e1, lD rfl, lD rfl⟩)) (k := 1) (n := 3) rfl rfl
 obtain ⟨b3, k4, rfl, Nq2, K2, hz5, F6, F7, hi8⟩ := hQ2
 have N2 := Fr.app N0 Nq2
 have sz_b3 : h0.size ≤ b3 := Nat.le_trans (Keep.refl h0 []).1 hz5
 have K15 : Keep h0 T2.heap ([] : List Addr) := (Keep.refl h0 ([] : List Addr)).trans K2 all0
 refine gob st2 ?_
 refine goA X2 hx hlk Bd.returns rfl rfl (D 5) ?_ (by decide) (by decide)
 show Q20_3r Z o0 k_e v_0 v_1 v_2 mr_ h0 n0 (some (.ref b3)) T2.heap _
 exact ⟨b3, k4, rfl, N2, K15, sz_b3, F6, F7, hi8⟩
def Q19_3r (Z : State) (o0 : Addr) (w_e : Addr) (k_e : ClassId) (v_0 : Addr) (v_1 : Addr) (v_2 : Addr) (mr_ : Addr) (h0 : Heap) (n0 : Nat) (v : Option Value) (h : Heap) (L : List Loc) : Prop := ∃ b4 : Addr, ∃ k5 : ClassId, v = some (.ref b4) ∧ Fr n0 L ∧ Keep h0 h ([] : List Addr) ∧ h0.size ≤ b4 ∧ Exa Z h b4 s_3 ∧ Arv Z h b4 k5 (.object s_0) (3 : Int32) [(.ref v_0), (.ref v_1), (.ref v_2)] .null ∧ Ovr Z k5 s_0
set_option maxRecDepth 65536 in
set_option maxHeartbeats 40000000 in
theorem rm19_3r (o0 : Addr) (w_e : Addr) (k_e : ClassId) (v_0 : Addr) (v_1 : Addr) (v_2 : Addr) (mr_ : Addr) (h0 : Heap) (n0 : Nat) (Z0 : n0 ≤ h0.size) (E_o0 : Exa Z h0 o0 s_1) (F_size : Fld Z h0 o0 s_1 "size" "I" (.int 3)) (F_elementData : Fld Z h0 o0 s_1 s_8 s_3 (.ref w_e)) (V_e : Arv Z h0 w_e k_e (.object s_0) (10 : Int32) [(.ref v_0), (.ref v_1), (.ref v_2), .null, .null, .null, .null, .null, .null, .null] .null) (E_e : Exa Z h0 w_e s_3) (E_v0 : Exa Z h0 v_0 s_4) (E_v1 : Exa Z h0 v_1 s_4) (E_v2 : Exa Z h0 v_2 s_4) (MM : Mir Z mr_) :
  Mt hw l M_40 (Jvm.Cond.code M_40 c_19 1 (some (.array (.object s_0)))) ws R_3_1_3_46 #[(.ref o0)] h0 (Q19_3r Z o0 w_e k_e v_0 v_1 v_2 mr_ h0 n0) := by
 refine ent s_1 rfl hisR fun p e s m below meth c s₁ Bd hx hby hml hown hnm hlk hZ X0 e0 => ?_
 have D := fun i => hb hby (q_19 i)
 have u := hU hw
 have N0 := Fr.nil n0
 rw [ef_4]
 show gO (tF s₁ m 0 #[.val (.ref o0)] [])
 refine gaN X0 hx (D 0) rfl rfl ?_
 obtain ⟨T1, X1, e1, st1⟩ := getF X0 hx hZ hown (host := "") (Or.inl (hW hw 30 rfl)) Via.refl e0 F_elementData (g := (mkF m 1 #[.val (.ref o0)] [(.ref o0)])) rfl rfl (D 1)
 refine gob st1 ?_
 refine gaN X1 hx (D 2) rfl rfl ?_
 obtain ⟨T2, X2, e2, st2⟩ := getF X1 hx hZ hown (host := "") (Or.inl (hW hw 52 rfl)) Via.refl e1 F_size (g := (mkF m 5 #[.val (.ref o0)] [(.ref o0), (.ref w_e)])) rfl rfl (D 3)
 refine gob st2 ?_
 obtain ⟨_, T3, Lc3, X3, hQ3, st3⟩ := clS X2 (Jvm.LawKit.callS X2 hx (y := M_39) hown (mvT hZ (u 120)) (mvT hZ (u 121)) (mvT hZ (u 122)) (mvT hZ (u 123)) (by decide) (backOf (W := 0) (rm20_3r l Z a0 hw [] w_e k_e v_0 v_1 v_2 mr_ h0 n0 Z0 V_e E_e E_v0 E_v1 E_v2 MM) hZ (u 123) (u 122) (by decide) (by decide)) (g := (mkF m 8 #[.val (.ref o0)] [(.int 3), (.ref w_e)])) rfl (by rw [hml]; rfl) (argsL := [(.ref w_e), (.int 3)]) (rest := []) (lenOf pd_11 rfl) rfl (wk rfl rfl) (D 4) (fun _ _ => ⟨rfl, e2, lD rfl, lD rfl⟩)) (k := 1) (n := 3) rfl rfl
 obtain ⟨b4, k5, rfl, Nq3, K3, hz6, F7, F8, hi9⟩ := hQ3
 have N3 := Fr.app N0 Nq3
 have sz_b4 : h0.size ≤ b4 := Nat.le_trans (Keep.refl h0 []).1 hz6
 have K17 : Keep h0 T3.heap ([] : List Addr) := (Keep.refl h0 ([] : List Addr)).trans K3 all0
 refine gob st3 ?_
 refine goA X3 hx hlk Bd.returns rfl rfl (D 5) ?_ (by decide) (by decide)
 show Q19_3r Z o0 w_e k_e v_0 v_1 v_2 mr_ h0 n0 (some (.ref b4)) T3.heap _
 exact ⟨b4, k5, rfl, N3, K17, sz_b4, F7, F8, hi9⟩
def t_63 : List (Nat × Instr × Nat) := [(0, .aload_n 0, 1), (1, .arraylength, 1), (2, .anewarray 2, 3), (5, .astore_n 1, 1), (6, .iconst 0, 1), (7, .istore_n 2, 1), (8, .iload_n 2, 1), (9, .aload_n 0, 1), (10, .arraylength, 1), (11, .if_icmp .ge 18, 3), (14, .aload_n 1, 1), (15, .iload_n 2, 1), (16, .aload_n 0, 1), (17, .iload_n 2, 1), (18, .aaload, 1), (19, .invokestatic 37, 3), (22, .aastore, 1), (23, .iinc 2 1, 3), (26, .goto (-18), 3), (29, .new 12, 3), (32, .dup, 1), (33, .aload_n 1, 1), (34, .iconst 0, 1), (35, .invokespecial 43, 3), (38, .areturn, 1)]
theorem q_63 : ∀ i : Fin 25, decode c_63 (gt t_63 i.1).1 = .ok ((gt t_63 i.1).2.1, (gt t_63 i.1).2.2) := by decide +kernel
theorem pd_15 : parseMethodDescriptor "([Ljava/lang/Object;Z)V" = some ⟨[(.array (.object "java/lang/Object")), .boolean], none⟩ := by decide +kernel
theorem ef_63_3r (m : MethodId) (x0 : Addr) : entryFrame m #[(.ref x0)] 3 = mkF m 0 #[.val (.ref x0), .unset, .unset] [] := by first | (simp [entryFrame, mkF, argsToLocals, Value.category]; done) | rfl
def Q63_3r (Z : State) (o0 : Addr) (k_a : ClassId) (v_0 : Addr) (v_1 : Addr) (v_2 : Addr) (h0 : Heap) (n0 : Nat) (v : Option Value) (h : Heap) (L : List Loc) : Prop := ∃ b2 : Addr, ∃ b39 : Addr, ∃ k2 : ClassId, v = some (.ref b39) ∧ Fr n0 L ∧ Keep h0 h ([] : List Addr) ∧ h0.size ≤ b2 ∧ h0.size ≤ b39 ∧ b2 ≠ b39 ∧ Exa Z h b2 s_3 ∧ Arv Z h b2 k2 (.object s_0) (3 : Int32) [(.ref v_0), (.ref v_1), (.ref v_2)] .null ∧ Exa Z h b39 s_16 ∧ Fld Z h b39 s_16 s_20 s_3 (.ref b2) ∧ Fld Z h b39 s_16 s_29 "Z" (.int ((0 : Int32) &&& 1)) ∧ Ovr Z k2 s_0
set_option maxRecDepth 65536 in
set_option maxHeartbeats 40000000 in
theorem rm63_3r (o0 : Addr) (k_a : ClassId) (v_0 : Addr) (v_1 : Addr) (v_2 : Addr) (h0 : Heap) (n0 : Nat) (Z0 : n0 ≤ h0.size) (V_a : Arv Z h0 o0 k_a (.object s_0) (3 : Int32) [(.ref v_0), (.ref v_1), (.ref v_2)] .null) (E_v0 : Exa Z h0 v_0 s_4) (E_v1 : Exa Z h0 v_1 s_4) (E_v2 : Exa Z h0 v_2 s_4) :
  Mt hw l M_43 (Jvm.Cond.code M_43 c_63 3 (some (.object s_2))) ws R_5_2_5_63 #[(.ref o0)] h0 (Q63_3r Z o0 k_a v_0 v_1 v_2 h0 n0) := by
 refine ent s_18 rfl hisR fun p e s m below meth c s₁ Bd hx hby hml hown hnm hlk hZ X0 e0 => ?_
 have D := fun i => hb hby (q_63 i)
 have u := hU hw
 have N0 := Fr.nil n0
 rw [ef_63_3r]
 show gO (tF s₁ m 0 #[.val (.ref o0), .unset, .unset] [])
 refine gaN X0 hx (D 0) rfl rfl ?_
 obtain ⟨cl1, Ar1, aq1, S1, N1, H1, G1⟩ := id V_a
 refine gob (X0.arraylength hx (by rw [e0]; exact Ar1.1) (State.isArrayOf_alike hZ.alike Ar1.2.1) (g := (mkF m 1 #[.val (.ref o0), .unset, .unset] [(.ref o0)])) rfl rfl (D 1)) ?_
 rw [len_of S1 N1]
 show gO (tF s₁ m 2 #[.val (.ref o0), .unset, .unset] [(.int 3)])
 obtain ⟨T2, h2, k2, X2, e2, E2, A2, B2, O2, st2⟩ := newRE X0 hx hZ hown (u 501) (u 74) e0 (g := (mkF m 2 #[.val (.ref o0), .unset, .unset] [(.int 3)])) rfl (D 2) rfl (by decide) (cap := 3) (by decide) (by decide) (by decide) (by decide) (ad := s_3) (by first | rfl | decide +kernel)
 obtain ⟨b2, g2⟩ : ∃ z, z = h0.size := ⟨_, rfl⟩
 rw [← g2] at A2 B2 st2
 have n3 : o0 ≠ b2 := Nat.ne_of_lt (Nat.lt_of_lt_of_le V_a.lt (Nat.le_of_eq g2.symm))
 have g7 : n0 ≤ b2 := Nat.le_trans Z0 (Nat.le_of_eq g2.symm)
 have sz_b2 : h0.size ≤ b2 := Nat.le_trans (Keep.refl h0 []).1 (Nat.le_of_eq g2.symm)
 have z8 : n0 ≤ h2.size := Nat.le_trans Z0 E2.1
 have K9 : Keep h0 h2 ([] : List Addr) := (Keep.refl h0 ([] : List Addr)).ext E2
 have V2 : Arv Z h2 b2 k2 (.object s_0) (3 : Int32) [.null, .null, .null] .null := (Arv.new A2 (by decide)).pad (pad_rep [] .null 3)
 refine gob st2 ?_
 replace X2 := castX X2 (rfl : _ = 1) (rfl : _ = 3)
 show gO (tF T2 m 5 #[.val (.ref o0), .unset, .unset] [(.ref b2)])
 refine go (XS.astoreN X2.here hx rfl (D 3) rfl rfl (l' := #[.val (.ref o0), .val (.ref b2), .unset]) rfl) ?_
 refine giC X2 hx (D 4) ?_
 refine go (XS.istoreN X2.here hx rfl (D 5) rfl (l' := #[.val (.ref o0), .val (.ref b2), .val (.int 0)]) rfl) ?_
 refine giN X2 hx (D 6) rfl ?_
 refine gaN X2 hx (D 7) rfl rfl ?_
 have c11 := (V_a.ext E2)
 obtain ⟨cl10, Ar10, aq10, S10, N10, H10, G10⟩ := id c11
 refine gob (X2.arraylength hx (by rw [e2]; exact Ar10.1) (State.isArrayOf_alike hZ.alike Ar10.2.1) (g := (mkF m 10 #[.val (.ref o0), .val (.ref b2), .val (.int 0)] [(.ref o0), (.int 0)])) rfl rfl (D 8)) ?_
 rw [len_of S10 N10]
 show gO (tF T2 m 11 #[.val (.ref o0), .val (.ref b2), .val (.int 0)] [(.int 3), (.int 0)])
 refine go (XS.icmpNo X2.here hx rfl (D 9) rfl (tlt (by decide : (0 : Int32) < (3 : Int32))).2.1) ?_
 refine gaN X2 hx (D 10) rfl rfl ?_
 refine giN X2 hx (D 11) rfl ?_
 refine gaN X2 hx (D 12) rfl rfl ?_
 refine giN X2 hx (D 13) rfl ?_
 obtain ⟨cl12, Ar12, aq12, S12, N12, H12, G12⟩ := id c11
 have hin12 : ¬ ((0 : Int32) < 0 ∨ cl12.slots.size ≤ ((0 : Int32)).toNatClampNeg) := inb_of S12 ⟨by decide, by decide⟩
 refine gob (X2.aaload hx (j := (0 : Int32)) (v := (.ref v_0)) (by rw [e2]; exact Ar12.1) (State.isArrayOf_alike hZ.alike Ar12.2.1) rfl Ar12.2.2 hin12 (Has.at H12 hin12 rfl) (g := (mkF m 18 #[.val (.ref o0), .val (.ref b2), .val (.int 0)] [(.int 0), (.ref o0), (.int 0), (.ref b2)])) rfl rfl (D 14)) ?_
 obtain ⟨_, T13, Lc13, X13, hQ13, st13⟩ := clS X2 (Jvm.LawKit.callS X2 hx (y := M_9) hown (mvT hZ (u 502)) (mvT hZ (u 167)) (mvT hZ (u 168)) (mvT hZ (u 169)) (by decide) (backOf (W := 2) (rm27 l Z a0 hw [] v_0 h2 n0 z8 ) hZ (u 169) (u 168) (by decide) (by decide)) (g := (mkF m 19 #[.val (.ref o0), .val (.ref b2), .val (.int 0)] [(.ref v_0), (.int 0), (.ref b2)])) rfl (by rw [hml]; rfl) (argsL := [(.ref v_0)]) (rest := [(.int 0), (.ref b2)]) (lenOf pd_2 rfl) rfl (wk rfl rfl) (D 15) (fun _ _ => ⟨rfl, e2, lD rfl, lD rfl⟩)) (k := 1) (n := 3) rfl rfl
 obtain ⟨rfl, Nq13, e13⟩ := hQ13
 have N13 := Fr.app N0 Nq13
 refine gob st13 ?_
 obtain ⟨cl14, Ar14, aq14, S14, N14, H14, G14⟩ := id V2
 have hin14 : ¬ ((0 : Int32) < 0 ∨ cl14.slots.size ≤ ((0 : Int32)).toNatClampNeg) := inb_of S14 ⟨by decide, by decide⟩
 have c15 := (E_v0.ext E2)
 obtain ⟨T16, h16, X16, e16, W16, st16⟩ := stR X13 hx hZ e13 Ar14 (j := (0 : Int32)) hin14 rfl (Sto.ofV Ar14 aq14 O2 (Ins.of_exa c15 (u 75))) (g := (mkF m 22 #[.val (.ref o0), .val (.ref b2), .val (.int 0)] [(.ref v_0), (.int 0), (.ref b2)])) rfl rfl (D 16)
 refine gob st16 ?_
 have z17 : n0 ≤ h16.size := Nat.le_trans z8 (Keep.of_wr W16).1
 have N16 := Fr.snoc X16 N13 g7
 have K18 : Keep h0 h16 ([] : List Addr) := K9.wr W16 (Or.inr sz_b2)
 have V16 : Arv Z h16 b2 k2 (.object s_0) (3 : Int32) [(.ref v_0), .null, .null] .null := Arv.set Ar14 aq14 S14 N14 H14 G14 rfl W16 0 rfl (Nat.le_of_ble_eq_true rfl)
 show gO (tF T16 m 23 #[.val (.ref o0), .val (.ref b2), .val (.int 0)] [])
 refine go (XS.iinc X16.here hx rfl (D 17) rfl (l' := #[.val (.ref o0), .val (.ref b2), .val (.int 1)]) rfl) ?_
 refine go (XS.goto X16.here hx rfl (pc0 := 26) (pc' := 8) rfl (D 18) (by decide) (by decide)) ?_
 refine giN X16 hx (D 6) rfl ?_
 refine gaN X16 hx (D 7) rfl rfl ?_
 have c20 := (c11.other W16 n3)
 obtain ⟨cl19, Ar19, aq19, S19, N19, H19, G19⟩ := id c20
 refine gob (X16.arraylength hx (by rw [e16]; exact Ar19.1) (State.isArrayOf_alike hZ.alike Ar19.2.1) (g := (mkF m 10 #[.val (.ref o0), .val (.ref b2), .val (.int 1)] [(.ref o0), (.int 1)])) rfl rfl (D 8)) ?_
 rw [len_of S19 N19]
 show gO (tF T16 m 11 #[.val (.ref o0), .val (.ref b2), .val (.int 1)] [(.int 3), (.int 1)])
 refine go (XS.icmpNo X16.here hx rfl (D 9) rfl (tlt (by decide : (1 : Int32) < (3 : Int32))).2.1) ?_
 refine gaN X16 hx (D 10) rfl rfl ?_
 refine giN X16 hx (D 11) rfl ?_
 refine gaN X16 hx (D 12) rfl rfl ?_
 refine giN X16 hx (D 13) rfl ?_
 obtain ⟨cl21, Ar21, aq21, S21, N21, H21, G21⟩ := id c20
 have hin21 : ¬ ((1 : Int32) < 0 ∨ cl21.slots.size ≤ ((1 : Int32)).toNatClampNeg) := inb_of S21 ⟨by decide, by decide⟩
 refine gob (X16.aaload hx (j := (1 : Int32)) (v := (.ref v_1)) (by rw [e16]; exact Ar21.1) (State.isArrayOf_alike hZ.alike Ar21.2.1) rfl Ar21.2.2 hin21 (Has.at H21 hin21 rfl) (g := (mkF m 18 #[.val (.ref o0), .val (.ref b2), .val (.int 1)] [(.int 1), (.ref o0), (.int 1), (.ref b2)])) rfl rfl (D 14)) ?_
 obtain ⟨_, T22, Lc22, X22, hQ22, st22⟩ := clS X16 (Jvm.LawKit.callS X16 hx (y := M_9) hown (mvT hZ (u 502)) (mvT hZ (u 167)) (mvT hZ (u 168)) (mvT hZ (u 169)) (by decide) (backOf (W := 2) (rm27 l Z a0 hw [] v_1 h16 n0 z17 ) hZ (u 169) (u 168) (by decide) (by decide)) (g := (mkF m 19 #[.val (.ref o0), .val (.ref b2), .val (.int 1)] [(.ref v_1), (.int 1), (.ref b2)])) rfl (by rw [hml]; rfl) (argsL := [(.ref v_1)]) (rest := [(.int 1), (.ref b2)]) (lenOf pd_2 rfl) rfl (wk rfl rfl) (D 15) (fun _ _ => ⟨rfl, e16, lD rfl, lD rfl⟩)) (k := 1) (n := 3) rfl rfl
 obtain ⟨rfl, Nq22, e22⟩ := hQ22
 have N22 := Fr.app N16 Nq22
 refine gob st22 ?_
 obtain ⟨cl23, Ar23, aq23, S23, N23, H23, G23⟩ := id V16
 have hin23 : ¬ ((1 : Int32) < 0 ∨ cl23.slots.size ≤ ((1 : Int32)).toNatClampNeg) := inb_of S23 ⟨by decide, by decide⟩
 have c24 := ((E_v1.ext E2).wr W16)
 obtain ⟨T25, h25, X25, e25, W25, st25⟩ := stR X22 hx hZ e22 Ar23 (j := (1 : Int32)) hin23 rfl (Sto.ofV Ar23 aq23 O2 (Ins.of_exa c24 (u 75))) (g := (mkF m 22 #[.val (.ref o0), .val (.ref b2), .val (.int 1)] [(.ref v_1), (.int 1), (.ref b2)])) rfl rfl (D 16)
 refine gob st25 ?_
 have z26 : n0 ≤ h25.size := Nat.le_trans z17 (Keep.of_wr W25).1
 have N25 := Fr.snoc X25 N22 g7
 have K27 : Keep h0 h25 ([] : List Addr) := K18.wr W25 (Or.inr sz_b2)
 have V25 : Arv Z h25 b2 k2 (.object s_0) (3 : Int32) [(.ref v_0), (.ref v_1), .null] .null := Arv.set Ar23 aq23 S23 N23 H23 G23 rfl W25 1 rfl (Nat.le_of_ble_eq_true rfl)
 show gO (tF T25 m 23 #[.val (.ref o0), .val (.ref b2), .val (.int 1)] [])
 refine go (XS.iinc X25.here hx rfl (D 17) rfl (l' := #[.val (.ref o0), .val (.ref b2), .val (.int 2)]) rfl) ?_
 refine go (XS.goto X25.here hx rfl (pc0 := 26) (pc' := 8) rfl (D 18) (by decide) (by decide)) ?_
 refine giN X25 hx (D 6) rfl ?_
 refine gaN X25 hx (D 7) rfl rfl ?_
 have c29 := (c20.other W25 n3)
 obtain ⟨cl28, Ar28, aq28, S28, N28, H28, G28⟩ := id c29
 refine gob (X25.arraylength hx (by rw [e25]; exact Ar28.1) (State.isArrayOf_alike hZ.alike Ar28.2.1) (g := (mkF m 10 #[.val (.ref o0), .val (.ref b2), .val (.int 2)] [(.ref o0), (.int 2)])) rfl rfl (D 8)) ?_
 rw [len_of S28 N28]
 show gO (tF T25 m 11 #[.val (.ref o0), .val (.ref b2), .val (.int 2)] [(.int 3), (.int 2)])
 refine go (XS.icmpNo X25.here hx rfl (D 9) rfl (tlt (by decide : (2 : Int32) < (3 : Int32))).2.1) ?_
 refine gaN X25 hx (D 10) rfl rfl ?_
 refine giN X25 hx (D 11) rfl ?_
 refine gaN X25 hx (D 12) rfl rfl ?_
 refine giN X25 hx (D 13) rfl ?_
 obtain ⟨cl30, Ar30, aq30, S30, N30, H30, G30⟩ := id c29
 have hin30 : ¬ ((2 : Int32) < 0 ∨ cl30.slots.size ≤ ((2 : Int32)).toNatClampNeg) := inb_of S30 ⟨by decide, by decide⟩
 refine gob (X25.aaload hx (j := (2 : Int32)) (v := (.ref v_2)) (by rw [e25]; exact Ar30.1) (State.isArrayOf_alike hZ.alike Ar30.2.1) rfl Ar30.2.2 hin30 (Has.at H30 hin30 rfl) (g := (mkF m 18 #[.val (.ref o0), .val (.ref b2), .val (.int 2)] [(.int 2), (.ref o0), (.int 2), (.ref b2)])) rfl rfl (D 14)) ?_
 obtain ⟨_, T31, Lc31, X31, hQ31, st31⟩ := clS X25 (Jvm.LawKit.callS X25 hx (y := M_9) hown (mvT hZ (u 502)) (mvT hZ (u 167)) (mvT hZ (u 168)) (mvT hZ (u 169)) (by decide) (backOf (W := 2) (rm27 l Z a0 hw [] v_2 h25 n0 z26 ) hZ (u 169) (u 168) (by decide) (by decide)) (g := (mkF m 19 #[.val (.ref o0), .val (.ref b2), .val (.int 2)] [(.ref v_2), (.int 2), (.ref b2)])) rfl (by rw [hml]; rfl) (argsL := [(.ref v_2)]) (rest := [(.int 2), (.ref b2)]) (lenOf pd_2 rfl) rfl (wk rfl rfl) (D 15) (fun _ _ => ⟨rfl, e25, lD rfl, lD rfl⟩)) (k := 1) (n := 3) rfl rfl
 obtain ⟨rfl, Nq31, e31⟩ := hQ31
 have N31 := Fr.app N25 Nq31
 refine gob st31 ?_
 obtain ⟨cl32, Ar32, aq32, S32, N32, H32, G32⟩ := id V25
 have hin32 : ¬ ((2 : Int32) < 0 ∨ cl32.slots.size ≤ ((2 : Int32)).toNatClampNeg) := inb_of S32 ⟨by decide, by decide⟩
 have c33 := (((E_v2.ext E2).wr W16).wr W25)
 obtain ⟨T34, h34, X34, e34, W34, st34⟩ := stR X31 hx hZ e31 Ar32 (j := (2 : Int32)) hin32 rfl (Sto.ofV Ar32 aq32 O2 (Ins.of_exa c33 (u 75))) (g := (mkF m 22 #[.val (.ref o0), .val (.ref b2), .val (.int 2)] [(.ref v_2), (.int 2), (.ref b2)])) rfl rfl (D 16)
 refine gob st34 ?_
 have z35 : n0 ≤ h34.size := Nat.le_trans z26 (Keep.of_wr W34).1
 have N34 := Fr.snoc X34 N31 g7
 have K36 : Keep h0 h34 ([] : List Addr) := K27.wr W34 (Or.inr sz_b2)
 have V34 : Arv Z h34 b2 k2 (.object s_0) (3 : Int32) [(.ref v_0), (.ref v_1), (.ref v_2)] .null := Arv.set Ar32 aq32 S32 N32 H32 G32 rfl W34 2 rfl (Nat.le_of_ble_eq_true rfl)
 show gO (tF T34 m 23 #[.val (.ref o0), .val (.ref b2), .val (.int 2)] [])
 refine go (XS.iinc X34.here hx rfl (D 17) rfl (l' := #[.val (.ref o0), .val (.ref b2), .val (.int 3)]) rfl) ?_
 refine go (XS.goto X34.here hx rfl (pc0 := 26) (pc' := 8) rfl (D 18) (by decide) (by decide)) ?_
 refine giN X34 hx (D 6) rfl ?_
 refine gaN X34 hx (D 7) rfl rfl ?_
 have c38 := (c29.other W34 n3)
 obtain ⟨cl37, Ar37, aq37, S37, N37, H37, G37⟩ := id c38
 refine gob (X34.arraylength hx (by rw [e34]; exact Ar37.1) (State.isArrayOf_alike hZ.alike Ar37.2.1) (g := (mkF m 10 #[.val (.ref o0), .val (.ref b2), .val (.int 3)] [(.ref o0), (.int 3)])) rfl rfl (D 8)) ?_
 rw [len_of S37 N37]
 show gO (tF T34 m 11 #[.val (.ref o0), .val (.ref b2), .val (.int 3)] [(.int 3), (.int 3)])
 refine go (XS.icmpYes X34.here hx rfl (pc0 := 11) (pc' := 29) rfl (D 9) rfl (flt (by decide : ¬ ((3 : Int32) < (3 : Int32)))).2.1 (by decide) (by decide)) ?_
 obtain ⟨T39, h39, X39, e39, E39, A39, D39, -, st39⟩ := newO X34 hx hZ hown (u 98) (u 503) (u 307) e34 (g := (mkF m 29 #[.val (.ref o0), .val (.ref b2), .val (.int 3)] [])) rfl (D 19) (by decide) (by decide)
 obtain ⟨b39, g39⟩ : ∃ z, z = h34.size := ⟨_, rfl⟩
 rw [← g39] at A39 D39 st39
 have c47 := (((B2.wr W16).wr W25).wr W34)
 have n48 : b2 ≠ b39 := Nat.ne_of_lt (Nat.lt_of_lt_of_le c47.lt (Nat.le_of_eq g39.symm))
 have g49 : n0 ≤ b39 := Nat.le_trans z35 (Nat.le_of_eq g39.symm)
 have sz_b39 : h0.size ≤ b39 := Nat.le_trans K36.1 (Nat.le_of_eq g39.symm)
 have z50 : n0 ≤ h39.size := Nat.le_trans z35 E39.1
 have K51 : Keep h0 h39 ([] : List Addr) := K36.ext E39
 have F39_elements : Fld Z h39 b39 s_16 s_20 s_3 .null := D39 (Or.inr (hW hw 310 rfl)) (ty := (.array (.object s_0))) (by decide)
 have F39_allowNulls : Fld Z h39 b39 s_16 s_29 "Z" (.int (0 : Int32)) := D39 (Or.inr (hW hw 513 rfl)) (ty := .boolean) (by decide)
 refine gob st39 ?_
 replace X39 := castX X39 (rfl : _ = 2) (rfl : _ = 5)
 show gO (tF T39 m 32 #[.val (.ref o0), .val (.ref b2), .val (.int 3)] [(.ref b39)])
 refine go (XS.dup X39.here hx rfl (D 20) rfl rfl) ?_
 refine gaN X39 hx (D 21) rfl rfl ?_
 refine giC X39 hx (D 22) ?_
 obtain ⟨_, T52, Lc52, X52, hQ52, st52⟩ := clB X39 (X39.specialBackNest hx (y := M_17) rfl hown (mvMN hZ (u 504)) (mvT hZ (u 505)) (mvT hZ (u 507)) (by decide) (backOf (W := 1) (rm64 l Z a0 hw [] b39 b2 (0 : Int32) h39 n0 z50 A39 F39_elements g49 F39_allowNulls) hZ (u 507) (u 307) (by decide) (by decide)) (g := (mkF m 35 #[.val (.ref o0), .val (.ref b2), .val (.int 3)] [(.int 0), (.ref b2), (.ref b39), (.ref b39)])) rfl (by rw [hml]; rfl) (Steps.refl _) (a := b39) (argsL := [(.ref b2), (.int 0)]) (rest := [(.ref b39)]) (lenOf pd_15 rfl) rfl (wk rfl rfl) (D 23) (fun _ _ => ⟨rfl, e39, lD rfl, lD rfl⟩)) (k := 2) (n := 5) rfl rfl
 obtain ⟨rfl, Nq52, K52, F53, F54⟩ := hQ52
 have N52 := Fr.app N34 Nq52
 have K56 : Keep h0 T52.heap ([] : List Addr) := K51.trans K52 (allS (Or.inr sz_b39) all0)
 refine gob (fun _ k => st52.trans k) ?_
 refine goA X52 hx hlk Bd.returns rfl rfl (D 24) ?_ (by decide) (by decide)
 show Q63_3r Z o0 k_a v_0 v_1 v_2 h0 n0 (some (.ref b39)) T52.heap _
 have c57 := ((c47.ext E39).keep K52)
 have c58 := ((V34.ext E39).keep K52 (ninS n48 nin0))
 have c59 := (A39.keep K52)
 exact ⟨b2, b39, k2, rfl, N52, K56, sz_b2, sz_b39, n48, c57, c58, c59, F53, F54, O2⟩
def Q23_3r (Z : State) (o0 : Addr) (k_a : ClassId) (v_0 : Addr) (v_1 : Addr) (v_2 : Addr) (h0 : Heap) (n0 : Nat) (v : Option Value) (h : Heap) (L : List Loc) : Prop := ∃ b3 : Addr, ∃ b4 : Addr, ∃ k5 : ClassId, v = some (.ref b4) ∧ Fr n0 L ∧ Keep h0 h ([] : List Addr) ∧ h0.size ≤ b3 ∧ h0.size ≤ b4 ∧ b3 ≠ b4 ∧ Exa Z h b3 s_3 ∧ Arv Z h b3 k5 (.object s_0) (3 : Int32) [(.ref v_0), (.ref v_1), (.ref v_2)] .null ∧ Exa Z h b4 s_16 ∧ Fld Z h b4 s_16 s_20 s_3 (.ref b3) ∧ Fld Z h b4 s_16 s_29 "Z" (.int ((0 : Int32) &&& 1)) ∧ Ovr Z k5 s_0
set_option maxRecDepth 65536 in
set_option maxHeartbeats 40000000 in
theorem rm23_3r (o0 : Addr) (k_a : ClassId) (v_0 : Addr) (v_1 : Addr) (v_2 : Addr) (h0 : Heap) (n0 : Nat) (Z0 : n0 ≤ h0.size) (V_a : Arv Z h0 o0 k_a (.object s_0) (3 : Int32) [(.ref v_0), (.ref v_1), (.ref v_2)] .null) (E_v0 : Exa Z h0 v_0 s_4) (E_v1 : Exa Z h0 v_1 s_4) (E_v2 : Exa Z h0 v_2 s_4) :
  Mt hw l M_41 (Jvm.Cond.code M_41 c_23 2 (some (.object s_2))) ws R_6_2_5_77 #[(.ref o0)] h0 (Q23_3r Z o0 k_a v_0 v_1 v_2 h0 n0) := by
 refine ent s_2 rfl hisR fun p e s m below meth c s₁ Bd hx hby hml hown hnm hlk hZ X0 e0 => ?_
 have D := fun i => hb hby (q_23 i)
 have u := hU hw
 have N0 := Fr.nil n0
 rw [ef_16_0]
 show gO (tF s₁ m 0 #[.val (.ref o0), .unset] [])
 refine gaN X0 hx (D 0) rfl rfl ?_
 obtain ⟨cl1, Ar1, aq1, S1, N1, H1, G1⟩ := id V_a
 refine gob (X0.arraylength hx (by rw [e0]; exact Ar1.1) (State.isArrayOf_alike hZ.alike Ar1.2.1) (g := (mkF m 1 #[.val (.ref o0), .unset] [(.ref o0)])) rfl rfl (D 1)) ?_
 rw [len_of S1 N1]
 show gO (tF s₁ m 2 #[.val (.ref o0), .unset] [(.int 3)])
 refine gob (fun _ k => (XS.tswOut X0.here hx rfl (pc0 := 2) (pc' := 59) (dflt := 57) (low := 0) (high := 2) (offs := #[26, 32, 43]) (len := 26) (i := 3) (rest := []) (g := (mkF m 2 #[.val (.ref o0), .unset] [(.int 3)])) rfl (D 2) rfl (by decide) (by decide) (by decide) k)) ?_
 refine gaN X0 hx (D 20) rfl rfl ?_
 obtain ⟨_, T2, Lc2, X2, hQ2, st2⟩ := clS X0 (Jvm.LawKit.callS X0 hx (y := M_43) hown (mvT hZ (u 498)) (mvT hZ (u 499)) (mvT hZ (u 91)) (mvT hZ (u 500)) (by decide) (backOf (W := 0) (rm63_3r l Z a0 hw [] o0 k_a v_0 v_1 v_2 h0 n0 Z0 V_a E_v0 E_v1 E_v2) hZ (u 500) (u 91) (by decide) (by decide)) (g := (mkF m 60 #[.val (.ref o0), .unset] [(.ref o0)])) rfl (by rw [hml]; rfl) (argsL := [(.ref o0)]) (rest := []) (lenOf pd_13 rfl) rfl (wk rfl rfl) (D 21) (fun _ _ => ⟨rfl, e0, lD rfl, lD rfl⟩)) (k := 2) (n := 5) rfl rfl
 obtain ⟨b3, b4, k5, rfl, Nq2, K2, hz6, hz7, hn8, F9, F10, F11, F12, F13, hi14⟩ := hQ2
 have N2 := Fr.app N0 Nq2
 have sz_b3 : h0.size ≤ b3 := Nat.le_trans (Keep.refl h0 []).1 hz6
 have sz_b4 : h0.size ≤ b4 := Nat.le_trans (Keep.refl h0 []).1 hz7
 have K27 : Keep h0 T2.heap ([] : List Addr) := (Keep.refl h0 ([] : List Addr)).trans K2 all0
 refine gob st2 ?_
 refine goA X2 hx hlk Bd.returns rfl rfl (D 22) ?_ (by decide) (by decide)
 show Q23_3r Z o0 k_a v_0 v_1 v_2 h0 n0 (some (.ref b4)) T2.heap _
 exact ⟨b3, b4, k5, rfl, N2, K27, sz_b3, sz_b4, hn8, F9, F10, F11, F12, F13, hi14⟩
def Q16_3r (Z : State) (o0 : Addr) (w_e : Addr) (k_e : ClassId) (v_0 : Addr) (v_1 : Addr) (v_2 : Addr) (mr_ : Addr) (h0 : Heap) (n0 : Nat) (v : Option Value) (h : Heap) (L : List Loc) : Prop := ∃ b5 : Addr, ∃ b24 : Addr, ∃ b25 : Addr, ∃ k6 : ClassId, ∃ k26 : ClassId, v = some (.ref b25) ∧ Fr n0 L ∧ Keep h0 h ([] : List Addr) ∧ h0.size ≤ b5 ∧ h0.size ≤ b24 ∧ h0.size ≤ b25 ∧ b5 ≠ b24 ∧ b5 ≠ b25 ∧ b24 ≠ b25 ∧ Exa Z h b5 s_3 ∧ Arv Z h b5 k6 (.object s_0) (3 : Int32) [(.ref v_0), (.ref v_1), (.ref v_2)] .null ∧ Exa Z h b24 s_3 ∧ Arv Z h b24 k26 (.object s_0) (3 : Int32) [(.ref v_0), (.ref v_1), (.ref v_2)] .null ∧ Exa Z h b25 s_16 ∧ Fld Z h b25 s_16 s_20 s_3 (.ref b24) ∧ Fld Z h b25 s_16 s_29 "Z" (.int ((0 : Int32) &&& 1)) ∧ Ovr Z k6 s_0 ∧ Ovr Z k26 s_0
set_option maxRecDepth 65536 in
set_option maxHeartbeats 40000000 in
theorem rm16_3r (o0 : Addr) (w_e : Addr) (k_e : ClassId) (v_0 : Addr) (v_1 : Addr) (v_2 : Addr) (mr_ : Addr) (h0 : Heap) (n0 : Nat) (Z0 : n0 ≤ h0.size) (E_o0 : Exa Z h0 o0 s_1) (F_size : Fld Z h0 o0 s_1 "size" "I" (.int 3)) (F_elementData : Fld Z h0 o0 s_1 s_8 s_3 (.ref w_e)) (V_e : Arv Z h0 w_e k_e (.object s_0) (10 : Int32) [(.ref v_0), (.ref v_1), (.ref v_2), .null, .null, .null, .null, .null, .null, .null] .null) (E_e : Exa Z h0 w_e s_3) (E_v0 : Exa Z h0 v_0 s_4) (E_v1 : Exa Z h0 v_1 s_4) (E_v2 : Exa Z h0 v_2 s_4) (MM : Mir Z mr_) :
  Mt hw l M_34 (Jvm.Cond.code M_34 c_16 2 (some (.object s_2))) ws R_7_3_8_90 #[(.ref o0)] h0 (Q16_3r Z o0 w_e k_e v_0 v_1 v_2 mr_ h0 n0) := by
 refine ent s_18 rfl hisR fun p e s m below meth c s₁ Bd hx hby hml hown hnm hlk hZ X0 e0 => ?_
 have D := fun i => hb hby (q_16 i)
 have u := hU hw
 have N0 := Fr.nil n0
 rw [ef_16_0]
 show gO (tF s₁ m 0 #[.val (.ref o0), .unset] [])
 refine gaN X0 hx (D 0) rfl rfl ?_
 obtain ⟨T1, X1, e1, st1⟩ := instNo X0 hx hZ hown (u 93) e0 E_o0 (own_noinst (u 94) (u 95) (u 96) (u 97) (u 146) (by decide) (by decide) (by decide) (by decide)) (g := (mkF m 1 #[.val (.ref o0), .unset] [(.ref o0)])) rfl rfl (D 1)
 refine gob st1 ?_
 refine go (XS.ifNo X1.here hx rfl (D 2) rfl ((if0 _ _).trans (teq (by decide : (0 : Int32) = (0 : Int32))).2)) ?_
 refine gaN X1 hx (D 3) rfl rfl ?_
 obtain ⟨T2, X2, e2, st2⟩ := instNo X1 hx hZ hown (u 98) e1 E_o0 (own_noinst (u 94) (u 95) (u 96) (u 97) (u 503) (by decide) (by decide) (by decide) (by decide)) (g := (mkF m 8 #[.val (.ref o0), .unset] [(.ref o0)])) rfl rfl (D 4)
 refine gob st2 ?_
 refine go (XS.ifYes X2.here hx rfl (pc0 := 11) (pc' := 31) rfl (D 5) rfl ((if0 _ _).trans (teq (by decide : (0 : Int32) = (0 : Int32))).1) (by decide) (by decide)) ?_
 refine gaN X2 hx (D 6) rfl rfl ?_
 obtain ⟨cq3, kq3, q3a, q3b, q3c⟩ := isOf hZ e2 E_o0
 obtain ⟨_, T3, Lc3, X3, hQ3, st3⟩ := clB X2 (X2.interfaceBack hx (xi := M_35) (y := M_32) hown (mvT hZ (u 99)) (mvT hZ (u 100)) (mvT hZ (u 101)) (mvT hZ (u 102)) (mvT hZ (u 103)) (mvT hZ (u 104)) (mvT hZ (u 105)) (mvT hZ (u 106)) (by decide) (backOf (W := 0) (rm17_3 l Z a0 hw [] o0 h0 n0 Z0 F_size) hZ (u 107) (u 8) (by decide) (by decide)) q3a q3b q3c (g := (mkF m 32 #[.val (.ref o0), .unset] [(.ref o0)])) rfl (by rw [hml]; rfl) (Steps.refl _) (argsL := []) (rest := []) (lenOf pd_7 rfl) rfl (wk rfl rfl) (D 7) (fun _ _ => ⟨rfl, e2, lD rfl, lD rfl⟩)) (k := 0) (n := 0) rfl rfl
 obtain ⟨rfl, Nq3, e3⟩ := hQ3
 have N3 := Fr.app N0 Nq3
 refine gob (fun _ k => st3.trans k) ?_
 refine go (XS.ifYes X3.here hx rfl (pc0 := 37) (pc' := 44) rfl (D 8) rfl ((if0 _ _).trans (teq (by decide : (0 : Int32) = (0 : Int32))).1) (by decide) (by decide)) ?_
 show gO (tF T3 m 44 #[.val (.ref o0), .unset] [])
 refine gaN X3 hx (D 11) rfl rfl ?_
 obtain ⟨cq4, kq4, q4a, q4b, q4c⟩ := isOf hZ e3 E_o0
 obtain ⟨_, T4, Lc4, X4, hQ4, st4⟩ := clB X3 (X3.interfaceBack hx (xi := M_42) (y := M_40) hown (mvT hZ (u 112)) (mvT hZ (u 113)) (mvT hZ (u 114)) (mvT hZ (u 115)) (mvT hZ (u 116)) (mvT hZ (u 117)) (mvT hZ (u 118)) (mvT hZ (u 106)) (by decide) (backOf (W := 0) (rm19_3r l Z a0 hw [] o0 w_e k_e v_0 v_1 v_2 mr_ h0 n0 Z0 E_o0 F_size F_elementData V_e E_e E_v0 E_v1 E_v2 MM) hZ (u 119) (u 8) (by decide) (by decide)) q4a q4b q4c (g := (mkF m 45 #[.val (.ref o0), .unset] [(.ref o0)])) rfl (by rw [hml]; rfl) (Steps.refl _) (argsL := []) (rest := []) (lenOf pd_5 rfl) rfl (wk rfl rfl) (D 12) (fun _ _ => ⟨rfl, e3, lD rfl, lD rfl⟩)) (k := 1) (n := 3) rfl rfl
 obtain ⟨b5, k6, rfl, Nq4, K4, hz7, F8, F9, hi10⟩ := hQ4
 have N4 := Fr.app N3 Nq4
 have sz_b5 : h0.size ≤ b5 := Nat.le_trans (Keep.refl h0 []).1 hz7
 have z18 : n0 ≤ T4.heap.size := Nat.le_trans Z0 K4.1
 have K19 : Keep h0 T4.heap ([] : List Addr) := (Keep.refl h0 ([] : List Addr)).trans K4 all0
 refine gob (fun _ k => st4.trans k) ?_
 have c21 := (E_v0.keep K4)
 have c22 := (E_v1.keep K4)
 have c23 := (E_v2.keep K4)
 obtain ⟨_, T20, Lc20, X20, hQ20, st20⟩ := clS X4 (Jvm.LawKit.callS X4 hx (y := M_41) hown (mvT hZ (u 142)) (mvT hZ (u 143)) (mvT hZ (u 87)) (mvT hZ (u 144)) (by decide) (backOf (W := 0) (rm23_3r l Z a0 hw [] b5 k6 v_0 v_1 v_2 T4.heap n0 z18 F9 c21 c22 c23) hZ (u 144) (u 87) (by decide) (by decide)) (g := (mkF m 50 #[.val (.ref o0), .unset] [(.ref b5)])) rfl (by rw [hml]; rfl) (argsL := [(.ref b5)]) (rest := []) (lenOf pd_13 rfl) rfl (wk rfl rfl) (D 13) (fun _ _ => ⟨rfl, (rfl : T4.heap = _), lD rfl, lD rfl⟩)) (k := 3) (n := 8) rfl rfl
 obtain ⟨b24, b25, k26, rfl, Nq20, K20, hz27, hz28, hn29, F30, F31, F32, F33, F34, hi35⟩ := hQ20
 have N20 := Fr.app N4 Nq20
 have n43 : b5 ≠ b24 := nlt F8.lt hz27
 have sz_b24 : h0.size ≤ b24 := Nat.le_trans K19.1 hz27
 have n50 : b5 ≠ b25 := nlt F8.lt hz28
 have sz_b25 : h0.size ≤ b25 := Nat.le_trans K19.1 hz28
 have K54 : Keep h0 T20.heap ([] : List Addr) := K19.trans K20 all0
 refine gob st20 ?_
 refine goA X20 hx hlk Bd.returns rfl rfl (D 14) ?_ (by decide) (by decide)
 show Q16_3r Z o0 w_e k_e v_0 v_1 v_2 mr_ h0 n0 (some (.ref b25)) T20.heap _
 have c55 := (F8.keep K20)
 have c56 := (F9.keep K20 nin0)
 exact ⟨b5, b24, b25, k6, k26, rfl, N20, K54, sz_b5, sz_b24, sz_b25, n43, n50, hn29, c55, c56, F30, F31, F32, F33, F34, hi10, hi35⟩
theorem ef_22_4r (m : MethodId)  : entryFrame m #[(.int 10), (.int 4)] 2 = mkF m 0 #[.val (.int 10), .val (.int 4)] [] := by first | (simp [entryFrame, mkF, argsToLocals, Value.category]; done) | rfl
def Q22_4r (Z : State)  (h0 : Heap) (n0 : Nat) (v : Option Value) (h : Heap) (L : List Loc) : Prop := v = some (.int (4 : Int32)) ∧ Fr n0 L ∧ h = h0
set_option maxRecDepth 65536 in
set_option maxHeartbeats 40000000 in
theorem rm22_4r  (h0 : Heap) (n0 : Nat) (Z0 : n0 ≤ h0.size) :
  Mt hw l M_37 (Jvm.Cond.code M_37 c_22 2 (some .int)) ws R_0_0_0_0 #[(.int 10), (.int 4)] h0 (Q22_4r Z  h0 n0) := by
 refine ent s_34 rfl (hx := (Jvm.Free.JP.mathPlain rfl (by decide +kernel))) hisR fun p e s m below meth c s₁ Bd hx hby hml hown hnm hlk hZ X0 e0 => ?_
 have D := fun i => hb hby (q_22 i)
 have u := hU hw
 have N0 := Fr.nil n0
 rw [ef_22_4r]
 show gO (tF s₁ m 0 #[.val (.int 10), .val (.int 4)] [])
 refine giN X0 hx (D 0) rfl ?_
 refine giN X0 hx (D 1) rfl ?_
 refine go (XS.icmpYes X0.here hx rfl (pc0 := 2) (pc' := 9) rfl (D 2) rfl (tlt (by decide : (4 : Int32) < (10 : Int32))).2.2.1 (by decide) (by decide)) ?_
 refine giN X0 hx (D 3) rfl ?_
 refine goI X0 hx hlk Bd.returns (D 4) ?_ (by decide) (by decide)
 show Q22_4r Z  h0 n0 (some (.int (4 : Int32))) s₁.heap _
 exact ⟨rfl, N0, e0⟩
theorem ef_21_4r (m : MethodId) (x0 : Addr) (x2 : Addr) : entryFrame m #[(.ref x0), (.int 4), (.ref x2)] 4 = mkF m 0 #[.val (.ref x0), .val (.int 4), .val (.ref x2), .unset] [] := by first | (simp [entryFrame, mkF, argsToLocals, Value.category]; done) | rfl
def Q21_4r (Z : State) (o0 : Addr) (mr_ : Addr) (k_e : ClassId) (v_0 : Addr) (v_1 : Addr) (v_2 : Addr) (v_3 : Addr) (h0 : Heap) (n0 : Nat) (v : Option Value) (h : Heap) (L : List Loc) : Prop := ∃ b2 : Addr, ∃ k2 : ClassId, v = some (.ref b2) ∧ Fr n0 L ∧ Keep h0 h ([] : List Addr) ∧ h0.size ≤ b2 ∧ Exa Z h b2 s_3 ∧ Arv Z h b2 k2 (.object s_0) (4 : Int32) [(.ref v_0), (.ref v_1), (.ref v_2), (.ref v_3)] .null ∧ Ovr Z k2 s_0
set_option maxRecDepth 65536 in
set_option maxHeartbeats 40000000 in
theorem rm21_4r (o0 : Addr) (mr_ : Addr) (k_e : ClassId) (v_0 : Addr) (v_1 : Addr) (v_2 : Addr) (v_3 : Addr) (h0 : Heap) (n0 : Nat) (Z0 : n0 ≤ h0.size) (V_e : Arv Z h0 o0 k_e (.object s_0) (10 : Int32) [(.ref v_0), (.ref v_1), (.ref v_2), (.ref v_3), .null, .null, .null, .null, .null, .null] .null) (E_e : Exa Z h0 o0 s_3) (E_v0 : Exa Z h0 v_0 s_4) (E_v1 : Exa Z h0 v_1 s_4) (E_v2 : Exa Z h0 v_2 s_4) (E_v3 : Exa Z h0 v_3 s_4) (MM : Mir Z mr_) :
  Mt hw l M_38 (Jvm.Cond.code M_38 c_21 4 (some (.array (.object s_0)))) ws R_1_1_4_18 #[(.ref o0), (.int 4), (.ref mr_)] h0 (Q21_4r Z o0 mr_ k_e v_0 v_1 v_2 v_3 h0 n0) := by
 refine ent s_30 rfl hisR fun p e s m below meth c s₁ Bd hx hby hml hown hnm hlk hZ X0 e0 => ?_
 have D := fun i => hb hby (q_21 i)
 have u := hU hw
 have N0 := Fr.nil n0
 rw [ef_21_4r]
 show gO (tF s₁ m 0 #[.val (.ref o0), .val (.int 4), .val (.ref mr_), .unset] [])
 refine gaN X0 hx (D 0) rfl rfl ?_
 obtain ⟨cm, km, m1, m2, m3⟩ := own_mir hZ MM
 obtain ⟨vm1, X1, st1⟩ := X0.ldcMirror hx hown (mvT hZ (u 133)) (own_mirev m1 m2 m3) (g := (mkF m 1 #[.val (.ref o0), .val (.int 4), .val (.ref mr_), .unset] [(.ref mr_)])) rfl (D 1)
 have e1 : (s₁.setVm vm1).heap = h0 := e0
 refine gob st1 ?_
 refine gob (fun _ k => Jvm.RoadKit.acmp (g := (mkF m 3 #[.val (.ref o0), .val (.int 4), .val (.ref mr_), .unset] [(.ref mr_), (.ref mr_)])) X1 hx rfl rfl rfl (pc0 := 3) (pc' := 6) (same := true) rfl (D 2) rfl (decide_eq_true rfl) (by decide) (by decide) k) ?_
 show gO (tF (s₁.setVm vm1) m 6 #[.val (.ref o0), .val (.int 4), .val (.ref mr_), .unset] [])
 refine giN X1 hx (D 3) rfl ?_
 obtain ⟨T2, h2, k2, X2, e2, E2, A2, B2, O2, st2⟩ := newRE X1 hx hZ hown (u 134) (u 74) e1 (g := (mkF m 7 #[.val (.ref o0), .val (.int 4), .val (.ref mr_), .unset] [(.int 4)])) rfl (D 4) rfl (by decide) (cap := 4) (by decide) (by decide) (by decide) (by decide) (ad := s_3) (by first | rfl | decide +kernel)
 obtain ⟨b2, g2⟩ : ∃ z, z = h0.size := ⟨_, rfl⟩
 rw [← g2] at A2 B2 st2
 have g8 : n0 ≤ b2 := Nat.le_trans Z0 (Nat.le_of_eq g2.symm)
 have sz_b2 : h0.size ≤ b2 := Nat.le_trans (Keep.refl h0 []).1 (Nat.le_of_eq g2.symm)
 have z9 : n0 ≤ h2.size := Nat.le_trans Z0 E2.1
 have K10 : Keep h0 h2 ([] : List Addr) := (Keep.refl h0 ([] : List Addr)).ext E2
 have V2 : Arv Z h2 b2 k2 (.object s_0) (4 : Int32) [.null, .null, .null, .null] .null := (Arv.new A2 (by decide)).pad (pad_rep [] .null 4)
 refine gob st2 ?_
 replace X2 := castX X2 (rfl : _ = 1) (rfl : _ = 4)
 show gO (tF T2 m 10 #[.val (.ref o0), .val (.int 4), .val (.ref mr_), .unset] [(.ref b2)])
 refine go (XS.goto X2.here hx rfl (pc0 := 10) (pc' := 24) rfl (D 5) (by decide) (by decide)) ?_
 refine go (XS.astoreN X2.here hx rfl (D 6) rfl rfl (l' := #[.val (.ref o0), .val (.int 4), .val (.ref mr_), .val (.ref b2)]) rfl) ?_
 refine gaN X2 hx (D 7) rfl rfl ?_
 refine giC X2 hx (D 8) ?_
 refine gaN X2 hx (D 9) rfl rfl ?_
 refine giC X2 hx (D 10) ?_
 refine gaN X2 hx (D 11) rfl rfl ?_
 have c12 := (V_e.ext E2)
 obtain ⟨cl11, Ar11, aq11, S11, N11, H11, G11⟩ := id c12
 refine gob (X2.arraylength hx (by rw [e2]; exact Ar11.1) (State.isArrayOf_alike hZ.alike Ar11.2.1) (g := (mkF m 30 #[.val (.ref o0), .val (.int 4), .val (.ref mr_), .val (.ref b2)] [(.ref o0), (.int 0), (.ref b2), (.int 0), (.ref o0)])) rfl rfl (D 12)) ?_
 rw [len_of S11 N11]
 show gO (tF T2 m 31 #[.val (.ref o0), .val (.int 4), .val (.ref mr_), .val (.ref b2)] [(.int 10), (.int 0), (.ref b2), (.int 0), (.ref o0)])
 refine giN X2 hx (D 13) rfl ?_
 obtain ⟨_, T13, Lc13, X13, hQ13, st13⟩ := clS X2 (Jvm.LawKit.callS X2 hx (y := M_37) hown (mvT hZ (u 135)) (mvT hZ (u 136)) (mvT hZ (u 71)) (mvT hZ (u 137)) (by decide) (backOf (W := 4) (rm22_4r l Z a0 hw []  h2 n0 z9 ) hZ (u 137) (u 71) (by decide) (by decide)) (g := (mkF m 32 #[.val (.ref o0), .val (.int 4), .val (.ref mr_), .val (.ref b2)] [(.int 4), (.int 10), (.int 0), (.ref b2), (.int 0), (.ref o0)])) rfl (by rw [hml]; rfl) (argsL := [(.int 10), (.int 4)]) (rest := [(.int 0), (.ref b2), (.int 0), (.ref o0)]) (lenOf pd_3 rfl) rfl (wk rfl rfl) (D 14) (fun _ _ => ⟨rfl, e2, lD rfl, lD rfl⟩)) (k := 1) (n := 4) rfl rfl
 obtain ⟨rfl, Nq13, e13⟩ := hQ13
 have N13 := Fr.app N0 Nq13
 refine gob st13 ?_
 obtain ⟨cl14, Ar14, aq14, S14, N14, H14, G14⟩ := id V2
 have c15 := (E_v3.ext E2)
 have c16 := (E_v2.ext E2)
 have c17 := (E_v1.ext E2)
 have c18 := (E_v0.ext E2)
 obtain ⟨T19, h19, L19, X19, e19, N19, K19, A19, st19⟩ := cpA X13 hx hZ hown (u 138) (u 141) (u 139) (u 140) e13 c12 V2 (Or.inr ⟨rfl, rfl, ⟨Sto.ofV Ar14 aq14 O2 (Ins.of_exa c18 (u 75)), ⟨Sto.ofV Ar14 aq14 O2 (Ins.of_exa c17 (u 75)), ⟨Sto.ofV Ar14 aq14 O2 (Ins.of_exa c16 (u 75)), ⟨Sto.ofV Ar14 aq14 O2 (Ins.of_exa c15 (u 75)), trivial⟩⟩⟩⟩⟩) (sp := (0 : Int32)) (dp := (0 : Int32)) (nn := (4 : Int32)) (us := [(.ref v_0), (.ref v_1), (.ref v_2), (.ref v_3)]) (by decide) (by decide) (by decide) (by decide) (by decide) rfl (Nat.le_of_ble_eq_true rfl) N13 g8 (g := (mkF m 35 #[.val (.ref o0), .val (.int 4), .val (.ref mr_), .val (.ref b2)] [(.int 4), (.int 0), (.ref b2), (.int 0), (.ref o0)])) rfl (by rw [hml]; rfl) rfl (D 15) (by decide) (W := 0) (wk rfl rfl) (by decide)
 have K21 : Keep h0 h19 ([] : List Addr) := K10.trans K19 (allS (Or.inr sz_b2) all0)
 have V19 : Arv Z h19 b2 k2 (.object s_0) (4 : Int32) [(.ref v_0), (.ref v_1), (.ref v_2), (.ref v_3)] .null := A19
 refine gob st19 ?_
 refine gaN X19 hx (D 16) rfl rfl ?_
 refine goA X19 hx hlk Bd.returns rfl rfl (D 17) ?_ (by decide) (by decide)
 show Q21_4r Z o0 mr_ k_e v_0 v_1 v_2 v_3 h0 n0 (some (.ref b2)) T19.heap _
 have c22 := (B2.keep K19)
 rw [e19]
 exact ⟨b2, k2, rfl, N19, K21, sz_b2, c22, V19, O2⟩
theorem ef_20_4r (m : MethodId) (x0 : Addr) : entryFrame m #[(.ref x0), (.int 4)] 2 = mkF m 0 #[.val (.ref x0), .val (.int 4)] [] := by first | (simp [entryFrame, mkF, argsToLocals, Value.category]; done) | rfl
def Q20_4r (Z : State) (o0 : Addr) (k_e : ClassId) (v_0 : Addr) (v_1 : Addr) (v_2 : Addr) (v_3 : Addr) (mr_ : Addr) (h0 : Heap) (n0 : Nat) (v : Option Value) (h : Heap) (L : List Loc) : Prop := ∃ b3 : Addr, ∃ k4 : ClassId, v = some (.ref b3) ∧ Fr n0 L ∧ Keep h0 h ([] : List Addr) ∧ h0.size ≤ b3 ∧ Exa Z h b3 s_3 ∧ Arv Z h b3 k4 (.object s_0) (4 : Int32) [(.ref v_0), (.ref v_1), (.ref v_2), (.ref v_3)] .null ∧ Ovr Z k4 s_0
set_option maxRecDepth 65536 in
set_option maxHeartbeats 40000000 in
theorem rm20_4r (o0 : Addr) (k_e : ClassId) (v_0 : Addr) (v_1 : Addr) (v_2 : Addr) (v_3 : Addr) (mr_ : Addr) (h0 : Heap) (n0 : Nat) (Z0 : n0 ≤ h0.size) (V_e : Arv Z h0 o0 k_e (.object s_0) (10 : Int32) [(.ref v_0), (.ref v_1), (.ref v_2), (.ref v_3), .null, .null, .null, .null, .null, .null] .null) (E_e : Exa Z h0 o0 s_3) (E_v0 : Exa Z h0 v_0 s_4) (E_v1 : Exa Z h0 v_1 s_4) (E_v2 : Exa Z h0 v_2 s_4) (E_v3 : Exa Z h0 v_3 s_4) (MM : Mir Z mr_) :
  Mt hw l M_39 (Jvm.Cond.code M_39 c_20 2 (some (.array (.object s_0)))) ws R_2_1_4_33 #[(.ref o0), (.int 4)] h0 (Q20_4r Z o0 k_e v_0 v_1 v_2 v_3 mr_ h0 n0) := by
 refine ent s_30 rfl hisR fun p e s m below meth c s₁ Bd hx hby hml hown hnm hlk hZ X0 e0 => ?_
 have D := fun i => hb hby (q_20 i)
 have u := hU hw
 have N0 := Fr.nil n0
 rw [ef_20_4r]
 show gO (tF s₁ m 0 #[.val (.ref o0), .val (.int 4)] [])
 refine gaN X0 hx (D 0) rfl rfl ?_
 refine giN X0 hx (D 1) rfl ?_
 refine gaN X0 hx (D 2) rfl rfl ?_
 obtain ⟨cm, km, m1, m2, m3⟩ := own_mir hZ MM
 obtain ⟨cq1, kq1, q1a, q1b, q1c⟩ := isOf hZ e0 E_e
 cases m1.symm.trans q1a
 obtain ⟨vm1, X1, st1⟩ := X0.getClassOf hx hown (mvT hZ (u 124)) (mvT hZ (u 125)) (notFace_of_selects (args := #[]) (mvT hZ (u 127))) (mvT hZ (u 127)) (mvT hZ (u 126)) (mvT hZ (u 128)) q1a q1c m2 m3 (g := (mkF m 3 #[.val (.ref o0), .val (.int 4)] [(.ref o0), (.int 4), (.ref o0)])) rfl (by rw [hml]; rfl) (rest := [(.int 4), (.ref o0)]) rfl (D 3) (Nat.le_of_ble_eq_true rfl) (Nat.le_of_ble_eq_true rfl)
 have e1 : (s₁.setVm vm1).heap = h0 := e0
 refine gob st1 ?_
 obtain ⟨_, T2, Lc2, X2, hQ2, st2⟩ := clS X1 (Jvm.LawKit.callS X1 hx (y := M_38) hown (mvT hZ (u 130)) (mvT hZ (u 131)) (mvT hZ (u 122)) (mvT hZ (u 132)) (by decide) (backOf (W := 0) (rm21_4r l Z a0 hw [] o0 mr_ k_e v_0 v_1 v_2 v_3 h0 n0 Z0 V_e E_e E_v0 E_v1 E_v2 E_v3 MM) hZ (u 132) (u 122) (by decide) (by decide)) (g := (mkF m 6 #[.val (.ref o0), .val (.int 4)] [(.ref mr_), (.int 4), (.ref o0)])) rfl (by rw [hml]; rfl) (argsL := [(.ref o0), (.int 4), (.ref mr_)]) (rest := []) (lenOf pd_10 rfl) rfl (wk rfl rfl) (D 4) (fun _ _ => ⟨rfl, e1, lD rfl, lD rfl⟩)) (k := 1) (n := 4) rfl rfl
 obtain ⟨b3, k4, rfl, Nq2, K2, hz5, F6, F7, hi8⟩ := hQ2
 have N2 := Fr.app N0 Nq2
 have sz_b3 : h0.size ≤ b3 := Nat.le_trans (Keep.refl h0 []).1 hz5
 have K16 : Keep h0 T2.heap ([] : List Addr) := (Keep.refl h0 ([] : List Addr)).trans K2 all0
 refine gob st2 ?_
 refine goA X2 hx hlk Bd.returns rfl rfl (D 5) ?_ (by decide) (by decide)
 show Q20_4r Z o0 k_e v_0 v_1 v_2 v_3 mr_ h0 n0 (some (.ref b3)) T2.heap _
 exact ⟨b3, k4, rfl, N2, K16, sz_b3, F6, F7, hi8⟩
def Q19_4r (Z : State) (o0 : Addr) (w_e : Addr) (k_e : ClassId) (v_0 : Addr) (v_1 : Addr) (v_2 : Addr) (v_3 : Addr) (mr_ : Addr) (h0 : Heap) (n0 : Nat) (v : Option Value) (h : Heap) (L : List Loc) : Prop := ∃ b4 : Addr, ∃ k5 : ClassId, v = some (.ref b4) ∧ Fr n0 L ∧ Keep h0 h ([] : List Addr) ∧ h0.size ≤ b4 ∧ Exa Z h b4 s_3 ∧ Arv Z h b4 k5 (.object s_0) (4 : Int32) [(.ref v_0), (.ref v_1), (.ref v_2), (.ref v_3)] .null ∧ Ovr Z k5 s_0
set_option maxRecDepth 65536 in
set_option maxHeartbeats 40000000 in
theorem rm19_4r (o0 : Addr) (w_e : Addr) (k_e : ClassId) (v_0 : Addr) (v_1 : Addr) (v_2 : Addr) (v_3 : Addr) (mr_ : Addr) (h0 : Heap) (n0 : Nat) (Z0 : n0 ≤ h0.size) (E_o0 : Exa Z h0 o0 s_1) (F_size : Fld Z h0 o0 s_1 "size" "I" (.int 4)) (F_elementData : Fld Z h0 o0 s_1 s_8 s_3 (.ref w_e)) (V_e : Arv Z h0 w_e k_e (.object s_0) (10 : Int32) [(.ref v_0), (.ref v_1), (.ref v_2), (.ref v_3), .null, .null, .null, .null, .null, .null] .null) (E_e : Exa Z h0 w_e s_3) (E_v0 : Exa Z h0 v_0 s_4) (E_v1 : Exa Z h0 v_1 s_4) (E_v2 : Exa Z h0 v_2 s_4) (E_v3 : Exa Z h0 v_3 s_4) (MM : Mir Z mr_) :
  Mt hw l M_40 (Jvm.Cond.code M_40 c_19 1 (some (.array (.object s_0)))) ws R_3_1_4_46 #[(.ref o0)] h0 (Q19_4r Z o0 w_e k_e v_0 v_1 v_2 v_3 mr_ h0 n0) := by
 refine ent s_1 rfl hisR fun p e s m below meth c s₁ Bd hx hby hml hown hnm hlk hZ X0 e0 => ?_
 have D := fun i => hb hby (q_19 i)
 have u := hU hw
 have N0 := Fr.nil n0
 rw [ef_4]
 show gO (tF s₁ m 0 #[.val (.ref o0)] [])
 refine gaN X0 hx (D 0) rfl rfl ?_
 obtain ⟨T1, X1, e1, st1⟩ := getF X0 hx hZ hown (host := "") (Or.inl (hW hw 30 rfl)) Via.refl e0 F_elementData (g := (mkF m 1 #[.val (.ref o0)] [(.ref o0)])) rfl rfl (D 1)
 refine gob st1 ?_
 refine gaN X1 hx (D 2) rfl rfl ?_
 obtain ⟨T2, X2, e2, st2⟩ := getF X1 hx hZ hown (host := "") (Or.inl (hW hw 52 rfl)) Via.refl e1 F_size (g := (mkF m 5 #[.val (.ref o0)] [(.ref o0), (.ref w_e)])) rfl rfl (D 3)
 refine gob st2 ?_
 obtain ⟨_, T3, Lc3, X3, hQ3, st3⟩ := clS X2 (Jvm.LawKit.callS X2 hx (y := M_39) hown (mvT hZ (u 120)) (mvT hZ (u 121)) (mvT hZ (u 122)) (mvT hZ (u 123)) (by decide) (backOf (W := 0) (rm20_4r l Z a0 hw [] w_e k_e v_0 v_1 v_2 v_3 mr_ h0 n0 Z0 V_e E_e E_v0 E_v1 E_v2 E_v3 MM) hZ (u 123) (u 122) (by decide) (by decide)) (g := (mkF m 8 #[.val (.ref o0)] [(.int 4), (.ref w_e)])) rfl (by rw [hml]; rfl) (argsL := [(.ref w_e), (.int 4)]) (rest := []) (lenOf pd_11 rfl) rfl (wk rfl rfl) (D 4) (fun _ _ => ⟨rfl, e2, lD rfl, lD rfl⟩)) (k := 1) (n := 4) rfl rfl
 obtain ⟨b4, k5, rfl, Nq3, K3, hz6, F7, F8, hi9⟩ := hQ3
 have N3 := Fr.app N0 Nq3
 have sz_b4 : h0.size ≤ b4 := Nat.le_trans (Keep.refl h0 []).1 hz6
 have K18 : Keep h0 T3.heap ([] : List Addr) := (Keep.refl h0 ([] : List Addr)).trans K3 all0
 refine gob st3 ?_
 refine goA X3 hx hlk Bd.returns rfl rfl (D 5) ?_ (by decide) (by decide)
 show Q19_4r Z o0 w_e k_e v_0 v_1 v_2 v_3 mr_ h0 n0 (some (.ref b4)) T3.heap _
 exact ⟨b4, k5, rfl, N3, K18, sz_b4, F7, F8, hi9⟩
def Q63_4r (Z : State) (o0 : Addr) (k_a : ClassId) (v_0 : Addr) (v_1 : Addr) (v_2 : Addr) (v_3 : Addr) (h0 : Heap) (n0 : Nat) (v : Option Value) (h : Heap) (L : List Loc) : Prop := ∃ b2 : Addr, ∃ b49 : Addr, ∃ k2 : ClassId, v = some (.ref b49) ∧ Fr n0 L ∧ Keep h0 h ([] : List Addr) ∧ h0.size ≤ b2 ∧ h0.size ≤ b49 ∧ b2 ≠ b49 ∧ Exa Z h b2 s_3 ∧ Arv Z h b2 k2 (.object s_0) (4 : Int32) [(.ref v_0), (.ref v_1), (.ref v_2), (.ref v_3)] .null ∧ Exa Z h b49 s_16 ∧ Fld Z h b49 s_16 s_20 s_3 (.ref b2) ∧ Fld Z h b49 s_16 s_29 "Z" (.int ((0 : Int32) &&& 1)) ∧ Ovr Z k2 s_0
set_option maxRecDepth 65536 in
set_option maxHeartbeats 40000000 in
theorem rm63_4r (o0 : Addr) (k_a : ClassId) (v_0 : Addr) (v_1 : Addr) (v_2 : Addr) (v_3 : Addr) (h0 : Heap) (n0 : Nat) (Z0 : n0 ≤ h0.size) (V_a : Arv Z h0 o0 k_a (.object s_0) (4 : Int32) [(.ref v_0), (.ref v_1), (.ref v_2), (.ref v_3)] .null) (E_v0 : Exa Z h0 v_0 s_4) (E_v1 : Exa Z h0 v_1 s_4) (E_v2 : Exa Z h0 v_2 s_4) (E_v3 : Exa Z h0 v_3 s_4) :
  Mt hw l M_43 (Jvm.Cond.code M_43 c_63 3 (some (.object s_2))) ws R_5_2_6_63 #[(.ref o0)] h0 (Q63_4r Z o0 k_a v_0 v_1 v_2 v_3 h0 n0) := by
 refine ent s_18 rfl hisR fun p e s m below meth c s₁ Bd hx hby hml hown hnm hlk hZ X0 e0 => ?_
 have D := fun i => hb hby (q_63 i)
 have u := hU hw
 have N0 := Fr.nil n0
 rw [ef_63_3r]
 show gO (tF s₁ m 0 #[.val (.ref o0), .unset, .unset] [])
 refine gaN X0 hx (D 0) rfl rfl ?_
 obtain ⟨cl1, Ar1, aq1, S1, N1, H1, G1⟩ := id V_a
 refine gob (X0.arraylength hx (by rw [e0]; exact Ar1.1) (State.isArrayOf_alike hZ.alike Ar1.2.1) (g := (mkF m 1 #[.val (.ref o0), .unset, .unset] [(.ref o0)])) rfl rfl (D 1)) ?_
 rw [len_of S1 N1]
 show gO (tF s₁ m 2 #[.val (.ref o0), .unset, .unset] [(.int 4)])
 obtain ⟨T2, h2, k2, X2, e2, E2, A2, B2, O2, st2⟩ := newRE X0 hx hZ hown (u 501) (u 74) e0 (g := (mkF m 2 #[.val (.ref o0), .unset, .unset] [(.int 4)])) rfl (D 2) rfl (by decide) (cap := 4) (by decide) (by decide) (by decide) (by decide) (ad := s_3) (by first | rfl | decide +kernel)
 obtain ⟨b2, g2⟩ : ∃ z, z = h0.size := ⟨_, rfl⟩
 rw [← g2] at A2 B2 st2
 have n3 : o0 ≠ b2 := Nat.ne_of_lt (Nat.lt_of_lt_of_le V_a.lt (Nat.le_of_eq g2.symm))
 have g8 : n0 ≤ b2 := Nat.le_trans Z0 (Nat.le_of_eq g2.symm)
 have sz_b2 : h0.size ≤ b2 := Nat.le_trans (Keep.refl h0 []).1 (Nat.le_of_eq g2.symm)
 have z9 : n0 ≤ h2.size := Nat.le_trans Z0 E2.1
 have K10 : Keep h0 h2 ([] : List Addr) := (Keep.refl h0 ([] : List Addr)).ext E2
 have V2 : Arv Z h2 b2 k2 (.object s_0) (4 : Int32) [.null, .null, .null, .null] .null := (Arv.new A2 (by decide)).pad (pad_rep [] .null 4)
 refine gob st2 ?_
 replace X2 := castX X2 (rfl : _ = 1) (rfl : _ = 4)
 show gO (tF T2 m 5 #[.val (.ref o0), .unset, .unset] [(.ref b2)])
 refine go (XS.astoreN X2.here hx rfl (D 3) rfl rfl (l' := #[.val (.ref o0), .val (.ref b2), .unset]) rfl) ?_
 refine giC X2 hx (D 4) ?_
 refine go (XS.istoreN X2.here hx rfl (D 5) rfl (l' := #[.val (.ref o0), .val (.ref b2), .val (.int 0)]) rfl) ?_
 refine giN X2 hx (D 6) rfl ?_
 refine gaN X2 hx (D 7) rfl rfl ?_
 have c12 := (V_a.ext E2)
 obtain ⟨cl11, Ar11, aq11, S11, N11, H11, G11⟩ := id c12
 refine gob (X2.arraylength hx (by rw [e2]; exact Ar11.1) (State.isArrayOf_alike hZ.alike Ar11.2.1) (g := (mkF m 10 #[.val (.ref o0), .val (.ref b2), .val (.int 0)] [(.ref o0), (.int 0)])) rfl rfl (D 8)) ?_
 rw [len_of S11 N11]
 show gO (tF T2 m 11 #[.val (.ref o0), .val (.ref b2), .val (.int 0)] [(.int 4), (.int 0)])
 refine go (XS.icmpNo X2.here hx rfl (D 9) rfl (tlt (by decide : (0 : Int32) < (4 : Int32))).2.1) ?_
 refine gaN X2 hx (D 10) rfl rfl ?_
 refine giN X2 hx (D 11) rfl ?_
 refine gaN X2 hx (D 12) rfl rfl ?_
 refine giN X2 hx (D 13) rfl ?_
 obtain ⟨cl13, Ar13, aq13, S13, N13, H13, G13⟩ := id c12
 have hin13 : ¬ ((0 : Int32) < 0 ∨ cl13.slots.size ≤ ((0 : Int32)).toNatClampNeg) := inb_of S13 ⟨by decide, by decide⟩
 refine gob (X2.aaload hx (j := (0 : Int32)) (v := (.ref v_0)) (by rw [e2]; exact Ar13.1) (State.isArrayOf_alike hZ.alike Ar13.2.1) rfl Ar13.2.2 hin13 (Has.at H13 hin13 rfl) (g := (mkF m 18 #[.val (.ref o0), .val (.ref b2), .val (.int 0)] [(.int 0), (.ref o0), (.int 0), (.ref b2)])) rfl rfl (D 14)) ?_
 obtain ⟨_, T14, Lc14, X14, hQ14, st14⟩ := clS X2 (Jvm.LawKit.callS X2 hx (y := M_9) hown (mvT hZ (u 502)) (mvT hZ (u 167)) (mvT hZ (u 168)) (mvT hZ (u 169)) (by decide) (backOf (W := 2) (rm27 l Z a0 hw [] v_0 h2 n0 z9 ) hZ (u 169) (u 168) (by decide) (by decide)) (g := (mkF m 19 #[.val (.ref o0), .val (.ref b2), .val (.int 0)] [(.ref v_0), (.int 0), (.ref b2)])) rfl (by rw [hml]; rfl) (argsL := [(.ref v_0)]) (rest := [(.int 0), (.ref b2)]) (lenOf pd_2 rfl) rfl (wk rfl rfl) (D 15) (fun _ _ => ⟨rfl, e2, lD rfl, lD rfl⟩)) (k := 1) (n := 4) rfl rfl
 obtain ⟨rfl, Nq14, e14⟩ := hQ14
 have N14 := Fr.app N0 Nq14
 refine gob st14 ?_
 obtain ⟨cl15, Ar15, aq15, S15, N15, H15, G15⟩ := id V2
 have hin15 : ¬ ((0 : Int32) < 0 ∨ cl15.slots.size ≤ ((0 : Int32)).toNatClampNeg) := inb_of S15 ⟨by decide, by decide⟩
 have c16 := (E_v0.ext E2)
 obtain ⟨T17, h17, X17, e17, W17, st17⟩ := stR X14 hx hZ e14 Ar15 (j := (0 : Int32)) hin15 rfl (Sto.ofV Ar15 aq15 O2 (Ins.of_exa c16 (u 75))) (g := (mkF m 22 #[.val (.ref o0), .val (.ref b2), .val (.int 0)] [(.ref v_0), (.int 0), (.ref b2)])) rfl rfl (D 16)
 refine gob st17 ?_
 have z18 : n0 ≤ h17.size := Nat.le_trans z9 (Keep.of_wr W17).1
 have N17 := Fr.snoc X17 N14 g8
 have K19 : Keep h0 h17 ([] : List Addr) := K10.wr W17 (Or.inr sz_b2)
 have V17 : Arv Z h17 b2 k2 (.object s_0) (4 : Int32) [(.ref v_0), .null, .null, .null] .null := Arv.set Ar15 aq15 S15 N15 H15 G15 rfl W17 0 rfl (Nat.le_of_ble_eq_true rfl)
 show gO (tF T17 m 23 #[.val (.ref o0), .val (.ref b2), .val (.int 0)] [])
 refine go (XS.iinc X17.here hx rfl (D 17) rfl (l' := #[.val (.ref o0), .val (.ref b2), .val (.int 1)]) rfl) ?_
 refine go (XS.goto X17.here hx rfl (pc0 := 26) (pc' := 8) rfl (D 18) (by decide) (by decide)) ?_
 refine giN X17 hx (D 6) rfl ?_
 refine gaN X17 hx (D 7) rfl rfl ?_
 have c21 := (c12.other W17 n3)
 obtain ⟨cl20, Ar20, aq20, S20, N20, H20, G20⟩ := id c21
 refine gob (X17.arraylength hx (by rw [e17]; exact Ar20.1) (State.isArrayOf_alike hZ.alike Ar20.2.1) (g := (mkF m 10 #[.val (.ref o0), .val (.ref b2), .val (.int 1)] [(.ref o0), (.int 1)])) rfl rfl (D 8)) ?_
 rw [len_of S20 N20]
 show gO (tF T17 m 11 #[.val (.ref o0), .val (.ref b2), .val (.int 1)] [(.int 4), (.int 1)])
 refine go (XS.icmpNo X17.here hx rfl (D 9) rfl (tlt (by decide : (1 : Int32) < (4 : Int32))).2.1) ?_
 refine gaN X17 hx (D 10) rfl rfl ?_
 refine giN X17 hx (D 11) rfl ?_
 refine gaN X17 hx (D 12) rfl rfl ?_
 refine giN X17 hx (D 13) rfl ?_
 obtain ⟨cl22, Ar22, aq22, S22, N22, H22, G22⟩ := id c21
 have hin22 : ¬ ((1 : Int32) < 0 ∨ cl22.slots.size ≤ ((1 : Int32)).toNatClampNeg) := inb_of S22 ⟨by decide, by decide⟩
 refine gob (X17.aaload hx (j := (1 : Int32)) (v := (.ref v_1)) (by rw [e17]; exact Ar22.1) (State.isArrayOf_alike hZ.alike Ar22.2.1) rfl Ar22.2.2 hin22 (Has.at H22 hin22 rfl) (g := (mkF m 18 #[.val (.ref o0), .val (.ref b2), .val (.int 1)] [(.int 1), (.ref o0), (.int 1), (.ref b2)])) rfl rfl (D 14)) ?_
 obtain ⟨_, T23, Lc23, X23, hQ23, st23⟩ := clS X17 (Jvm.LawKit.callS X17 hx (y := M_9) hown (mvT hZ (u 502)) (mvT hZ (u 167)) (mvT hZ (u 168)) (mvT hZ (u 169)) (by decide) (backOf (W := 2) (rm27 l Z a0 hw [] v_1 h17 n0 z18 ) hZ (u 169) (u 168) (by decide) (by decide)) (g := (mkF m 19 #[.val (.ref o0), .val (.ref b2), .val (.int 1)] [(.ref v_1), (.int 1), (.ref b2)])) rfl (by rw [hml]; rfl) (argsL := [(.ref v_1)]) (rest := [(.int 1), (.ref b2)]) (lenOf pd_2 rfl) rfl (wk rfl rfl) (D 15) (fun _ _ => ⟨rfl, e17, lD rfl, lD rfl⟩)) (k := 1) (n := 4) rfl rfl
 obtain ⟨rfl, Nq23, e23⟩ := hQ23
 have N23 := Fr.app N17 Nq23
 refine gob st23 ?_
 obtain ⟨cl24, Ar24, aq24, S24, N24, H24, G24⟩ := id V17
 have hin24 : ¬ ((1 : Int32) < 0 ∨ cl24.slots.size ≤ ((1 : Int32)).toNatClampNeg) := inb_of S24 ⟨by decide, by decide⟩
 have c25 := ((E_v1.ext E2).wr W17)
 obtain ⟨T26, h26, X26, e26, W26, st26⟩ := stR X23 hx hZ e23 Ar24 (j := (1 : Int32)) hin24 rfl (Sto.ofV Ar24 aq24 O2 (Ins.of_exa c25 (u 75))) (g := (mkF m 22 #[.val (.ref o0), .val (.ref b2), .val (.int 1)] [(.ref v_1), (.int 1), (.ref b2)])) rfl rfl (D 16)
 refine gob st26 ?_
 have z27 : n0 ≤ h26.size := Nat.le_trans z18 (Keep.of_wr W26).1
 have N26 := Fr.snoc X26 N23 g8
 have K28 : Keep h0 h26 ([] : List Addr) := K19.wr W26 (Or.inr sz_b2)
 have V26 : Arv Z h26 b2 k2 (.object s_0) (4 : Int32) [(.ref v_0), (.ref v_1), .null, .null] .null := Arv.set Ar24 aq24 S24 N24 H24 G24 rfl W26 1 rfl (Nat.le_of_ble_eq_true rfl)
 show gO (tF T26 m 23 #[.val (.ref o0), .val (.ref b2), .val (.int 1)] [])
 refine go (XS.iinc X26.here hx rfl (D 17) rfl (l' := #[.val (.ref o0), .val (.ref b2), .val (.int 2)]) rfl) ?_
 refine go (XS.goto X26.here hx rfl (pc0 := 26) (pc' := 8) rfl (D 18) (by decide) (by decide)) ?_
 refine giN X26 hx (D 6) rfl ?_
 refine gaN X26 hx (D 7) rfl rfl ?_
 have c30 := (c21.other W26 n3)
 obtain ⟨cl29, Ar29, aq29, S29, N29, H29, G29⟩ := id c30
 refine gob (X26.arraylength hx (by rw [e26]; exact Ar29.1) (State.isArrayOf_alike hZ.alike Ar29.2.1) (g := (mkF m 10 #[.val (.ref o0), .val (.ref b2), .val (.int 2)] [(.ref o0), (.int 2)])) rfl rfl (D 8)) ?_
 rw [len_of S29 N29]
 show gO (tF T26 m 11 #[.val (.ref o0), .val (.ref b2), .val (.int 2)] [(.int 4), (.int 2)])
 refine go (XS.icmpNo X26.here hx rfl (D 9) rfl (tlt (by decide : (2 : Int32) < (4 : Int32))).2.1) ?_
 refine gaN X26 hx (D 10) rfl rfl ?_
 refine giN X26 hx (D 11) rfl ?_
 refine gaN X26 hx (D 12) rfl rfl ?_
 refine giN X26 hx (D 13) rfl ?_
 obtain ⟨cl31, Ar31, aq31, S31, N31, H31, G31⟩ := id c30
 have hin31 : ¬ ((2 : Int32) < 0 ∨ cl31.slots.size ≤ ((2 : Int32)).toNatClampNeg) := inb_of S31 ⟨by decide, by decide⟩
 refine gob (X26.aaload hx (j := (2 : Int32)) (v := (.ref v_2)) (by rw [e26]; exact Ar31.1) (State.isArrayOf_alike hZ.alike Ar31.2.1) rfl Ar31.2.2 hin31 (Has.at H31 hin31 rfl) (g := (mkF m 18 #[.val (.ref o0), .val (.ref b2), .val (.int 2)] [(.int 2), (.ref o0), (.int 2), (.ref b2)])) rfl rfl (D 14)) ?_
 obtain ⟨_, T32, Lc32, X32, hQ32, st32⟩ := clS X26 (Jvm.LawKit.callS X26 hx (y := M_9) hown (mvT hZ (u 502)) (mvT hZ (u 167)) (mvT hZ (u 168)) (mvT hZ (u 169)) (by decide) (backOf (W := 2) (rm27 l Z a0 hw [] v_2 h26 n0 z27 ) hZ (u 169) (u 168) (by decide) (by decide)) (g := (mkF m 19 #[.val (.ref o0), .val (.ref b2), .val (.int 2)] [(.ref v_2), (.int 2), (.ref b2)])) rfl (by rw [hml]; rfl) (argsL := [(.ref v_2)]) (rest := [(.int 2), (.ref b2)]) (lenOf pd_2 rfl) rfl (wk rfl rfl) (D 15) (fun _ _ => ⟨rfl, e26, lD rfl, lD rfl⟩)) (k := 1) (n := 4) rfl rfl
 obtain ⟨rfl, Nq32, e32⟩ := hQ32
 have N32 := Fr.app N26 Nq32
 refine gob st32 ?_
 obtain ⟨cl33, Ar33, aq33, S33, N33, H33, G33⟩ := id V26
 have hin33 : ¬ ((2 : Int32) < 0 ∨ cl33.slots.size ≤ ((2 : Int32)).toNatClampNeg) := inb_of S33 ⟨by decide, by decide⟩
 have c34 := (((E_v2.ext E2).wr W17).wr W26)
 obtain ⟨T35, h35, X35, e35, W35, st35⟩ := stR X32 hx hZ e32 Ar33 (j := (2 : Int32)) hin33 rfl (Sto.ofV Ar33 aq33 O2 (Ins.of_exa c34 (u 75))) (g := (mkF m 22 #[.val (.ref o0), .val (.ref b2), .val (.int 2)] [(.ref v_2), (.int 2), (.ref b2)])) rfl rfl (D 16)
 refine gob st35 ?_
 have z36 : n0 ≤ h35.size := Nat.le_trans z27 (Keep.of_wr W35).1
 have N35 := Fr.snoc X35 N32 g8
 have K37 : Keep h0 h35 ([] : List Addr) := K28.wr W35 (Or.inr sz_b2)
 have V35 : Arv Z h35 b2 k2 (.object s_0) (4 : Int32) [(.ref v_0), (.ref v_1), (.ref v_2), .null] .null := Arv.set Ar33 aq33 S33 N33 H33 G33 rfl W35 2 rfl (Nat.le_of_ble_eq_true rfl)
 show gO (tF T35 m 23 #[.val (.ref o0), .val (.ref b2), .val (.int 2)] [])
 refine go (XS.iinc X35.here hx rfl (D 17) rfl (l' := #[.val (.ref o0), .val (.ref b2), .val (.int 3)]) rfl) ?_
 refine go (XS.goto X35.here hx rfl (pc0 := 26) (pc' := 8) rfl (D 18) (by decide) (by decide)) ?_
 refine giN X35 hx (D 6) rfl ?_
 refine gaN X35 hx (D 7) rfl rfl ?_
 have c39 := (c30.other W35 n3)
 obtain ⟨cl38, Ar38, aq38, S38, N38, H38, G38⟩ := id c39
 refine gob (X35.arraylength hx (by rw [e35]; exact Ar38.1) (State.isArrayOf_alike hZ.alike Ar38.2.1) (g := (mkF m 10 #[.val (.ref o0), .val (.ref b2), .val (.int 3)] [(.ref o0), (.int 3)])) rfl rfl (D 8)) ?_
 rw [len_of S38 N38]
 show gO (tF T35 m 11 #[.val (.ref o0), .val (.ref b2), .val (.int 3)] [(.int 4), (.int 3)])
 refine go (XS.icmpNo X35.here hx rfl (D 9) rfl (tlt (by decide : (3 : Int32) < (4 : Int32))).2.1) ?_
 refine gaN X35 hx (D 10) rfl rfl ?_
 refine giN X35 hx (D 11) rfl ?_
 refine gaN X35 hx (D 12) rfl rfl ?_
 refine giN X35 hx (D 13) rfl ?_
 obtain ⟨cl40, Ar40, aq40, S40, N40, H40, G40⟩ := id c39
 have hin40 : ¬ ((3 : Int32) < 0 ∨ cl40.slots.size ≤ ((3 : Int32)).toNatClampNeg) := inb_of S40 ⟨by decide, by decide⟩
 refine gob (X35.aaload hx (j := (3 : Int32)) (v := (.ref v_3)) (by rw [e35]; exact Ar40.1) (State.isArrayOf_alike hZ.alike Ar40.2.1) rfl Ar40.2.2 hin40 (Has.at H40 hin40 rfl) (g := (mkF m 18 #[.val (.ref o0), .val (.ref b2), .val (.int 3)] [(.int 3), (.ref o0), (.int 3), (.ref b2)])) rfl rfl (D 14)) ?_
 obtain ⟨_, T41, Lc41, X41, hQ41, st41⟩ := clS X35 (Jvm.LawKit.callS X35 hx (y := M_9) hown (mvT hZ (u 502)) (mvT hZ (u 167)) (mvT hZ (u 168)) (mvT hZ (u 169)) (by decide) (backOf (W := 2) (rm27 l Z a0 hw [] v_3 h35 n0 z36 ) hZ (u 169) (u 168) (by decide) (by decide)) (g := (mkF m 19 #[.val (.ref o0), .val (.ref b2), .val (.int 3)] [(.ref v_3), (.int 3), (.ref b2)])) rfl (by rw [hml]; rfl) (argsL := [(.ref v_3)]) (rest := [(.int 3), (.ref b2)]) (lenOf pd_2 rfl) rfl (wk rfl rfl) (D 15) (fun _ _ => ⟨rfl, e35, lD rfl, lD rfl⟩)) (k := 1) (n := 4) rfl rfl
 obtain ⟨rfl, Nq41, e41⟩ := hQ41
 have N41 := Fr.app N35 Nq41
 refine gob st41 ?_
 obtain ⟨cl42, Ar42, aq42, S42, N42, H42, G42⟩ := id V35
 have hin42 : ¬ ((3 : Int32) < 0 ∨ cl42.slots.size ≤ ((3 : Int32)).toNatClampNeg) := inb_of S42 ⟨by decide, by decide⟩
 have c43 := ((((E_v3.ext E2).wr W17).wr W26).wr W35)
 obtain ⟨T44, h44, X44, e44, W44, st44⟩ := stR X41 hx hZ e41 Ar42 (j := (3 : Int32)) hin42 rfl (Sto.ofV Ar42 aq42 O2 (Ins.of_exa c43 (u 75))) (g := (mkF m 22 #[.val (.ref o0), .val (.ref b2), .val (.int 3)] [(.ref v_3), (.int 3), (.ref b2)])) rfl rfl (D 16)
 refine gob st44 ?_
 have z45 : n0 ≤ h44.size := Nat.le_trans z36 (Keep.of_wr W44).1
 have N44 := Fr.snoc X44 N41 g8
 have K46 : Keep h0 h44 ([] : List Addr) := K37.wr W44 (Or.inr sz_b2)
 have V44 : Arv Z h44 b2 k2 (.object s_0) (4 : Int32) [(.ref v_0), (.ref v_1), (.ref v_2), (.ref v_3)] .null := Arv.set Ar42 aq42 S42 N42 H42 G42 rfl W44 3 rfl (Nat.le_of_ble_eq_true rfl)
 show gO (tF T44 m 23 #[.val (.ref o0), .val (.ref b2), .val (.int 3)] [])
 refine go (XS.iinc X44.here hx rfl (D 17) rfl (l' := #[.val (.ref o0), .val (.ref b2), .val (.int 4)]) rfl) ?_
 refine go (XS.goto X44.here hx rfl (pc0 := 26) (pc' := 8) rfl (D 18) (by decide) (by decide)) ?_
 refine giN X44 hx (D 6) rfl ?_
 refine gaN X44 hx (D 7) rfl rfl ?_
 have c48 := (c39.other W44 n3)
 obtain ⟨cl47, Ar47, aq47, S47, N47, H47, G47⟩ := id c48
 refine gob (X44.arraylength hx (by rw [e44]; exact Ar47.1) (State.isArrayOf_alike hZ.alike Ar47.2.1) (g := (mkF m 10 #[.val (.ref o0), .val (.ref b2), .val (.int 4)] [(.ref o0), (.int 4)])) rfl rfl (D 8)) ?_
 rw [len_of S47 N47]
 show gO (tF T44 m 11 #[.val (.ref o0), .val (.ref b2), .val (.int 4)] [(.int 4), (.int 4)])
 refine go (XS.icmpYes X44.here hx rfl (pc0 := 11) (pc' := 29) rfl (D 9) rfl (flt (by decide : ¬ ((4 : Int32) < (4 : Int32)))).2.1 (by decide) (by decide)) ?_
 obtain ⟨T49, h49, X49, e49, E49, A49, D49, -, st49⟩ := newO X44 hx hZ hown (u 98) (u 503) (u 307) e44 (g := (mkF m 29 #[.val (.ref o0), .val (.ref b2), .val (.int 4)] [])) rfl (D 19) (by decide) (by decide)
 obtain ⟨b49, g49⟩ : ∃ z, z = h44.size := ⟨_, rfl⟩
 rw [← g49] at A49 D49 st49
 have c59 := ((((B2.wr W17).wr W26).wr W35).wr W44)
 have n60 : b2 ≠ b49 := Nat.ne_of_lt (Nat.lt_of_lt_of_le c59.lt (Nat.le_of_eq g49.symm))
 have g61 : n0 ≤ b49 := Nat.le_trans z45 (Nat.le_of_eq g49.symm)
 have sz_b49 : h0.size ≤ b49 := Nat.le_trans K46.1 (Nat.le_of_eq g49.symm)
 have z62 : n0 ≤ h49.size := Nat.le_trans z45 E49.1
 have K63 : Keep h0 h49 ([] : List Addr) := K46.ext E49
 have F49_elements : Fld Z h49 b49 s_16 s_20 s_3 .null := D49 (Or.inr (hW hw 310 rfl)) (ty := (.array (.object s_0))) (by decide)
 have F49_allowNulls : Fld Z h49 b49 s_16 s_29 "Z" (.int (0 : Int32)) := D49 (Or.inr (hW hw 513 rfl)) (ty := .boolean) (by decide)
 refine gob st49 ?_
 replace X49 := castX X49 (rfl : _ = 2) (rfl : _ = 6)
 show gO (tF T49 m 32 #[.val (.ref o0), .val (.ref b2), .val (.int 4)] [(.ref b49)])
 refine go (XS.dup X49.here hx rfl (D 20) rfl rfl) ?_
 refine gaN X49 hx (D 21) rfl rfl ?_
 refine giC X49 hx (D 22) ?_
 obtain ⟨_, T64, Lc64, X64, hQ64, st64⟩ := clB X49 (X49.specialBackNest hx (y := M_17) rfl hown (mvMN hZ (u 504)) (mvT hZ (u 505)) (mvT hZ (u 507)) (by decide) (backOf (W := 1) (rm64 l Z a0 hw [] b49 b2 (0 : Int32) h49 n0 z62 A49 F49_elements g61 F49_allowNulls) hZ (u 507) (u 307) (by decide) (by decide)) (g := (mkF m 35 #[.val (.ref o0), .val (.ref b2), .val (.int 4)] [(.int 0), (.ref b2), (.ref b49), (.ref b49)])) rfl (by rw [hml]; rfl) (Steps.refl _) (a := b49) (argsL := [(.ref b2), (.int 0)]) (rest := [(.ref b49)]) (lenOf pd_15 rfl) rfl (wk rfl rfl) (D 23) (fun _ _ => ⟨rfl, e49, lD rfl, lD rfl⟩)) (k := 2) (n := 6) rfl rfl
 obtain ⟨rfl, Nq64, K64, F65, F66⟩ := hQ64
 have N64 := Fr.app N44 Nq64
 have K68 : Keep h0 T64.heap ([] : List Addr) := K63.trans K64 (allS (Or.inr sz_b49) all0)
 refine gob (fun _ k => st64.trans k) ?_
 refine goA X64 hx hlk Bd.returns rfl rfl (D 24) ?_ (by decide) (by decide)
 show Q63_4r Z o0 k_a v_0 v_1 v_2 v_3 h0 n0 (some (.ref b49)) T64.heap _
 have c69 := ((c59.ext E49).keep K64)
 have c70 := ((V44.ext E49).keep K64 (ninS n60 nin0))
 have c71 := (A49.keep K64)
 exact ⟨b2, b49, k2, rfl, N64, K68, sz_b2, sz_b49, n60, c69, c70, c71, F65, F66, O2⟩
def Q23_4r (Z : State) (o0 : Addr) (k_a : ClassId) (v_0 : Addr) (v_1 : Addr) (v_2 : Addr) (v_3 : Addr) (h0 : Heap) (n0 : Nat) (v : Option Value) (h : Heap) (L : List Loc) : Prop := ∃ b3 : Addr, ∃ b4 : Addr, ∃ k5 : ClassId, v = some (.ref b4) ∧ Fr n0 L ∧ Keep h0 h ([] : List Addr) ∧ h0.size ≤ b3 ∧ h0.size ≤ b4 ∧ b3 ≠ b4 ∧ Exa Z h b3 s_3 ∧ Arv Z h b3 k5 (.object s_0) (4 : Int32) [(.ref v_0), (.ref v_1), (.ref v_2), (.ref v_3)] .null ∧ Exa Z h b4 s_16 ∧ Fld Z h b4 s_16 s_20 s_3 (.ref b3) ∧ Fld Z h b4 s_16 s_29 "Z" (.int ((0 : Int32) &&& 1)) ∧ Ovr Z k5 s_0
set_option maxRecDepth 65536 in
set_option maxHeartbeats 40000000 in
theorem rm23_4r (o0 : Addr) (k_a : ClassId) (v_0 : Addr) (v_1 : Addr) (v_2 : Addr) (v_3 : Addr) (h0 : Heap) (n0 : Nat) (Z0 : n0 ≤ h0.size) (V_a : Arv Z h0 o0 k_a (.object s_0) (4 : Int32) [(.ref v_0), (.ref v_1), (.ref v_2), (.ref v_3)] .null) (E_v0 : Exa Z h0 v_0 s_4) (E_v1 : Exa Z h0 v_1 s_4) (E_v2 : Exa Z h0 v_2 s_4) (E_v3 : Exa Z h0 v_3 s_4) :
  Mt hw l M_41 (Jvm.Cond.code M_41 c_23 2 (some (.object s_2))) ws R_6_2_6_77 #[(.ref o0)] h0 (Q23_4r Z o0 k_a v_0 v_1 v_2 v_3 h0 n0) := by
 refine ent s_2 rfl hisR fun p e s m below meth c s₁ Bd hx hby hml hown hnm hlk hZ X0 e0 => ?_
 have D := fun i => hb hby (q_23 i)
 have u := hU hw
 have N0 := Fr.nil n0
 rw [ef_16_0]
 show gO (tF s₁ m 0 #[.val (.ref o0), .unset] [])
 refine gaN X0 hx (D 0) rfl rfl ?_
 obtain ⟨cl1, Ar1, aq1, S1, N1, H1, G1⟩ := id V_a
 refine gob (X0.arraylength hx (by rw [e0]; exact Ar1.1) (State.isArrayOf_alike hZ.alike Ar1.2.1) (g := (mkF m 1 #[.val (.ref o0), .unset] [(.ref o0)])) rfl rfl (D 1)) ?_
 rw [len_of S1 N1]
 show gO (tF s₁ m 2 #[.val (.ref o0), .unset] [(.int 4)])
 refine gob (fun _ k => (XS.tswOut X0.here hx rfl (pc0 := 2) (pc' := 59) (dflt := 57) (low := 0) (high := 2) (offs := #[26, 32, 43]) (len := 26) (i := 4) (rest := []) (g := (mkF m 2 #[.val (.ref o0), .unset] [(.int 4)])) rfl (D 2) rfl (by decide) (by decide) (by decide) k)) ?_
 refine gaN X0 hx (D 20) rfl rfl ?_
 obtain ⟨_, T2, Lc2, X2, hQ2, st2⟩ := clS X0 (Jvm.LawKit.callS X0 hx (y := M_43) hown (mvT hZ (u 498)) (mvT hZ (u 499)) (mvT hZ (u 91)) (mvT hZ (u 500)) (by decide) (backOf (W := 0) (rm63_4r l Z a0 hw [] o0 k_a v_0 v_1 v_2 v_3 h0 n0 Z0 V_a E_v0 E_v1 E_v2 E_v3) hZ (u 500) (u 91) (by decide) (by decide)) (g := (mkF m 60 #[.val (.ref o0), .unset] [(.ref o0)])) rfl (by rw [hml]; rfl) (argsL := [(.ref o0)]) (rest := []) (lenOf pd_13 rfl) rfl (wk rfl rfl) (D 21) (fun _ _ => ⟨rfl, e0, lD rfl, lD rfl⟩)) (k := 2) (n := 6) rfl rfl
 obtain ⟨b3, b4, k5, rfl, Nq2, K2, hz6, hz7, hn8, F9, F10, F11, F12, F13, hi14⟩ := hQ2
 have N2 := Fr.app N0 Nq2
 have sz_b3 : h0.size ≤ b3 := Nat.le_trans (Keep.refl h0 []).1 hz6
 have sz_b4 : h0.size ≤ b4 := Nat.le_trans (Keep.refl h0 []).1 hz7
 have K29 : Keep h0 T2.heap ([] : List Addr) := (Keep.refl h0 ([] : List Addr)).trans K2 all0
 refine gob st2 ?_
 refine goA X2 hx hlk Bd.returns rfl rfl (D 22) ?_ (by decide) (by decide)
 show Q23_4r Z o0 k_a v_0 v_1 v_2 v_3 h0 n0 (some (.ref b4)) T2.heap _
 exact ⟨b3, b4, k5, rfl, N2, K29, sz_b3, sz_b4, hn8, F9, F10, F11, F12, F13, hi14⟩
def Q16_4r (Z : State) (o0 : Addr) (w_e : Addr) (k_e : ClassId) (v_0 : Addr) (v_1 : Addr) (v_2 : Addr) (v_3 : Addr) (mr_ : Addr) (h0 : Heap) (n0 : Nat) (v : Option Value) (h : Heap) (L : List Loc) : Prop := ∃ b5 : Addr, ∃ b26 : Addr, ∃ b27 : Addr, ∃ k6 : ClassId, ∃ k28 : ClassId, v = some (.ref b27) ∧ Fr n0 L ∧ Keep h0 h ([] : List Addr) ∧ h0.size ≤ b5 ∧ h0.size ≤ b26 ∧ h0.size ≤ b27 ∧ b5 ≠ b26 ∧ b5 ≠ b27 ∧ b26 ≠ b27 ∧ Exa Z h b5 s_3 ∧ Arv Z h b5 k6 (.object s_0) (4 : Int32) [(.ref v_0), (.ref v_1), (.ref v_2), (.ref v_3)] .null ∧ Exa Z h b26 s_3 ∧ Arv Z h b26 k28 (.object s_0) (4 : Int32) [(.ref v_0), (.ref v_1), (.ref v_2), (.ref v_3)] .null ∧ Exa Z h b27 s_16 ∧ Fld Z h b27 s_16 s_20 s_3 (.ref b26) ∧ Fld Z h b27 s_16 s_29 "Z" (.int ((0 : Int32) &&& 1)) ∧ Ovr Z k6 s_0 ∧ Ovr Z k28 s_0
set_option maxRecDepth 65536 in
set_option maxHeartbeats 40000000 in
theorem rm16_4r (o0 : Addr) (w_e : Addr) (k_e : ClassId) (v_0 : Addr) (v_1 : Addr) (v_2 : Addr) (v_3 : Addr) (mr_ : Addr) (h0 : Heap) (n0 : Nat) (Z0 : n0 ≤ h0.size) (E_o0 : Exa Z h0 o0 s_1) (F_size : Fld Z h0 o0 s_1 "size" "I" (.int 4)) (F_elementData : Fld Z h0 o0 s_1 s_8 s_3 (.ref w_e)) (V_e : Arv Z h0 w_e k_e (.object s_0) (10 : Int32) [(.ref v_0), (.ref v_1), (.ref v_2), (.ref v_3), .null, .null, .null, .null, .null, .null] .null) (E_e : Exa Z h0 w_e s_3) (E_v0 : Exa Z h0 v_0 s_4) (E_v1 : Exa Z h0 v_1 s_4) (E_v2 : Exa Z h0 v_2 s_4) (E_v3 : Exa Z h0 v_3 s_4) (MM : Mir Z mr_) :
  Mt hw l M_34 (Jvm.Cond.code M_34 c_16 2 (some (.object s_2))) ws R_7_3_10_90 #[(.ref o0)] h0 (Q16_4r Z o0 w_e k_e v_0 v_1 v_2 v_3 mr_ h0 n0) := by
 refine ent s_18 rfl hisR fun p e s m below meth c s₁ Bd hx hby hml hown hnm hlk hZ X0 e0 => ?_
 have D := fun i => hb hby (q_16 i)
 have u := hU hw
 have N0 := Fr.nil n0
 rw [ef_16_0]
 show gO (tF s₁ m 0 #[.val (.ref o0), .unset] [])
 refine gaN X0 hx (D 0) rfl rfl ?_
 obtain ⟨T1, X1, e1, st1⟩ := instNo X0 hx hZ hown (u 93) e0 E_o0 (own_noinst (u 94) (u 95) (u 96) (u 97) (u 146) (by decide) (by decide) (by decide) (by decide)) (g := (mkF m 1 #[.val (.ref o0), .unset] [(.ref o0)])) rfl rfl (D 1)
 refine gob st1 ?_
 refine go (XS.ifNo X1.here hx rfl (D 2) rfl ((if0 _ _).trans (teq (by decide : (0 : Int32) = (0 : Int32))).2)) ?_
 refine gaN X1 hx (D 3) rfl rfl ?_
 obtain ⟨T2, X2, e2, st2⟩ := instNo X1 hx hZ hown (u 98) e1 E_o0 (own_noinst (u 94) (u 95) (u 96) (u 97) (u 503) (by decide) (by decide) (by decide) (by decide)) (g := (mkF m 8 #[.val (.ref o0), .unset] [(.ref o0)])) rfl rfl (D 4)
 refine gob st2 ?_
 refine go (XS.ifYes X2.here hx rfl (pc0 := 11) (pc' := 31) rfl (D 5) rfl ((if0 _ _).trans (teq (by decide : (0 : Int32) = (0 : Int32))).1) (by decide) (by decide)) ?_
 refine gaN X2 hx (D 6) rfl rfl ?_
 obtain ⟨cq3, kq3, q3a, q3b, q3c⟩ := isOf hZ e2 E_o0
 obtain ⟨_, T3, Lc3, X3, hQ3, st3⟩ := clB X2 (X2.interfaceBack hx (xi := M_35) (y := M_32) hown (mvT hZ (u 99)) (mvT hZ (u 100)) (mvT hZ (u 101)) (mvT hZ (u 102)) (mvT hZ (u 103)) (mvT hZ (u 104)) (mvT hZ (u 105)) (mvT hZ (u 106)) (by decide) (backOf (W := 0) (rm17_4 l Z a0 hw [] o0 h0 n0 Z0 F_size) hZ (u 107) (u 8) (by decide) (by decide)) q3a q3b q3c (g := (mkF m 32 #[.val (.ref o0), .unset] [(.ref o0)])) rfl (by rw [hml]; rfl) (Steps.refl _) (argsL := []) (rest := []) (lenOf pd_7 rfl) rfl (wk rfl rfl) (D 7) (fun _ _ => ⟨rfl, e2, lD rfl, lD rfl⟩)) (k := 0) (n := 0) rfl rfl
 obtain ⟨rfl, Nq3, e3⟩ := hQ3
 have N3 := Fr.app N0 Nq3
 refine gob (fun _ k => st3.trans k) ?_
 refine go (XS.ifYes X3.here hx rfl (pc0 := 37) (pc' := 44) rfl (D 8) rfl ((if0 _ _).trans (teq (by decide : (0 : Int32) = (0 : Int32))).1) (by decide) (by decide)) ?_
 show gO (tF T3 m 44 #[.val (.ref o0), .unset] [])
 refine gaN X3 hx (D 11) rfl rfl ?_
 obtain ⟨cq4, kq4, q4a, q4b, q4c⟩ := isOf hZ e3 E_o0
 obtain ⟨_, T4, Lc4, X4, hQ4, st4⟩ := clB X3 (X3.interfaceBack hx (xi := M_42) (y := M_40) hown (mvT hZ (u 112)) (mvT hZ (u 113)) (mvT hZ (u 114)) (mvT hZ (u 115)) (mvT hZ (u 116)) (mvT hZ (u 117)) (mvT hZ (u 118)) (mvT hZ (u 106)) (by decide) (backOf (W := 0) (rm19_4r l Z a0 hw [] o0 w_e k_e v_0 v_1 v_2 v_3 mr_ h0 n0 Z0 E_o0 F_size F_elementData V_e E_e E_v0 E_v1 E_v2 E_v3 MM) hZ (u 119) (u 8) (by decide) (by decide)) q4a q4b q4c (g := (mkF m 45 #[.val (.ref o0), .unset] [(.ref o0)])) rfl (by rw [hml]; rfl) (Steps.refl _) (argsL := []) (rest := []) (lenOf pd_5 rfl) rfl (wk rfl rfl) (D 12) (fun _ _ => ⟨rfl, e3, lD rfl, lD rfl⟩)) (k := 1) (n := 4) rfl rfl
 obtain ⟨b5, k6, rfl, Nq4, K4, hz7, F8, F9, hi10⟩ := hQ4
 have N4 := Fr.app N3 Nq4
 have sz_b5 : h0.size ≤ b5 := Nat.le_trans (Keep.refl h0 []).1 hz7
 have z19 : n0 ≤ T4.heap.size := Nat.le_trans Z0 K4.1
 have K20 : Keep h0 T4.heap ([] : List Addr) := (Keep.refl h0 ([] : List Addr)).trans K4 all0
 refine gob (fun _ k => st4.trans k) ?_
 have c22 := (E_v0.keep K4)
 have c23 := (E_v1.keep K4)
 have c24 := (E_v2.keep K4)
 have c25 := (E_v3.keep K4)
 obtain ⟨_, T21, Lc21, X21, hQ21, st21⟩ := clS X4 (Jvm.LawKit.callS X4 hx (y := M_41) hown (mvT hZ (u 142)) (mvT hZ (u 143)) (mvT hZ (u 87)) (mvT hZ (u 144)) (by decide) (backOf (W := 0) (rm23_4r l Z a0 hw [] b5 k6 v_0 v_1 v_2 v_3 T4.heap n0 z19 F9 c22 c23 c24 c25) hZ (u 144) (u 87) (by decide) (by decide)) (g := (mkF m 50 #[.val (.ref o0), .unset] [(.ref b5)])) rfl (by rw [hml]; rfl) (argsL := [(.ref b5)]) (rest := []) (lenOf pd_13 rfl) rfl (wk rfl rfl) (D 13) (fun _ _ => ⟨rfl, (rfl : T4.heap = _), lD rfl, lD rfl⟩)) (k := 3) (n := 10) rfl rfl
 obtain ⟨b26, b27, k28, rfl, Nq21, K21, hz29, hz30, hn31, F32, F33, F34, F35, F36, hi37⟩ := hQ21
 have N21 := Fr.app N4 Nq21
 have n46 : b5 ≠ b26 := nlt F8.lt hz29
 have sz_b26 : h0.size ≤ b26 := Nat.le_trans K20.1 hz29
 have n54 : b5 ≠ b27 := nlt F8.lt hz30
 have sz_b27 : h0.size ≤ b27 := Nat.le_trans K20.1 hz30
 have K58 : Keep h0 T21.heap ([] : List Addr) := K20.trans K21 all0
 refine gob st21 ?_
 refine goA X21 hx hlk Bd.returns rfl rfl (D 14) ?_ (by decide) (by decide)
 show Q16_4r Z o0 w_e k_e v_0 v_1 v_2 v_3 mr_ h0 n0 (some (.ref b27)) T21.heap _
 have c59 := (F8.keep K21)
 have c60 := (F9.keep K21 nin0)
 exact ⟨b5, b26, b27, k6, k28, rfl, N21, K58, sz_b5, sz_b26, sz_b27, n46, n54, hn31, c59, c60, F32, F33, F34, F35, F36, hi10, hi37⟩
def Q15_r (Z : State) (o0 : Addr) (w_c : Addr) (f_ : Nat → Addr) (wE : Addr) (wL : Addr) (wD : Addr) (wA : Addr) (kD : ClassId) (kA : ClassId) (mr_ : Addr) (es : List Addr) (h0 : Heap) (n0 : Nat) (v : Option Value) (h : Heap) (L : List Loc) : Prop := ∃ r : Addr, v = some (.ref r) ∧ Fr n0 L ∧ Keep h0 h ([] : List Addr) ∧ IL Z h wE r es
set_option maxRecDepth 65536 in
set_option maxHeartbeats 40000000 in
theorem rm15_r (o0 : Addr) (w_c : Addr) (f_ : Nat → Addr) (wE : Addr) (wL : Addr) (wD : Addr) (wA : Addr) (kD : ClassId) (kA : ClassId) (mr_ : Addr) (es : List Addr) (h0 : Heap) (n0 : Nat) (Z0 : n0 ≤ h0.size) (IC : Wd Z h0 n0 w_c f_ wE wL wD wA kD kA) (MM : Mir Z mr_) (A_ : AL Z h0 o0 s_4 es) :
  Mt hw l M_36 (Jvm.Cond.code M_36 c_15 1 (some (.object s_2))) ws R_8_3_10_103 #[(.ref o0)] h0 (Q15_r Z o0 w_c f_ wE wL wD wA kD kA mr_ es h0 n0) := by
 refine ent s_2 rfl hisR fun p e s m below meth c s₁ Bd hx hby hml hown hnm hlk hZ X0 e0 => ?_
 have D := fun i => hb hby (q_15 i)
 have u := hU hw
 have N0 := Fr.nil n0
 rw [ef_4]
 show gO (tF s₁ m 0 #[.val (.ref o0)] [])
 obtain ⟨aE, aS, aL, aX, aD⟩ := A_
 rcases own_four aL with hes | ⟨v_0, hes⟩ | ⟨v_0, v_1, hes⟩ | ⟨v_0, v_1, v_2, hes⟩ | ⟨v_0, v_1, v_2, v_3, hes⟩
 ·skip
  rw [hes] at aS aX aD
  have aS0 : Fld Z h0 o0 s_1 "size" "I" (.int 0) := aS
  refine gaN X0 hx (D 0) rfl rfl ?_
  obtain ⟨_, T1, Lc1, X1, hQ1, st1⟩ := clS X0 (Jvm.LawKit.callS X0 hx (y := M_34) hown (mvT hZ (u 89)) (mvT hZ (u 90)) (mvT hZ (u 91)) (mvT hZ (u 92)) (by decide) (backOf (W := 0) (rm16_0 l Z a0 hw [] o0 wL h0 n0 Z0 aE aS0 (own_WL IC)) hZ (u 92) (u 91) (by decide) (by decide)) (g := (mkF m 1 #[.val (.ref o0)] [(.ref o0)])) rfl (by rw [hml]; rfl) (argsL := [(.ref o0)]) (rest := []) (lenOf pd_9 rfl) rfl (wk rfl rfl) (D 1) (fun _ _ => ⟨rfl, e0, lD rfl, lD rfl⟩)) (k := 0) (n := 0) rfl rfl
  obtain ⟨rfl, Nq1, e1⟩ := hQ1
  have N1 := Fr.app N0 Nq1
  refine gob st1 ?_
  refine goA X1 hx hlk Bd.returns rfl rfl (D 2) ?_ (by decide) (by decide)
  show Q15_r Z o0 w_c f_ wE wL wD wA kD kA mr_ es h0 n0 (some (.ref wL)) T1.heap _
  rw [e1]
  refine ⟨wL, rfl, N1, (Keep.refl h0 ([] : List Addr)), ?_⟩
  rw [hes]
  exact Or.inl ⟨Or.inl rfl, wA, kA, (own_WLe IC), (own_WLf IC), (own_WAe IC), (own_WAv IC)⟩
 ·skip
  rw [hes] at aS aX aD
  have aS1 : Fld Z h0 o0 s_1 "size" "I" (.int 1) := aS
  obtain ⟨w_e, k_e, aF, aA, aV0⟩ := aD.resolve_left (by simp)
  have aV : Arv Z h0 w_e k_e (.object s_0) (10 : Int32) [(.ref v_0), .null, .null, .null, .null, .null, .null, .null, .null, .null] .null := aV0
  refine gaN X0 hx (D 0) rfl rfl ?_
  obtain ⟨_, T2, Lc2, X2, hQ2, st2⟩ := clS X0 (Jvm.LawKit.callS X0 hx (y := M_34) hown (mvT hZ (u 89)) (mvT hZ (u 90)) (mvT hZ (u 91)) (mvT hZ (u 92)) (by decide) (backOf (W := 0) (rm16_1g l Z a0 hw [] o0 w_e k_e v_0 s_4 mr_ wE h0 n0 Z0 aE aS1 aF aV (u 75) aA (aX v_0 (by simp)) MM (own_WE IC)) hZ (u 92) (u 91) (by decide) (by decide)) (g := (mkF m 1 #[.val (.ref o0)] [(.ref o0)])) rfl (by rw [hml]; rfl) (argsL := [(.ref o0)]) (rest := []) (lenOf pd_9 rfl) rfl (wk rfl rfl) (D 1) (fun _ _ => ⟨rfl, e0, lD rfl, lD rfl⟩)) (k := 2) (n := 3) rfl rfl
  obtain ⟨b3, b4, k5, rfl, Nq2, K2, hz6, hz7, hn8, F9, F10, F11, F12, F13, hi14⟩ := hQ2
  have N2 := Fr.app N0 Nq2
  have K32 : Keep h0 T2.heap ([] : List Addr) := (Keep.refl h0 ([] : List Addr)).trans K2 all0
  refine gob st2 ?_
  refine goA X2 hx hlk Bd.returns rfl rfl (D 2) ?_ (by decide) (by decide)
  show Q15_r Z o0 w_c f_ wE wL wD wA kD kA mr_ es h0 n0 (some (.ref b4)) T2.heap _
  refine ⟨b4, rfl, N2, K32, ?_⟩
  rw [hes]
  exact Or.inr (Or.inl ⟨_, rfl, F11, F12, F13⟩)
 ·skip
  rw [hes] at aS aX aD
  have aS2 : Fld Z h0 o0 s_1 "size" "I" (.int 2) := aS
  obtain ⟨w_e, k_e, aF, aA, aV0⟩ := aD.resolve_left (by simp)
  have aV : Arv Z h0 w_e k_e (.object s_0) (10 : Int32) [(.ref v_0), (.ref v_1), .null, .null, .null, .null, .null, .null, .null, .null] .null := aV0
  refine gaN X0 hx (D 0) rfl rfl ?_
  obtain ⟨_, T33, Lc33, X33, hQ33, st33⟩ := clS X0 (Jvm.LawKit.callS X0 hx (y := M_34) hown (mvT hZ (u 89)) (mvT hZ (u 90)) (mvT hZ (u 91)) (mvT hZ (u 92)) (by decide) (backOf (W := 0) (rm16_2r l Z a0 hw [] o0 w_e k_e v_0 v_1 mr_ h0 n0 Z0 aE aS2 aF aV aA (aX v_0 (by simp)) (aX v_1 (by simp)) MM) hZ (u 92) (u 91) (by decide) (by decide)) (g := (mkF m 1 #[.val (.ref o0)] [(.ref o0)])) rfl (by rw [hml]; rfl) (argsL := [(.ref o0)]) (rest := []) (lenOf pd_9 rfl) rfl (wk rfl rfl) (D 1) (fun _ _ => ⟨rfl, e0, lD rfl, lD rfl⟩)) (k := 2) (n := 4) rfl rfl
  obtain ⟨b34, b35, k36, rfl, Nq33, K33, hz37, hz38, hn39, F40, F41, F42, F43, F44, hi45⟩ := hQ33
  have N33 := Fr.app N0 Nq33
  have K65 : Keep h0 T33.heap ([] : List Addr) := (Keep.refl h0 ([] : List Addr)).trans K33 all0
  refine gob st33 ?_
  refine goA X33 hx hlk Bd.returns rfl rfl (D 2) ?_ (by decide) (by decide)
  show Q15_r Z o0 w_c f_ wE wL wD wA kD kA mr_ es h0 n0 (some (.ref b35)) T33.heap _
  refine ⟨b35, rfl, N33, K65, ?_⟩
  rw [hes]
  have c66 := ((aX v_1 (by simp)).keep K33)
  have c67 := (IC.keep K33 geN)
  exact Or.inr (Or.inr ⟨_, _, rfl, own_exane c66 (own_WEe c67) (by decide), F42, F43, F44⟩)
 ·skip
  rw [hes] at aS aX aD
  have aS3 : Fld Z h0 o0 s_1 "size" "I" (.int 3) := aS
  obtain ⟨w_e, k_e, aF, aA, aV0⟩ := aD.resolve_left (by simp)
  have aV : Arv Z h0 w_e k_e (.object s_0) (10 : Int32) [(.ref v_0), (.ref v_1), (.ref v_2), .null, .null, .null, .null, .null, .null, .null] .null := aV0
  refine gaN X0 hx (D 0) rfl rfl ?_
  obtain ⟨_, T68, Lc68, X68, hQ68, st68⟩ := clS X0 (Jvm.LawKit.callS X0 hx (y := M_34) hown (mvT hZ (u 89)) (mvT hZ (u 90)) (mvT hZ (u 91)) (mvT hZ (u 92)) (by decide) (backOf (W := 0) (rm16_3r l Z a0 hw [] o0 w_e k_e v_0 v_1 v_2 mr_ h0 n0 Z0 aE aS3 aF aV aA (aX v_0 (by simp)) (aX v_1 (by simp)) (aX v_2 (by simp)) MM) hZ (u 92) (u 91) (by decide) (by decide)) (g := (mkF m 1 #[.val (.ref o0)] [(.ref o0)])) rfl (by rw [hml]; rfl) (argsL := [(.ref o0)]) (rest := []) (lenOf pd_9 rfl) rfl (wk rfl rfl) (D 1) (fun _ _ => ⟨rfl, e0, lD rfl, lD rfl⟩)) (k := 3) (n := 8) rfl rfl
  obtain ⟨b69, b70, b71, k72, k73, rfl, Nq68, K68, hz74, hz75, hz76, hn77, hn78, hn79, F80, F81, F82, F83, F84, F85, F86, hi87, hi88⟩ := hQ68
  have N68 := Fr.app N0 Nq68
  have K120 : Keep h0 T68.heap ([] : List Addr) := (Keep.refl h0 ([] : List Addr)).trans K68 all0
  refine gob st68 ?_
  refine goA X68 hx hlk Bd.returns rfl rfl (D 2) ?_ (by decide) (by decide)
  show Q15_r Z o0 w_c f_ wE wL wD wA kD kA mr_ es h0 n0 (some (.ref b71)) T68.heap _
  refine ⟨b71, rfl, N68, K120, ?_⟩
  rw [hes]
  exact Or.inl ⟨Or.inr (Or.inl rfl), b70, k73, F84, F85, F82, F83⟩
 ·skip
  rw [hes] at aS aX aD
  have aS4 : Fld Z h0 o0 s_1 "size" "I" (.int 4) := aS
  obtain ⟨w_e, k_e, aF, aA, aV0⟩ := aD.resolve_left (by simp)
  have aV : Arv Z h0 w_e k_e (.object s_0) (10 : Int32) [(.ref v_0), (.ref v_1), (.ref v_2), (.ref v_3), .null, .null, .null, .null, .null, .null] .null := aV0
  refine gaN X0 hx (D 0) rfl rfl ?_
  show gO (tF s₁ m 1 #[.val (.ref o0)] [(.ref o0)])
  obtain ⟨_, T121, Lc121, X121, hQ121, st121⟩ := clS X0 (Jvm.LawKit.callS X0 hx (y := M_34) hown (mvT hZ (u 89)) (mvT hZ (u 90)) (mvT hZ (u 91)) (mvT hZ (u 92)) (by decide) (backOf (W := 0) (rm16_4r l Z a0 hw [] o0 w_e k_e v_0 v_1 v_2 v_3 mr_ h0 n0 Z0 aE aS4 aF aV aA (aX v_0 (by simp)) (aX v_1 (by simp)) (aX v_2 (by simp)) (aX v_3 (by simp)) MM) hZ (u 92) (u 91) (by decide) (by decide)) (g := (mkF m 1 #[.val (.ref o0)] [(.ref o0)])) rfl (by rw [hml]; rfl) (argsL := [(.ref o0)]) (rest := []) (lenOf pd_9 rfl) rfl (wk rfl rfl) (D 1) (fun _ _ => ⟨rfl, e0, lD rfl, lD rfl⟩)) (k := 3) (n := 10) rfl rfl
  obtain ⟨b122, b123, b124, k125, k126, rfl, Nq121, K121, hz127, hz128, hz129, hn130, hn131, hn132, F133, F134, F135, F136, F137, F138, F139, hi140, hi141⟩ := hQ121
  have N121 := Fr.app N0 Nq121
  have K176 : Keep h0 T121.heap ([] : List Addr) := (Keep.refl h0 ([] : List Addr)).trans K121 all0
  refine gob st121 ?_
  refine goA X121 hx hlk Bd.returns rfl rfl (D 2) ?_ (by decide) (by decide)
  show Q15_r Z o0 w_c f_ wE wL wD wA kD kA mr_ es h0 n0 (some (.ref b124)) T121.heap _
  refine ⟨b124, rfl, N121, K176, ?_⟩
  rw [hes]
  exact Or.inl ⟨Or.inr (Or.inr rfl), b123, k126, F137, F138, F135, F136⟩
def Q15_d (Z : State) (o0 : Addr) (w_c : Addr) (f_ : Nat → Addr) (wE : Addr) (wL : Addr) (wD : Addr) (wA : Addr) (kD : ClassId) (kA : ClassId) (mr_ : Addr) (es : List Addr) (h0 : Heap) (n0 : Nat) (v : Option Value) (h : Heap) (L : List Loc) : Prop := ∃ r : Addr, v = some (.ref r) ∧ Fr n0 L ∧ Keep h0 h ([] : List Addr) ∧ IL Z h wE r es
set_option maxRecDepth 65536 in
set_option maxHeartbeats 40000000 in
theorem rm15_d (o0 : Addr) (w_c : Addr) (f_ : Nat → Addr) (wE : Addr) (wL : Addr) (wD : Addr) (wA : Addr) (kD : ClassId) (kA : ClassId) (mr_ : Addr) (es : List Addr) (h0 : Heap) (n0 : Nat) (Z0 : n0 ≤ h0.size) (IC : Wd Z h0 n0 w_c f_ wE wL wD wA kD kA) (MM : Mir Z mr_) (A_ : AL Z h0 o0 s_21 es) (hK : es.length ≤ 1) :
  Mt hw l M_36 (Jvm.Cond.code M_36 c_15 1 (some (.object s_2))) ws R_7_2_3_88 #[(.ref o0)] h0 (Q15_d Z o0 w_c f_ wE wL wD wA kD kA mr_ es h0 n0) := by
 refine ent s_2 rfl hisR fun p e s m below meth c s₁ Bd hx hby hml hown hnm hlk hZ X0 e0 => ?_
 have D := fun i => hb hby (q_15 i)
 have u := hU hw
 have N0 := Fr.nil n0
 rw [ef_4]
 show gO (tF s₁ m 0 #[.val (.ref o0)] [])
 obtain ⟨aE, aS, aL, aX, aD⟩ := A_
 rcases own_four aL with hes | ⟨v_0, hes⟩ | ⟨v_0, v_1, hes⟩ | ⟨v_0, v_1, v_2, hes⟩ | ⟨v_0, v_1, v_2, v_3, hes⟩
 ·skip
  rw [hes] at aS aX aD
  have aS0 : Fld Z h0 o0 s_1 "size" "I" (.int 0) := aS
  refine gaN X0 hx (D 0) rfl rfl ?_
  obtain ⟨_, T1, Lc1, X1, hQ1, st1⟩ := clS X0 (Jvm.LawKit.callS X0 hx (y := M_34) hown (mvT hZ (u 89)) (mvT hZ (u 90)) (mvT hZ (u 91)) (mvT hZ (u 92)) (by decide) (backOf (W := 0) (rm16_0 l Z a0 hw [] o0 wL h0 n0 Z0 aE aS0 (own_WL IC)) hZ (u 92) (u 91) (by decide) (by decide)) (g := (mkF m 1 #[.val (.ref o0)] [(.ref o0)])) rfl (by rw [hml]; rfl) (argsL := [(.ref o0)]) (rest := []) (lenOf pd_9 rfl) rfl (wk rfl rfl) (D 1) (fun _ _ => ⟨rfl, e0, lD rfl, lD rfl⟩)) (k := 0) (n := 0) rfl rfl
  obtain ⟨rfl, Nq1, e1⟩ := hQ1
  have N1 := Fr.app N0 Nq1
  refine gob st1 ?_
  refine goA X1 hx hlk Bd.returns rfl rfl (D 2) ?_ (by decide) (by decide)
  show Q15_d Z o0 w_c f_ wE wL wD wA kD kA mr_ es h0 n0 (some (.ref wL)) T1.heap _
  rw [e1]
  refine ⟨wL, rfl, N1, (Keep.refl h0 ([] : List Addr)), ?_⟩
  rw [hes]
  exact Or.inl ⟨Or.inl rfl, wA, kA, (own_WLe IC), (own_WLf IC), (own_WAe IC), (own_WAv IC)⟩
 ·skip
  rw [hes] at aS aX aD
  have aS1 : Fld Z h0 o0 s_1 "size" "I" (.int 1) := aS
  obtain ⟨w_e, k_e, aF, aA, aV0⟩ := aD.resolve_left (by simp)
  have aV : Arv Z h0 w_e k_e (.object s_0) (10 : Int32) [(.ref v_0), .null, .null, .null, .null, .null, .null, .null, .null, .null] .null := aV0
  refine gaN X0 hx (D 0) rfl rfl ?_
  obtain ⟨_, T2, Lc2, X2, hQ2, st2⟩ := clS X0 (Jvm.LawKit.callS X0 hx (y := M_34) hown (mvT hZ (u 89)) (mvT hZ (u 90)) (mvT hZ (u 91)) (mvT hZ (u 92)) (by decide) (backOf (W := 0) (rm16_1g l Z a0 hw [] o0 w_e k_e v_0 s_21 mr_ wE h0 n0 Z0 aE aS1 aF aV (u 469) aA (aX v_0 (by simp)) MM (own_WE IC)) hZ (u 92) (u 91) (by decide) (by decide)) (g := (mkF m 1 #[.val (.ref o0)] [(.ref o0)])) rfl (by rw [hml]; rfl) (argsL := [(.ref o0)]) (rest := []) (lenOf pd_9 rfl) rfl (wk rfl rfl) (D 1) (fun _ _ => ⟨rfl, e0, lD rfl, lD rfl⟩)) (k := 2) (n := 3) rfl rfl
  obtain ⟨b3, b4, k5, rfl, Nq2, K2, hz6, hz7, hn8, F9, F10, F11, F12, F13, hi14⟩ := hQ2
  have N2 := Fr.app N0 Nq2
  have K32 : Keep h0 T2.heap ([] : List Addr) := (Keep.refl h0 ([] : List Addr)).trans K2 all0
  refine gob st2 ?_
  refine goA X2 hx hlk Bd.returns rfl rfl (D 2) ?_ (by decide) (by decide)
  show Q15_d Z o0 w_c f_ wE wL wD wA kD kA mr_ es h0 n0 (some (.ref b4)) T2.heap _
  refine ⟨b4, rfl, N2, K32, ?_⟩
  rw [hes]
  exact Or.inr (Or.inl ⟨_, rfl, F11, F12, F13⟩)
 ·skip
  rw [hes] at hK
  simp at hK
 ·skip
  rw [hes] at hK
  simp at hK
 ·skip
  rw [hes] at hK
  simp at hK
def t_6 : List (Nat × Instr × Nat) := [(0, .new 14, 3), (3, .dup, 1), (4, .invokespecial 16, 3), (7, .astore_n 1, 1), (8, .iload_n 0, 1), (9, .iconst 1, 1), (10, .iand, 1), (11, .ifCond .eq 12, 3), (14, .aload_n 1, 1), (15, .iconst 1, 1), (16, .invokestatic 17, 3), (19, .invokevirtual 23, 3), (22, .pop, 1), (23, .iload_n 0, 1), (24, .iconst 2, 1), (25, .iand, 1), (26, .ifCond .eq 12, 3), (29, .aload_n 1, 1), (30, .iconst 2, 1), (31, .invokestatic 17, 3), (34, .invokevirtual 23, 3), (37, .pop, 1), (38, .iload_n 0, 1), (39, .iconst 4, 1), (40, .iand, 1), (41, .ifCond .eq 12, 3), (44, .aload_n 1, 1), (45, .iconst 3, 1), (46, .invokestatic 17, 3), (49, .invokevirtual 23, 3), (52, .pop, 1), (53, .iload_n 0, 1), (54, .bipush 8, 2), (56, .iand, 1), (57, .ifCond .eq 12, 3), (60, .aload_n 1, 1), (61, .iconst 4, 1), (62, .invokestatic 17, 3), (65, .invokevirtual 23, 3), (68, .pop, 1), (69, .aload_n 1, 1), (70, .areturn, 1)]
theorem q_6 : ∀ i : Fin 42, decode c_6 (gt t_6 i.1).1 = .ok ((gt t_6 i.1).2.1, (gt t_6 i.1).2.2) := by decide +kernel
theorem pd_16 : parseMethodDescriptor "(I)Ljava/lang/Integer;" = some ⟨[.int], some (.object "java/lang/Integer")⟩ := by decide +kernel
theorem pd_17 : parseMethodDescriptor "(Ljava/lang/Object;)Z" = some ⟨[(.object "java/lang/Object")], some .boolean⟩ := by decide +kernel
theorem ef_6 (m : MethodId) (x0 : Int32) : entryFrame m #[(.int x0)] 2 = mkF m 0 #[.val (.int x0), .unset] [] := by first | (simp [entryFrame, mkF, argsToLocals, Value.category]; done) | rfl
def Q6 (Z : State) (p0 : Int32) (w_c : Addr) (f_ : Nat → Addr) (wE : Addr) (wL : Addr) (wD : Addr) (wA : Addr) (kD : ClassId) (kA : ClassId) (h0 : Heap) (n0 : Nat) (v : Option Value) (h : Heap) (L : List Loc) : Prop := ∃ r : Addr, v = some (.ref r) ∧ Fr n0 L ∧ Keep h0 h ([] : List Addr) ∧ h0.size ≤ r ∧ AL Z h r s_4 ((mm p0).map (fI f_))
set_option maxRecDepth 65536 in
set_option maxHeartbeats 40000000 in
theorem rm6 (p0 : Int32) (w_c : Addr) (f_ : Nat → Addr) (wE : Addr) (wL : Addr) (wD : Addr) (wA : Addr) (kD : ClassId) (kA : ClassId) (h0 : Heap) (n0 : Nat) (Z0 : n0 ≤ h0.size) (IC : Wd Z h0 n0 w_c f_ wE wL wD wA kD kA) :
  Mt hw l M_44 (Jvm.Cond.code M_44 c_6 2 (some (.object s_1))) ws R_5_2_13_69 #[(.int p0)] h0 (Q6 Z p0 w_c f_ wE wL wD wA kD kA h0 n0) := by
 refine ent s_42 rfl hisR fun p e s m below meth c s₁ Bd hx hby hml hown hnm hlk hZ X0 e0 => ?_
 have D := fun i => hb hby (q_6 i)
 have u := hU hw
 have N0 := Fr.nil n0
 rw [ef_6]
 show gO (tF s₁ m 0 #[.val (.int p0), .unset] [])
 obtain ⟨T1, h1, X1, e1, E1, A1, D1, -, st1⟩ := newO X0 hx hZ hown (u 6) (u 7) (u 8) e0 (g := (mkF m 0 #[.val (.int p0), .unset] [])) rfl (D 0) (by decide) (by decide)
 obtain ⟨b1, g1⟩ : ∃ z, z = h0.size := ⟨_, rfl⟩
 rw [← g1] at A1 D1 st1
 have n5 : wD ≠ b1 := Nat.ne_of_lt (Nat.lt_of_lt_of_le (own_WDv IC).lt (Nat.le_of_eq g1.symm))
 have g6 : n0 ≤ b1 := Nat.le_trans Z0 (Nat.le_of_eq g1.symm)
 have sz_b1 : h0.size ≤ b1 := Nat.le_trans (Keep.refl h0 []).1 (Nat.le_of_eq g1.symm)
 have z7 : n0 ≤ h1.size := Nat.le_trans Z0 E1.1
 have K8 : Keep h0 h1 ([] : List Addr) := (Keep.refl h0 ([] : List Addr)).ext E1
 have F1_modCount : Fld Z h1 b1 s_9 s_12 "I" (.int (0 : Int32)) := D1 (Or.inl (hW hw 28 rfl)) (ty := .int) (by decide)
 have F1_elementData : Fld Z h1 b1 s_1 s_8 s_3 .null := D1 (Or.inl (hW hw 31 rfl)) (ty := (.array (.object s_0))) (by decide)
 have F1_size : Fld Z h1 b1 s_1 "size" "I" (.int (0 : Int32)) := D1 (Or.inl (hW hw 53 rfl)) (ty := .int) (by decide)
 refine gob st1 ?_
 replace X1 := castX X1 (rfl : _ = 1) (rfl : _ = 3)
 show gO (tF T1 m 3 #[.val (.int p0), .unset] [(.ref b1)])
 refine go (XS.dup X1.here hx rfl (D 1) rfl rfl) ?_
 have c10 := (IC.ext E1)
 obtain ⟨_, T9, Lc9, X9, hQ9, st9⟩ := clB X1 (X1.specialBack hx (y := M_3) rfl hown (mvT hZ (u 9)) (mvT hZ (u 10)) (mvT hZ (u 11)) (by decide) (backOf (W := 1) (rm2 l Z a0 hw [] b1 wD h1 n0 z7 A1 F1_modCount F1_elementData F1_size g6 (own_WD c10)) hZ (u 11) (u 8) (by decide) (by decide)) (g := (mkF m 4 #[.val (.int p0), .unset] [(.ref b1), (.ref b1)])) rfl (by rw [hml]; rfl) (Steps.refl _) (a := b1) (argsL := []) (rest := [(.ref b1)]) (lenOf pd_0 rfl) rfl (wk rfl rfl) (D 2) (fun _ _ => ⟨rfl, e1, lD rfl, lD rfl⟩)) (k := 1) (n := 3) rfl rfl
 obtain ⟨rfl, Nq9, K9, F11, F12, F13⟩ := hQ9
 have N9 := Fr.app N0 Nq9
 have z14 : n0 ≤ T9.heap.size := Nat.le_trans z7 K9.1
 have K15 : Keep h0 T9.heap ([] : List Addr) := K8.trans K9 (allS (Or.inr sz_b1) all0)
 refine gob (fun _ k => st9.trans k) ?_
 refine go (XS.astoreN X9.here hx rfl (D 3) rfl rfl (l' := #[.val (.int p0), .val (.ref b1)]) rfl) ?_
 refine giN X9 hx (D 4) rfl ?_
 refine giC X9 hx (D 5) ?_
 refine go (XS.iand X9.here hx rfl (D 6) rfl) ?_
 show gO (tF T9 m 11 #[.val (.int p0), .val (.ref b1)] [(.int (p0 &&& (1 : Int32)))])
 by_cases hc11_16 : (p0 &&& (1 : Int32)) = (0 : Int32)
 ·skip
  refine go (XS.ifYes X9.here hx rfl (pc0 := 11) (pc' := 23) rfl (D 7) rfl ((if0 _ _).trans (teq hc11_16).1) (by decide) (by decide)) ?_
  refine giN X9 hx (D 13) rfl ?_
  refine giC X9 hx (D 14) ?_
  refine go (XS.iand X9.here hx rfl (D 15) rfl) ?_
  show gO (tF T9 m 26 #[.val (.int p0), .val (.ref b1)] [(.int (p0 &&& (2 : Int32)))])
  by_cases hc26_17 : (p0 &&& (2 : Int32)) = (0 : Int32)
  ·skip
   refine go (XS.ifYes X9.here hx rfl (pc0 := 26) (pc' := 38) rfl (D 16) rfl ((if0 _ _).trans (teq hc26_17).1) (by decide) (by decide)) ?_
   refine giN X9 hx (D 22) rfl ?_
   refine giC X9 hx (D 23) ?_
   refine go (XS.iand X9.here hx rfl (D 24) rfl) ?_
   show gO (tF T9 m 41 #[.val (.int p0), .val (.ref b1)] [(.int (p0 &&& (4 : Int32)))])
   by_cases hc41_18 : (p0 &&& (4 : Int32)) = (0 : Int32)
   ·skip
    refine go (XS.ifYes X9.here hx rfl (pc0 := 41) (pc' := 53) rfl (D 25) rfl ((if0 _ _).trans (teq hc41_18).1) (by decide) (by decide)) ?_
    refine giN X9 hx (D 31) rfl ?_
    refine go (XS.bipush X9.here hx rfl (D 32)) ?_
    refine go (XS.iand X9.here hx rfl (D 33) rfl) ?_
    show gO (tF T9 m 57 #[.val (.int p0), .val (.ref b1)] [(.int (p0 &&& (8 : Int32)))])
    by_cases hc57_19 : (p0 &&& (8 : Int32)) = (0 : Int32)
    ·skip
     refine go (XS.ifYes X9.here hx rfl (pc0 := 57) (pc' := 69) rfl (D 34) rfl ((if0 _ _).trans (teq hc57_19).1) (by decide) (by decide)) ?_
     refine gaN X9 hx (D 40) rfl rfl ?_
     refine goA X9 hx hlk Bd.returns rfl rfl (D 41) ?_ (by decide) (by decide)
     show Q6 Z p0 w_c f_ wE wL wD wA kD kA h0 n0 (some (.ref b1)) T9.heap _
     have hm : (mm p0).map (fI f_) = [] := by
      unfold mm
      rw [if_pos hc11_16, if_pos hc26_17, if_pos hc41_18, if_pos hc57_19]
      first | done | rfl
     have c20 := (A1.keep K9)
     refine ⟨b1, rfl, N9, K15, sz_b1, ?_⟩
     rw [hm]
     exact ⟨c20, F13, Nat.le_of_ble_eq_true rfl, (fun _ q => nomatch q), Or.inl rfl⟩
    ·skip
     refine go (XS.ifNo X9.here hx rfl (D 34) rfl ((if0 _ _).trans (feq hc57_19).1)) ?_
     refine gaN X9 hx (D 35) rfl rfl ?_
     refine giC X9 hx (D 36) ?_
     have c22 := (c10.keep K9 (geS g6 geN))
     obtain ⟨_, T21, Lc21, X21, hQ21, st21⟩ := clS X9 (Jvm.LawKit.callS X9 hx (y := M_31) hown (mvT hZ (u 38)) (mvT hZ (u 39)) (mvT hZ (u 40)) (mvT hZ (u 41)) (by decide) (backOf (W := 1) (rm7 l Z a0 hw [] (4 : Int32) w_c f_ wE wL wD wA kD kA T9.heap n0 z14 c22 (by decide) (by decide)) hZ (u 41) (u 40) (by decide) (by decide)) (g := (mkF m 62 #[.val (.int p0), .val (.ref b1)] [(.int 4), (.ref b1)])) rfl (by rw [hml]; rfl) (argsL := [(.int 4)]) (rest := [(.ref b1)]) (lenOf pd_16 rfl) rfl (wk rfl rfl) (D 37) (fun _ _ => ⟨rfl, (rfl : T9.heap = _), lD rfl, lD rfl⟩)) (k := 1) (n := 3) rfl rfl
     obtain ⟨rfl, Nq21, e21⟩ := hQ21
     have N21 := Fr.app N9 Nq21
     refine gob st21 ?_
     have c24 := (A1.keep K9)
     obtain ⟨cq23, kq23, q23a, q23b, q23c⟩ := isOf hZ e21 c24
     obtain ⟨_, T23, Lc23, X23, hQ23, st23⟩ := clB X21 (X21.virtualBack hx (y := M_30) (z := M_30) hown (mvT hZ (u 45)) (mvT hZ (u 46)) (notFace_of_selects (args := #[]) (mvT hZ (u 48))) (mvT hZ (u 48)) (mvT hZ (u 47)) (by decide) (backOf (W := 0) (rm8_0g l Z a0 hw [] b1 (fI f_ (4 : Int32)) wD (0 : Int32) kD s_4 T9.heap n0 z14 c24 F12 F13 F11 (own_WDv c22) n5 (own_WD c22) (u 75) (own_Wint c22 (by decide) (by decide)).1 g6) hZ (u 49) (u 8) (by decide) (by decide)) q23a q23c (g := (mkF m 65 #[.val (.int p0), .val (.ref b1)] [(.ref (fI f_ (4 : Int32))), (.ref b1)])) rfl (by rw [hml]; rfl) (Steps.refl _) (argsL := [(.ref (fI f_ (4 : Int32)))]) (rest := []) (lenOf pd_17 rfl) rfl (wk rfl rfl) (D 38) (fun _ _ => ⟨rfl, e21, lD rfl, lD rfl⟩)) (k := 2) (n := 13) rfl rfl
     obtain ⟨b25, k26, rfl, Nq23, K23, hz27, F28, F29, F30, F31, F32, hi33⟩ := hQ23
     have N23 := Fr.app N21 Nq23
     have K42 : Keep h0 T23.heap ([] : List Addr) := K15.trans K23 (allS (Or.inr sz_b1) all0)
     refine gob (fun _ k => st23.trans k) ?_
     refine go (XS.pop X23.here hx rfl (D 39) rfl rfl) ?_
     refine gaN X23 hx (D 40) rfl rfl ?_
     show gO (tF T23 m 70 #[.val (.int p0), .val (.ref b1)] [(.ref b1)])
     refine goA X23 hx hlk Bd.returns rfl rfl (D 41) ?_ (by decide) (by decide)
     show Q6 Z p0 w_c f_ wE wL wD wA kD kA h0 n0 (some (.ref b1)) T23.heap _
     have hm : (mm p0).map (fI f_) = [(fI f_ (4 : Int32))] := by
      unfold mm
      rw [if_pos hc11_16, if_pos hc26_17, if_pos hc41_18, if_neg hc57_19]
      first | done | rfl
     have c43 := (c22.keep K23 (geS g6 geN))
     have c44 := (c24.keep K23)
     refine ⟨b1, rfl, N23, K42, sz_b1, ?_⟩
     rw [hm]
     exact ⟨c44, F29, Nat.le_of_ble_eq_true rfl, (allS (own_Wint c43 (by decide) (by decide)).1 all0), Or.inr ⟨b25, k26, F28, F31, F32⟩⟩
   ·skip
    refine go (XS.ifNo X9.here hx rfl (D 25) rfl ((if0 _ _).trans (feq hc41_18).1)) ?_
    refine gaN X9 hx (D 26) rfl rfl ?_
    refine giC X9 hx (D 27) ?_
    have c46 := (c10.keep K9 (geS g6 geN))
    obtain ⟨_, T45, Lc45, X45, hQ45, st45⟩ := clS X9 (Jvm.LawKit.callS X9 hx (y := M_31) hown (mvT hZ (u 38)) (mvT hZ (u 39)) (mvT hZ (u 40)) (mvT hZ (u 41)) (by decide) (backOf (W := 1) (rm7 l Z a0 hw [] (3 : Int32) w_c f_ wE wL wD wA kD kA T9.heap n0 z14 c46 (by decide) (by decide)) hZ (u 41) (u 40) (by decide) (by decide)) (g := (mkF m 46 #[.val (.int p0), .val (.ref b1)] [(.int 3), (.ref b1)])) rfl (by rw [hml]; rfl) (argsL := [(.int 3)]) (rest := [(.ref b1)]) (lenOf pd_16 rfl) rfl (wk rfl rfl) (D 28) (fun _ _ => ⟨rfl, (rfl : T9.heap = _), lD rfl, lD rfl⟩)) (k := 1) (n := 3) rfl rfl
    obtain ⟨rfl, Nq45, e45⟩ := hQ45
    have N45 := Fr.app N9 Nq45
    refine gob st45 ?_
    have c48 := (A1.keep K9)
    obtain ⟨cq47, kq47, q47a, q47b, q47c⟩ := isOf hZ e45 c48
    obtain ⟨_, T47, Lc47, X47, hQ47, st47⟩ := clB X45 (X45.virtualBack hx (y := M_30) (z := M_30) hown (mvT hZ (u 45)) (mvT hZ (u 46)) (notFace_of_selects (args := #[]) (mvT hZ (u 48))) (mvT hZ (u 48)) (mvT hZ (u 47)) (by decide) (backOf (W := 0) (rm8_0g l Z a0 hw [] b1 (fI f_ (3 : Int32)) wD (0 : Int32) kD s_4 T9.heap n0 z14 c48 F12 F13 F11 (own_WDv c46) n5 (own_WD c46) (u 75) (own_Wint c46 (by decide) (by decide)).1 g6) hZ (u 49) (u 8) (by decide) (by decide)) q47a q47c (g := (mkF m 49 #[.val (.int p0), .val (.ref b1)] [(.ref (fI f_ (3 : Int32))), (.ref b1)])) rfl (by rw [hml]; rfl) (Steps.refl _) (argsL := [(.ref (fI f_ (3 : Int32)))]) (rest := []) (lenOf pd_17 rfl) rfl (wk rfl rfl) (D 29) (fun _ _ => ⟨rfl, e45, lD rfl, lD rfl⟩)) (k := 2) (n := 13) rfl rfl
    obtain ⟨b49, k50, rfl, Nq47, K47, hz51, F52, F53, F54, F55, F56, hi57⟩ := hQ47
    have N47 := Fr.app N45 Nq47
    have n62 : b1 ≠ b49 := nlt c48.lt hz51
    have g64 : n0 ≤ b49 := Nat.le_trans z14 hz51
    have sz_b49 : h0.size ≤ b49 := Nat.le_trans K15.1 hz51
    have z65 : n0 ≤ T47.heap.size := Nat.le_trans z14 K47.1
    have K66 : Keep h0 T47.heap ([] : List Addr) := K15.trans K47 (allS (Or.inr sz_b1) all0)
    refine gob (fun _ k => st47.trans k) ?_
    refine go (XS.pop X47.here hx rfl (D 30) rfl rfl) ?_
    refine giN X47 hx (D 31) rfl ?_
    refine go (XS.bipush X47.here hx rfl (D 32)) ?_
    refine go (XS.iand X47.here hx rfl (D 33) rfl) ?_
    show gO (tF T47 m 57 #[.val (.int p0), .val (.ref b1)] [(.int (p0 &&& (8 : Int32)))])
    by_cases hc57_67 : (p0 &&& (8 : Int32)) = (0 : Int32)
    ·skip
     refine go (XS.ifYes X47.here hx rfl (pc0 := 57) (pc' := 69) rfl (D 34) rfl ((if0 _ _).trans (teq hc57_67).1) (by decide) (by decide)) ?_
     refine gaN X47 hx (D 40) rfl rfl ?_
     refine goA X47 hx hlk Bd.returns rfl rfl (D 41) ?_ (by decide) (by decide)
     show Q6 Z p0 w_c f_ wE wL wD wA kD kA h0 n0 (some (.ref b1)) T47.heap _
     have hm : (mm p0).map (fI f_) = [(fI f_ (3 : Int32))] := by
      unfold mm
      rw [if_pos hc11_16, if_pos hc26_17, if_neg hc41_18, if_pos hc57_67]
      first | done | rfl
     have c68 := (c46.keep K47 (geS g6 geN))
     have c69 := (c48.keep K47)
     refine ⟨b1, rfl, N47, K66, sz_b1, ?_⟩
     rw [hm]
     exact ⟨c69, F53, Nat.le_of_ble_eq_true rfl, (allS (own_Wint c68 (by decide) (by decide)).1 all0), Or.inr ⟨b49, k50, F52, F55, F56⟩⟩
    ·skip
     refine go (XS.ifNo X47.here hx rfl (D 34) rfl ((if0 _ _).trans (feq hc57_67).1)) ?_
     refine gaN X47 hx (D 35) rfl rfl ?_
     refine giC X47 hx (D 36) ?_
     have c71 := (c46.keep K47 (geS g6 geN))
     obtain ⟨_, T70, Lc70, X70, hQ70, st70⟩ := clS X47 (Jvm.LawKit.callS X47 hx (y := M_31) hown (mvT hZ (u 38)) (mvT hZ (u 39)) (mvT hZ (u 40)) (mvT hZ (u 41)) (by decide) (backOf (W := 1) (rm7 l Z a0 hw [] (4 : Int32) w_c f_ wE wL wD wA kD kA T47.heap n0 z65 c71 (by decide) (by decide)) hZ (u 41) (u 40) (by decide) (by decide)) (g := (mkF m 62 #[.val (.int p0), .val (.ref b1)] [(.int 4), (.ref b1)])) rfl (by rw [hml]; rfl) (argsL := [(.int 4)]) (rest := [(.ref b1)]) (lenOf pd_16 rfl) rfl (wk rfl rfl) (D 37) (fun _ _ => ⟨rfl, (rfl : T47.heap = _), lD rfl, lD rfl⟩)) (k := 2) (n := 13) rfl rfl
     obtain ⟨rfl, Nq70, e70⟩ := hQ70
     have N70 := Fr.app N47 Nq70
     refine gob st70 ?_
     have c73 := (c48.keep K47)
     obtain ⟨cq72, kq72, q72a, q72b, q72c⟩ := isOf hZ e70 c73
     obtain ⟨_, T72, Lc72, X72, hQ72, st72⟩ := clB X70 (X70.virtualBack hx (y := M_30) (z := M_30) hown (mvT hZ (u 45)) (mvT hZ (u 46)) (notFace_of_selects (args := #[]) (mvT hZ (u 48))) (mvT hZ (u 48)) (mvT hZ (u 47)) (by decide) (backOf (W := 0) (rm8_1r l Z a0 hw [] b1 (fI f_ (4 : Int32)) b49 ((0 : Int32) + (1 : Int32)) k50 (fI f_ (3 : Int32)) T47.heap n0 z65 c73 F52 F53 F54 F56 (Ne.symm n62) hi57 (own_Wint c71 (by decide) (by decide)).1 g6 g64) hZ (u 49) (u 8) (by decide) (by decide)) q72a q72c (g := (mkF m 65 #[.val (.int p0), .val (.ref b1)] [(.ref (fI f_ (4 : Int32))), (.ref b1)])) rfl (by rw [hml]; rfl) (Steps.refl _) (argsL := [(.ref (fI f_ (4 : Int32)))]) (rest := []) (lenOf pd_17 rfl) rfl (wk rfl rfl) (D 38) (fun _ _ => ⟨rfl, e70, lD rfl, lD rfl⟩)) (k := 2) (n := 13) rfl rfl
     obtain ⟨rfl, Nq72, K72, F74, F75, F76, F77⟩ := hQ72
     have N72 := Fr.app N70 Nq72
     have K79 : Keep h0 T72.heap ([] : List Addr) := K66.trans K72 (allS (Or.inr sz_b1) (allS (Or.inr sz_b49) all0))
     refine gob (fun _ k => st72.trans k) ?_
     refine go (XS.pop X72.here hx rfl (D 39) rfl rfl) ?_
     refine gaN X72 hx (D 40) rfl rfl ?_
     show gO (tF T72 m 70 #[.val (.int p0), .val (.ref b1)] [(.ref b1)])
     refine goA X72 hx hlk Bd.returns rfl rfl (D 41) ?_ (by decide) (by decide)
     show Q6 Z p0 w_c f_ wE wL wD wA kD kA h0 n0 (some (.ref b1)) T72.heap _
     have hm : (mm p0).map (fI f_) = [(fI f_ (3 : Int32)), (fI f_ (4 : Int32))] := by
      unfold mm
      rw [if_pos hc11_16, if_pos hc26_17, if_neg hc41_18, if_neg hc57_67]
      first | done | rfl
     have c80 := (c71.keep K72 (geS g6 (geS g64 geN)))
     have c81 := (F55.keep K72)
     have c82 := (c73.keep K72)
     refine ⟨b1, rfl, N72, K79, sz_b1, ?_⟩
     rw [hm]
     exact ⟨c82, F75, Nat.le_of_ble_eq_true rfl, (allS (own_Wint c80 (by decide) (by decide)).1 (allS (own_Wint c80 (by decide) (by decide)).1 all0)), Or.inr ⟨b49, k50, F74, c81, F77⟩⟩
  ·skip
   refine go (XS.ifNo X9.here hx rfl (D 16) rfl ((if0 _ _).trans (feq hc26_17).1)) ?_
   refine gaN X9 hx (D 17) rfl rfl ?_
   refine giC X9 hx (D 18) ?_
   have c84 := (c10.keep K9 (geS g6 geN))
   obtain ⟨_, T83, Lc83, X83, hQ83, st83⟩ := clS X9 (Jvm.LawKit.callS X9 hx (y := M_31) hown (mvT hZ (u 38)) (mvT hZ (u 39)) (mvT hZ (u 40)) (mvT hZ (u 41)) (by decide) (backOf (W := 1) (rm7 l Z a0 hw [] (2 : Int32) w_c f_ wE wL wD wA kD kA T9.heap n0 z14 c84 (by decide) (by decide)) hZ (u 41) (u 40) (by decide) (by decide)) (g := (mkF m 31 #[.val (.int p0), .val (.ref b1)] [(.int 2), (.ref b1)])) rfl (by rw [hml]; rfl) (argsL := [(.int 2)]) (rest := [(.ref b1)]) (lenOf pd_16 rfl) rfl (wk rfl rfl) (D 19) (fun _ _ => ⟨rfl, (rfl : T9.heap = _), lD rfl, lD rfl⟩)) (k := 1) (n := 3) rfl rfl
   obtain ⟨rfl, Nq83, e83⟩ := hQ83
   have N83 := Fr.app N9 Nq83
   refine gob st83 ?_
   have c86 := (A1.keep K9)
   obtain ⟨cq85, kq85, q85a, q85b, q85c⟩ := isOf hZ e83 c86
   obtain ⟨_, T85, Lc85, X85, hQ85, st85⟩ := clB X83 (X83.virtualBack hx (y := M_30) (z := M_30) hown (mvT hZ (u 45)) (mvT hZ (u 46)) (notFace_of_selects (args := #[]) (mvT hZ (u 48))) (mvT hZ (u 48)) (mvT hZ (u 47)) (by decide) (backOf (W := 0) (rm8_0g l Z a0 hw [] b1 (fI f_ (2 : Int32)) wD (0 : Int32) kD s_4 T9.heap n0 z14 c86 F12 F13 F11 (own_WDv c84) n5 (own_WD c84) (u 75) (own_Wint c84 (by decide) (by decide)).1 g6) hZ (u 49) (u 8) (by decide) (by decide)) q85a q85c (g := (mkF m 34 #[.val (.int p0), .val (.ref b1)] [(.ref (fI f_ (2 : Int32))), (.ref b1)])) rfl (by rw [hml]; rfl) (Steps.refl _) (argsL := [(.ref (fI f_ (2 : Int32)))]) (rest := []) (lenOf pd_17 rfl) rfl (wk rfl rfl) (D 20) (fun _ _ => ⟨rfl, e83, lD rfl, lD rfl⟩)) (k := 2) (n := 13) rfl rfl
   obtain ⟨b87, k88, rfl, Nq85, K85, hz89, F90, F91, F92, F93, F94, hi95⟩ := hQ85
   have N85 := Fr.app N83 Nq85
   have n100 : b1 ≠ b87 := nlt c86.lt hz89
   have g102 : n0 ≤ b87 := Nat.le_trans z14 hz89
   have sz_b87 : h0.size ≤ b87 := Nat.le_trans K15.1 hz89
   have z103 : n0 ≤ T85.heap.size := Nat.le_trans z14 K85.1
   have K104 : Keep h0 T85.heap ([] : List Addr) := K15.trans K85 (allS (Or.inr sz_b1) all0)
   refine gob (fun _ k => st85.trans k) ?_
   refine go (XS.pop X85.here hx rfl (D 21) rfl rfl) ?_
   refine giN X85 hx (D 22) rfl ?_
   refine giC X85 hx (D 23) ?_
   refine go (XS.iand X85.here hx rfl (D 24) rfl) ?_
   show gO (tF T85 m 41 #[.val (.int p0), .val (.ref b1)] [(.int (p0 &&& (4 : Int32)))])
   by_cases hc41_105 : (p0 &&& (4 : Int32)) = (0 : Int32)
   ·skip
    refine go (XS.ifYes X85.here hx rfl (pc0 := 41) (pc' := 53) rfl (D 25) rfl ((if0 _ _).trans (teq hc41_105).1) (by decide) (by decide)) ?_
    refine giN X85 hx (D 31) rfl ?_
    refine go (XS.bipush X85.here hx rfl (D 32)) ?_
    refine go (XS.iand X85.here hx rfl (D 33) rfl) ?_
    show gO (tF T85 m 57 #[.val (.int p0), .val (.ref b1)] [(.int (p0 &&& (8 : Int32)))])
    by_cases hc57_106 : (p0 &&& (8 : Int32)) = (0 : Int32)
    ·skip
     refine go (XS.ifYes X85.here hx rfl (pc0 := 57) (pc' := 69) rfl (D 34) rfl ((if0 _ _).trans (teq hc57_106).1) (by decide) (by decide)) ?_
     refine gaN X85 hx (D 40) rfl rfl ?_
     refine goA X85 hx hlk Bd.returns rfl rfl (D 41) ?_ (by decide) (by decide)
     show Q6 Z p0 w_c f_ wE wL wD wA kD kA h0 n0 (some (.ref b1)) T85.heap _
     have hm : (mm p0).map (fI f_) = [(fI f_ (2 : Int32))] := by
      unfold mm
      rw [if_pos hc11_16, if_neg hc26_17, if_pos hc41_105, if_pos hc57_106]
      first | done | rfl
     have c107 := (c84.keep K85 (geS g6 geN))
     have c108 := (c86.keep K85)
     refine ⟨b1, rfl, N85, K104, sz_b1, ?_⟩
     rw [hm]
     exact ⟨c108, F91, Nat.le_of_ble_eq_true rfl, (allS (own_Wint c107 (by decide) (by decide)).1 all0), Or.inr ⟨b87, k88, F90, F93, F94⟩⟩
    ·skip
     refine go (XS.ifNo X85.here hx rfl (D 34) rfl ((if0 _ _).trans (feq hc57_106).1)) ?_
     refine gaN X85 hx (D 35) rfl rfl ?_
     refine giC X85 hx (D 36) ?_
     have c110 := (c84.keep K85 (geS g6 geN))
     obtain ⟨_, T109, Lc109, X109, hQ109, st109⟩ := clS X85 (Jvm.LawKit.callS X85 hx (y := M_31) hown (mvT hZ (u 38)) (mvT hZ (u 39)) (mvT hZ (u 40)) (mvT hZ (u 41)) (by decide) (backOf (W := 1) (rm7 l Z a0 hw [] (4 : Int32) w_c f_ wE wL wD wA kD kA T85.heap n0 z103 c110 (by decide) (by decide)) hZ (u 41) (u 40) (by decide) (by decide)) (g := (mkF m 62 #[.val (.int p0), .val (.ref b1)] [(.int 4), (.ref b1)])) rfl (by rw [hml]; rfl) (argsL := [(.int 4)]) (rest := [(.ref b1)]) (lenOf pd_16 rfl) rfl (wk rfl rfl) (D 37) (fun _ _ => ⟨rfl, (rfl : T85.heap = _), lD rfl, lD rfl⟩)) (k := 2) (n := 13) rfl rfl
     obtain ⟨rfl, Nq109, e109⟩ := hQ109
     have N109 := Fr.app N85 Nq109
     refine gob st109 ?_
     have c112 := (c86.keep K85)
     obtain ⟨cq111, kq111, q111a, q111b, q111c⟩ := isOf hZ e109 c112
     obtain ⟨_, T111, Lc111, X111, hQ111, st111⟩ := clB X109 (X109.virtualBack hx (y := M_30) (z := M_30) hown (mvT hZ (u 45)) (mvT hZ (u 46)) (notFace_of_selects (args := #[]) (mvT hZ (u 48))) (mvT hZ (u 48)) (mvT hZ (u 47)) (by decide) (backOf (W := 0) (rm8_1r l Z a0 hw [] b1 (fI f_ (4 : Int32)) b87 ((0 : Int32) + (1 : Int32)) k88 (fI f_ (2 : Int32)) T85.heap n0 z103 c112 F90 F91 F92 F94 (Ne.symm n100) hi95 (own_Wint c110 (by decide) (by decide)).1 g6 g102) hZ (u 49) (u 8) (by decide) (by decide)) q111a q111c (g := (mkF m 65 #[.val (.int p0), .val (.ref b1)] [(.ref (fI f_ (4 : Int32))), (.ref b1)])) rfl (by rw [hml]; rfl) (Steps.refl _) (argsL := [(.ref (fI f_ (4 : Int32)))]) (rest := []) (lenOf pd_17 rfl) rfl (wk rfl rfl) (D 38) (fun _ _ => ⟨rfl, e109, lD rfl, lD rfl⟩)) (k := 2) (n := 13) rfl rfl
     obtain ⟨rfl, Nq111, K111, F113, F114, F115, F116⟩ := hQ111
     have N111 := Fr.app N109 Nq111
     have K118 : Keep h0 T111.heap ([] : List Addr) := K104.trans K111 (allS (Or.inr sz_b1) (allS (Or.inr sz_b87) all0))
     refine gob (fun _ k => st111.trans k) ?_
     refine go (XS.pop X111.here hx rfl (D 39) rfl rfl) ?_
     refine gaN X111 hx (D 40) rfl rfl ?_
     show gO (tF T111 m 70 #[.val (.int p0), .val (.ref b1)] [(.ref b1)])
     refine goA X111 hx hlk Bd.returns rfl rfl (D 41) ?_ (by decide) (by decide)
     show Q6 Z p0 w_c f_ wE wL wD wA kD kA h0 n0 (some (.ref b1)) T111.heap _
     have hm : (mm p0).map (fI f_) = [(fI f_ (2 : Int32)), (fI f_ (4 : Int32))] := by
      unfold mm
      rw [if_pos hc11_16, if_neg hc26_17, if_pos hc41_105, if_neg hc57_106]
      first | done | rfl
     have c119 := (c110.keep K111 (geS g6 (geS g102 geN)))
     have c120 := (F93.keep K111)
     have c121 := (c112.keep K111)
     refine ⟨b1, rfl, N111, K118, sz_b1, ?_⟩
     rw [hm]
     exact ⟨c121, F114, Nat.le_of_ble_eq_true rfl, (allS (own_Wint c119 (by decide) (by decide)).1 (allS (own_Wint c119 (by decide) (by decide)).1 all0)), Or.inr ⟨b87, k88, F113, c120, F116⟩⟩
   ·skip
    refine go (XS.ifNo X85.here hx rfl (D 25) rfl ((if0 _ _).trans (feq hc41_105).1)) ?_
    refine gaN X85 hx (D 26) rfl rfl ?_
    refine giC X85 hx (D 27) ?_
    have c123 := (c84.keep K85 (geS g6 geN))
    obtain ⟨_, T122, Lc122, X122, hQ122, st122⟩ := clS X85 (Jvm.LawKit.callS X85 hx (y := M_31) hown (mvT hZ (u 38)) (mvT hZ (u 39)) (mvT hZ (u 40)) (mvT hZ (u 41)) (by decide) (backOf (W := 1) (rm7 l Z a0 hw [] (3 : Int32) w_c f_ wE wL wD wA kD kA T85.heap n0 z103 c123 (by decide) (by decide)) hZ (u 41) (u 40) (by decide) (by decide)) (g := (mkF m 46 #[.val (.int p0), .val (.ref b1)] [(.int 3), (.ref b1)])) rfl (by rw [hml]; rfl) (argsL := [(.int 3)]) (rest := [(.ref b1)]) (lenOf pd_16 rfl) rfl (wk rfl rfl) (D 28) (fun _ _ => ⟨rfl, (rfl : T85.heap = _), lD rfl, lD rfl⟩)) (k := 2) (n := 13) rfl rfl
    obtain ⟨rfl, Nq122, e122⟩ := hQ122
    have N122 := Fr.app N85 Nq122
    refine gob st122 ?_
    have c125 := (c86.keep K85)
    obtain ⟨cq124, kq124, q124a, q124b, q124c⟩ := isOf hZ e122 c125
    obtain ⟨_, T124, Lc124, X124, hQ124, st124⟩ := clB X122 (X122.virtualBack hx (y := M_30) (z := M_30) hown (mvT hZ (u 45)) (mvT hZ (u 46)) (notFace_of_selects (args := #[]) (mvT hZ (u 48))) (mvT hZ (u 48)) (mvT hZ (u 47)) (by decide) (backOf (W := 0) (rm8_1r l Z a0 hw [] b1 (fI f_ (3 : Int32)) b87 ((0 : Int32) + (1 : Int32)) k88 (fI f_ (2 : Int32)) T85.heap n0 z103 c125 F90 F91 F92 F94 (Ne.symm n100) hi95 (own_Wint c123 (by decide) (by decide)).1 g6 g102) hZ (u 49) (u 8) (by decide) (by decide)) q124a q124c (g := (mkF m 49 #[.val (.int p0), .val (.ref b1)] [(.ref (fI f_ (3 : Int32))), (.ref b1)])) rfl (by rw [hml]; rfl) (Steps.refl _) (argsL := [(.ref (fI f_ (3 : Int32)))]) (rest := []) (lenOf pd_17 rfl) rfl (wk rfl rfl) (D 29) (fun _ _ => ⟨rfl, e122, lD rfl, lD rfl⟩)) (k := 2) (n := 13) rfl rfl
    obtain ⟨rfl, Nq124, K124, F126, F127, F128, F129⟩ := hQ124
    have N124 := Fr.app N122 Nq124
    have z130 : n0 ≤ T124.heap.size := Nat.le_trans z103 K124.1
    have K131 : Keep h0 T124.heap ([] : List Addr) := K104.trans K124 (allS (Or.inr sz_b1) (allS (Or.inr sz_b87) all0))
    refine gob (fun _ k => st124.trans k) ?_
    refine go (XS.pop X124.here hx rfl (D 30) rfl rfl) ?_
    refine giN X124 hx (D 31) rfl ?_
    refine go (XS.bipush X124.here hx rfl (D 32)) ?_
    refine go (XS.iand X124.here hx rfl (D 33) rfl) ?_
    show gO (tF T124 m 57 #[.val (.int p0), .val (.ref b1)] [(.int (p0 &&& (8 : Int32)))])
    by_cases hc57_132 : (p0 &&& (8 : Int32)) = (0 : Int32)
    ·skip
     refine go (XS.ifYes X124.here hx rfl (pc0 := 57) (pc' := 69) rfl (D 34) rfl ((if0 _ _).trans (teq hc57_132).1) (by decide) (by decide)) ?_
     refine gaN X124 hx (D 40) rfl rfl ?_
     refine goA X124 hx hlk Bd.returns rfl rfl (D 41) ?_ (by decide) (by decide)
     show Q6 Z p0 w_c f_ wE wL wD wA kD kA h0 n0 (some (.ref b1)) T124.heap _
     have hm : (mm p0).map (fI f_) = [(fI f_ (2 : Int32)), (fI f_ (3 : Int32))] := by
      unfold mm
      rw [if_pos hc11_16, if_neg hc26_17, if_neg hc41_105, if_pos hc57_132]
      first | done | rfl
     have c133 := (c123.keep K124 (geS g6 (geS g102 geN)))
     have c134 := (F93.keep K124)
     have c135 := (c125.keep K124)
     refine ⟨b1, rfl, N124, K131, sz_b1, ?_⟩
     rw [hm]
     exact ⟨c135, F127, Nat.le_of_ble_eq_true rfl, (allS (own_Wint c133 (by decide) (by decide)).1 (allS (own_Wint c133 (by decide) (by decide)).1 all0)), Or.inr ⟨b87, k88, F126, c134, F129⟩⟩
    ·skip
     refine go (XS.ifNo X124.here hx rfl (D 34) rfl ((if0 _ _).trans (feq hc57_132).1)) ?_
     refine gaN X124 hx (D 35) rfl rfl ?_
     refine giC X124 hx (D 36) ?_
     have c137 := (c123.keep K124 (geS g6 (geS g102 geN)))
     obtain ⟨_, T136, Lc136, X136, hQ136, st136⟩ := clS X124 (Jvm.LawKit.callS X124 hx (y := M_31) hown (mvT hZ (u 38)) (mvT hZ (u 39)) (mvT hZ (u 40)) (mvT hZ (u 41)) (by decide) (backOf (W := 1) (rm7 l Z a0 hw [] (4 : Int32) w_c f_ wE wL wD wA kD kA T124.heap n0 z130 c137 (by decide) (by decide)) hZ (u 41) (u 40) (by decide) (by decide)) (g := (mkF m 62 #[.val (.int p0), .val (.ref b1)] [(.int 4), (.ref b1)])) rfl (by rw [hml]; rfl) (argsL := [(.int 4)]) (rest := [(.ref b1)]) (lenOf pd_16 rfl) rfl (wk rfl rfl) (D 37) (fun _ _ => ⟨rfl, (rfl : T124.heap = _), lD rfl, lD rfl⟩)) (k := 2) (n := 13) rfl rfl
     obtain ⟨rfl, Nq136, e136⟩ := hQ136
     have N136 := Fr.app N124 Nq136
     refine gob st136 ?_
     have c139 := (c125.keep K124)
     obtain ⟨cq138, kq138, q138a, q138b, q138c⟩ := isOf hZ e136 c139
     obtain ⟨_, T138, Lc138, X138, hQ138, st138⟩ := clB X136 (X136.virtualBack hx (y := M_30) (z := M_30) hown (mvT hZ (u 45)) (mvT hZ (u 46)) (notFace_of_selects (args := #[]) (mvT hZ (u 48))) (mvT hZ (u 48)) (mvT hZ (u 47)) (by decide) (backOf (W := 0) (rm8_2r l Z a0 hw [] b1 (fI f_ (4 : Int32)) b87 (((0 : Int32) + (1 : Int32)) + (1 : Int32)) k88 (fI f_ (2 : Int32)) (fI f_ (3 : Int32)) T124.heap n0 z130 c139 F126 F127 F128 F129 (Ne.symm n100) hi95 (own_Wint c137 (by decide) (by decide)).1 g6 g102) hZ (u 49) (u 8) (by decide) (by decide)) q138a q138c (g := (mkF m 65 #[.val (.int p0), .val (.ref b1)] [(.ref (fI f_ (4 : Int32))), (.ref b1)])) rfl (by rw [hml]; rfl) (Steps.refl _) (argsL := [(.ref (fI f_ (4 : Int32)))]) (rest := []) (lenOf pd_17 rfl) rfl (wk rfl rfl) (D 38) (fun _ _ => ⟨rfl, e136, lD rfl, lD rfl⟩)) (k := 2) (n := 13) rfl rfl
     obtain ⟨rfl, Nq138, K138, F140, F141, F142, F143⟩ := hQ138
     have N138 := Fr.app N136 Nq138
     have K145 : Keep h0 T138.heap ([] : List Addr) := K131.trans K138 (allS (Or.inr sz_b1) (allS (Or.inr sz_b87) all0))
     refine gob (fun _ k => st138.trans k) ?_
     refine go (XS.pop X138.here hx rfl (D 39) rfl rfl) ?_
     refine gaN X138 hx (D 40) rfl rfl ?_
     show gO (tF T138 m 70 #[.val (.int p0), .val (.ref b1)] [(.ref b1)])
     refine goA X138 hx hlk Bd.returns rfl rfl (D 41) ?_ (by decide) (by decide)
     show Q6 Z p0 w_c f_ wE wL wD wA kD kA h0 n0 (some (.ref b1)) T138.heap _
     have hm : (mm p0).map (fI f_) = [(fI f_ (2 : Int32)), (fI f_ (3 : Int32)), (fI f_ (4 : Int32))] := by
      unfold mm
      rw [if_pos hc11_16, if_neg hc26_17, if_neg hc41_105, if_neg hc57_132]
      first | done | rfl
     have c146 := (c137.keep K138 (geS g6 (geS g102 geN)))
     have c147 := ((F93.keep K124).keep K138)
     have c148 := (c139.keep K138)
     refine ⟨b1, rfl, N138, K145, sz_b1, ?_⟩
     rw [hm]
     exact ⟨c148, F141, Nat.le_of_ble_eq_true rfl, (allS (own_Wint c146 (by decide) (by decide)).1 (allS (own_Wint c146 (by decide) (by decide)).1 (allS (own_Wint c146 (by decide) (by decide)).1 all0))), Or.inr ⟨b87, k88, F140, c147, F143⟩⟩
 ·skip
  refine go (XS.ifNo X9.here hx rfl (D 7) rfl ((if0 _ _).trans (feq hc11_16).1)) ?_
  refine gaN X9 hx (D 8) rfl rfl ?_
  refine giC X9 hx (D 9) ?_
  have c150 := (c10.keep K9 (geS g6 geN))
  obtain ⟨_, T149, Lc149, X149, hQ149, st149⟩ := clS X9 (Jvm.LawKit.callS X9 hx (y := M_31) hown (mvT hZ (u 38)) (mvT hZ (u 39)) (mvT hZ (u 40)) (mvT hZ (u 41)) (by decide) (backOf (W := 1) (rm7 l Z a0 hw [] (1 : Int32) w_c f_ wE wL wD wA kD kA T9.heap n0 z14 c150 (by decide) (by decide)) hZ (u 41) (u 40) (by decide) (by decide)) (g := (mkF m 16 #[.val (.int p0), .val (.ref b1)] [(.int 1), (.ref b1)])) rfl (by rw [hml]; rfl) (argsL := [(.int 1)]) (rest := [(.ref b1)]) (lenOf pd_16 rfl) rfl (wk rfl rfl) (D 10) (fun _ _ => ⟨rfl, (rfl : T9.heap = _), lD rfl, lD rfl⟩)) (k := 1) (n := 3) rfl rfl
  obtain ⟨rfl, Nq149, e149⟩ := hQ149
  have N149 := Fr.app N9 Nq149
  refine gob st149 ?_
  have c152 := (A1.keep K9)
  obtain ⟨cq151, kq151, q151a, q151b, q151c⟩ := isOf hZ e149 c152
  obtain ⟨_, T151, Lc151, X151, hQ151, st151⟩ := clB X149 (X149.virtualBack hx (y := M_30) (z := M_30) hown (mvT hZ (u 45)) (mvT hZ (u 46)) (notFace_of_selects (args := #[]) (mvT hZ (u 48))) (mvT hZ (u 48)) (mvT hZ (u 47)) (by decide) (backOf (W := 0) (rm8_0g l Z a0 hw [] b1 (fI f_ (1 : Int32)) wD (0 : Int32) kD s_4 T9.heap n0 z14 c152 F12 F13 F11 (own_WDv c150) n5 (own_WD c150) (u 75) (own_Wint c150 (by decide) (by decide)).1 g6) hZ (u 49) (u 8) (by decide) (by decide)) q151a q151c (g := (mkF m 19 #[.val (.int p0), .val (.ref b1)] [(.ref (fI f_ (1 : Int32))), (.ref b1)])) rfl (by rw [hml]; rfl) (Steps.refl _) (argsL := [(.ref (fI f_ (1 : Int32)))]) (rest := []) (lenOf pd_17 rfl) rfl (wk rfl rfl) (D 11) (fun _ _ => ⟨rfl, e149, lD rfl, lD rfl⟩)) (k := 2) (n := 13) rfl rfl
  obtain ⟨b153, k154, rfl, Nq151, K151, hz155, F156, F157, F158, F159, F160, hi161⟩ := hQ151
  have N151 := Fr.app N149 Nq151
  have n166 : b1 ≠ b153 := nlt c152.lt hz155
  have g168 : n0 ≤ b153 := Nat.le_trans z14 hz155
  have sz_b153 : h0.size ≤ b153 := Nat.le_trans K15.1 hz155
  have z169 : n0 ≤ T151.heap.size := Nat.le_trans z14 K151.1
  have K170 : Keep h0 T151.heap ([] : List Addr) := K15.trans K151 (allS (Or.inr sz_b1) all0)
  refine gob (fun _ k => st151.trans k) ?_
  refine go (XS.pop X151.here hx rfl (D 12) rfl rfl) ?_
  refine giN X151 hx (D 13) rfl ?_
  refine giC X151 hx (D 14) ?_
  refine go (XS.iand X151.here hx rfl (D 15) rfl) ?_
  show gO (tF T151 m 26 #[.val (.int p0), .val (.ref b1)] [(.int (p0 &&& (2 : Int32)))])
  by_cases hc26_171 : (p0 &&& (2 : Int32)) = (0 : Int32)
  ·skip
   refine go (XS.ifYes X151.here hx rfl (pc0 := 26) (pc' := 38) rfl (D 16) rfl ((if0 _ _).trans (teq hc26_171).1) (by decide) (by decide)) ?_
   refine giN X151 hx (D 22) rfl ?_
   refine giC X151 hx (D 23) ?_
   refine go (XS.iand X151.here hx rfl (D 24) rfl) ?_
   show gO (tF T151 m 41 #[.val (.int p0), .val (.ref b1)] [(.int (p0 &&& (4 : Int32)))])
   by_cases hc41_172 : (p0 &&& (4 : Int32)) = (0 : Int32)
   ·skip
    refine go (XS.ifYes X151.here hx rfl (pc0 := 41) (pc' := 53) rfl (D 25) rfl ((if0 _ _).trans (teq hc41_172).1) (by decide) (by decide)) ?_
    refine giN X151 hx (D 31) rfl ?_
    refine go (XS.bipush X151.here hx rfl (D 32)) ?_
    refine go (XS.iand X151.here hx rfl (D 33) rfl) ?_
    show gO (tF T151 m 57 #[.val (.int p0), .val (.ref b1)] [(.int (p0 &&& (8 : Int32)))])
    by_cases hc57_173 : (p0 &&& (8 : Int32)) = (0 : Int32)
    ·skip
     refine go (XS.ifYes X151.here hx rfl (pc0 := 57) (pc' := 69) rfl (D 34) rfl ((if0 _ _).trans (teq hc57_173).1) (by decide) (by decide)) ?_
     refine gaN X151 hx (D 40) rfl rfl ?_
     refine goA X151 hx hlk Bd.returns rfl rfl (D 41) ?_ (by decide) (by decide)
     show Q6 Z p0 w_c f_ wE wL wD wA kD kA h0 n0 (some (.ref b1)) T151.heap _
     have hm : (mm p0).map (fI f_) = [(fI f_ (1 : Int32))] := by
      unfold mm
      rw [if_neg hc11_16, if_pos hc26_171, if_pos hc41_172, if_pos hc57_173]
      first | done | rfl
     have c174 := (c150.keep K151 (geS g6 geN))
     have c175 := (c152.keep K151)
     refine ⟨b1, rfl, N151, K170, sz_b1, ?_⟩
     rw [hm]
     exact ⟨c175, F157, Nat.le_of_ble_eq_true rfl, (allS (own_Wint c174 (by decide) (by decide)).1 all0), Or.inr ⟨b153, k154, F156, F159, F160⟩⟩
    ·skip
     refine go (XS.ifNo X151.here hx rfl (D 34) rfl ((if0 _ _).trans (feq hc57_173).1)) ?_
     refine gaN X151 hx (D 35) rfl rfl ?_
     refine giC X151 hx (D 36) ?_
     have c177 := (c150.keep K151 (geS g6 geN))
     obtain ⟨_, T176, Lc176, X176, hQ176, st176⟩ := clS X151 (Jvm.LawKit.callS X151 hx (y := M_31) hown (mvT hZ (u 38)) (mvT hZ (u 39)) (mvT hZ (u 40)) (mvT hZ (u 41)) (by decide) (backOf (W := 1) (rm7 l Z a0 hw [] (4 : Int32) w_c f_ wE wL wD wA kD kA T151.heap n0 z169 c177 (by decide) (by decide)) hZ (u 41) (u 40) (by decide) (by decide)) (g := (mkF m 62 #[.val (.int p0), .val (.ref b1)] [(.int 4), (.ref b1)])) rfl (by rw [hml]; rfl) (argsL := [(.int 4)]) (rest := [(.ref b1)]) (lenOf pd_16 rfl) rfl (wk rfl rfl) (D 37) (fun _ _ => ⟨rfl, (rfl : T151.heap = _), lD rfl, lD rfl⟩)) (k := 2) (n := 13) rfl rfl
     obtain ⟨rfl, Nq176, e176⟩ := hQ176
     have N176 := Fr.app N151 Nq176
     refine gob st176 ?_
     have c179 := (c152.keep K151)
     obtain ⟨cq178, kq178, q178a, q178b, q178c⟩ := isOf hZ e176 c179
     obtain ⟨_, T178, Lc178, X178, hQ178, st178⟩ := clB X176 (X176.virtualBack hx (y := M_30) (z := M_30) hown (mvT hZ (u 45)) (mvT hZ (u 46)) (notFace_of_selects (args := #[]) (mvT hZ (u 48))) (mvT hZ (u 48)) (mvT hZ (u 47)) (by decide) (backOf (W := 0) (rm8_1r l Z a0 hw [] b1 (fI f_ (4 : Int32)) b153 ((0 : Int32) + (1 : Int32)) k154 (fI f_ (1 : Int32)) T151.heap n0 z169 c179 F156 F157 F158 F160 (Ne.symm n166) hi161 (own_Wint c177 (by decide) (by decide)).1 g6 g168) hZ (u 49) (u 8) (by decide) (by decide)) q178a q178c (g := (mkF m 65 #[.val (.int p0), .val (.ref b1)] [(.ref (fI f_ (4 : Int32))), (.ref b1)])) rfl (by rw [hml]; rfl) (Steps.refl _) (argsL := [(.ref (fI f_ (4 : Int32)))]) (rest := []) (lenOf pd_17 rfl) rfl (wk rfl rfl) (D 38) (fun _ _ => ⟨rfl, e176, lD rfl, lD rfl⟩)) (k := 2) (n := 13) rfl rfl
     obtain ⟨rfl, Nq178, K178, F180, F181, F182, F183⟩ := hQ178
     have N178 := Fr.app N176 Nq178
     have K185 : Keep h0 T178.heap ([] : List Addr) := K170.trans K178 (allS (Or.inr sz_b1) (allS (Or.inr sz_b153) all0))
     refine gob (fun _ k => st178.trans k) ?_
     refine go (XS.pop X178.here hx rfl (D 39) rfl rfl) ?_
     refine gaN X178 hx (D 40) rfl rfl ?_
     show gO (tF T178 m 70 #[.val (.int p0), .val (.ref b1)] [(.ref b1)])
     refine goA X178 hx hlk Bd.returns rfl rfl (D 41) ?_ (by decide) (by decide)
     show Q6 Z p0 w_c f_ wE wL wD wA kD kA h0 n0 (some (.ref b1)) T178.heap _
     have hm : (mm p0).map (fI f_) = [(fI f_ (1 : Int32)), (fI f_ (4 : Int32))] := by
      unfold mm
      rw [if_neg hc11_16, if_pos hc26_171, if_pos hc41_172, if_neg hc57_173]
      first | done | rfl
     have c186 := (c177.keep K178 (geS g6 (geS g168 geN)))
     have c187 := (F159.keep K178)
     have c188 := (c179.keep K178)
     refine ⟨b1, rfl, N178, K185, sz_b1, ?_⟩
     rw [hm]
     exact ⟨c188, F181, Nat.le_of_ble_eq_true rfl, (allS (own_Wint c186 (by decide) (by decide)).1 (allS (own_Wint c186 (by decide) (by decide)).1 all0)), Or.inr ⟨b153, k154, F180, c187, F183⟩⟩
   ·skip
    refine go (XS.ifNo X151.here hx rfl (D 25) rfl ((if0 _ _).trans (feq hc41_172).1)) ?_
    refine gaN X151 hx (D 26) rfl rfl ?_
    refine giC X151 hx (D 27) ?_
    have c190 := (c150.keep K151 (geS g6 geN))
    obtain ⟨_, T189, Lc189, X189, hQ189, st189⟩ := clS X151 (Jvm.LawKit.callS X151 hx (y := M_31) hown (mvT hZ (u 38)) (mvT hZ (u 39)) (mvT hZ (u 40)) (mvT hZ (u 41)) (by decide) (backOf (W := 1) (rm7 l Z a0 hw [] (3 : Int32) w_c f_ wE wL wD wA kD kA T151.heap n0 z169 c190 (by decide) (by decide)) hZ (u 41) (u 40) (by decide) (by decide)) (g := (mkF m 46 #[.val (.int p0), .val (.ref b1)] [(.int 3), (.ref b1)])) rfl (by rw [hml]; rfl) (argsL := [(.int 3)]) (rest := [(.ref b1)]) (lenOf pd_16 rfl) rfl (wk rfl rfl) (D 28) (fun _ _ => ⟨rfl, (rfl : T151.heap = _), lD rfl, lD rfl⟩)) (k := 2) (n := 13) rfl rfl
    obtain ⟨rfl, Nq189, e189⟩ := hQ189
    have N189 := Fr.app N151 Nq189
    refine gob st189 ?_
    have c192 := (c152.keep K151)
    obtain ⟨cq191, kq191, q191a, q191b, q191c⟩ := isOf hZ e189 c192
    obtain ⟨_, T191, Lc191, X191, hQ191, st191⟩ := clB X189 (X189.virtualBack hx (y := M_30) (z := M_30) hown (mvT hZ (u 45)) (mvT hZ (u 46)) (notFace_of_selects (args := #[]) (mvT hZ (u 48))) (mvT hZ (u 48)) (mvT hZ (u 47)) (by decide) (backOf (W := 0) (rm8_1r l Z a0 hw [] b1 (fI f_ (3 : Int32)) b153 ((0 : Int32) + (1 : Int32)) k154 (fI f_ (1 : Int32)) T151.heap n0 z169 c192 F156 F157 F158 F160 (Ne.symm n166) hi161 (own_Wint c190 (by decide) (by decide)).1 g6 g168) hZ (u 49) (u 8) (by decide) (by decide)) q191a q191c (g := (mkF m 49 #[.val (.int p0), .val (.ref b1)] [(.ref (fI f_ (3 : Int32))), (.ref b1)])) rfl (by rw [hml]; rfl) (Steps.refl _) (argsL := [(.ref (fI f_ (3 : Int32)))]) (rest := []) (lenOf pd_17 rfl) rfl (wk rfl rfl) (D 29) (fun _ _ => ⟨rfl, e189, lD rfl, lD rfl⟩)) (k := 2) (n := 13) rfl rfl
    obtain ⟨rfl, Nq191, K191, F193, F194, F195, F196⟩ := hQ191
    have N191 := Fr.app N189 Nq191
    have z197 : n0 ≤ T191.heap.size := Nat.le_trans z169 K191.1
    have K198 : Keep h0 T191.heap ([] : List Addr) := K170.trans K191 (allS (Or.inr sz_b1) (allS (Or.inr sz_b153) all0))
    refine gob (fun _ k => st191.trans k) ?_
    refine go (XS.pop X191.here hx rfl (D 30) rfl rfl) ?_
    refine giN X191 hx (D 31) rfl ?_
    refine go (XS.bipush X191.here hx rfl (D 32)) ?_
    refine go (XS.iand X191.here hx rfl (D 33) rfl) ?_
    show gO (tF T191 m 57 #[.val (.int p0), .val (.ref b1)] [(.int (p0 &&& (8 : Int32)))])
    by_cases hc57_199 : (p0 &&& (8 : Int32)) = (0 : Int32)
    ·skip
     refine go (XS.ifYes X191.here hx rfl (pc0 := 57) (pc' := 69) rfl (D 34) rfl ((if0 _ _).trans (teq hc57_199).1) (by decide) (by decide)) ?_
     refine gaN X191 hx (D 40) rfl rfl ?_
     refine goA X191 hx hlk Bd.returns rfl rfl (D 41) ?_ (by decide) (by decide)
     show Q6 Z p0 w_c f_ wE wL wD wA kD kA h0 n0 (some (.ref b1)) T191.heap _
     have hm : (mm p0).map (fI f_) = [(fI f_ (1 : Int32)), (fI f_ (3 : Int32))] := by
      unfold mm
      rw [if_neg hc11_16, if_pos hc26_171, if_neg hc41_172, if_pos hc57_199]
      first | done | rfl
     have c200 := (c190.keep K191 (geS g6 (geS g168 geN)))
     have c201 := (F159.keep K191)
     have c202 := (c192.keep K191)
     refine ⟨b1, rfl, N191, K198, sz_b1, ?_⟩
     rw [hm]
     exact ⟨c202, F194, Nat.le_of_ble_eq_true rfl, (allS (own_Wint c200 (by decide) (by decide)).1 (allS (own_Wint c200 (by decide) (by decide)).1 all0)), Or.inr ⟨b153, k154, F193, c201, F196⟩⟩
    ·skip
     refine go (XS.ifNo X191.here hx rfl (D 34) rfl ((if0 _ _).trans (feq hc57_199).1)) ?_
     refine gaN X191 hx (D 35) rfl rfl ?_
     refine giC X191 hx (D 36) ?_
     have c204 := (c190.keep K191 (geS g6 (geS g168 geN)))
     obtain ⟨_, T203, Lc203, X203, hQ203, st203⟩ := clS X191 (Jvm.LawKit.callS X191 hx (y := M_31) hown (mvT hZ (u 38)) (mvT hZ (u 39)) (mvT hZ (u 40)) (mvT hZ (u 41)) (by decide) (backOf (W := 1) (rm7 l Z a0 hw [] (4 : Int32) w_c f_ wE wL wD wA kD kA T191.heap n0 z197 c204 (by decide) (by decide)) hZ (u 41) (u 40) (by decide) (by decide)) (g := (mkF m 62 #[.val (.int p0), .val (.ref b1)] [(.int 4), (.ref b1)])) rfl (by rw [hml]; rfl) (argsL := [(.int 4)]) (rest := [(.ref b1)]) (lenOf pd_16 rfl) rfl (wk rfl rfl) (D 37) (fun _ _ => ⟨rfl, (rfl : T191.heap = _), lD rfl, lD rfl⟩)) (k := 2) (n := 13) rfl rfl
     obtain ⟨rfl, Nq203, e203⟩ := hQ203
     have N203 := Fr.app N191 Nq203
     refine gob st203 ?_
     have c206 := (c192.keep K191)
     obtain ⟨cq205, kq205, q205a, q205b, q205c⟩ := isOf hZ e203 c206
     obtain ⟨_, T205, Lc205, X205, hQ205, st205⟩ := clB X203 (X203.virtualBack hx (y := M_30) (z := M_30) hown (mvT hZ (u 45)) (mvT hZ (u 46)) (notFace_of_selects (args := #[]) (mvT hZ (u 48))) (mvT hZ (u 48)) (mvT hZ (u 47)) (by decide) (backOf (W := 0) (rm8_2r l Z a0 hw [] b1 (fI f_ (4 : Int32)) b153 (((0 : Int32) + (1 : Int32)) + (1 : Int32)) k154 (fI f_ (1 : Int32)) (fI f_ (3 : Int32)) T191.heap n0 z197 c206 F193 F194 F195 F196 (Ne.symm n166) hi161 (own_Wint c204 (by decide) (by decide)).1 g6 g168) hZ (u 49) (u 8) (by decide) (by decide)) q205a q205c (g := (mkF m 65 #[.val (.int p0), .val (.ref b1)] [(.ref (fI f_ (4 : Int32))), (.ref b1)])) rfl (by rw [hml]; rfl) (Steps.refl _) (argsL := [(.ref (fI f_ (4 : Int32)))]) (rest := []) (lenOf pd_17 rfl) rfl (wk rfl rfl) (D 38) (fun _ _ => ⟨rfl, e203, lD rfl, lD rfl⟩)) (k := 2) (n := 13) rfl rfl
     obtain ⟨rfl, Nq205, K205, F207, F208, F209, F210⟩ := hQ205
     have N205 := Fr.app N203 Nq205
     have K212 : Keep h0 T205.heap ([] : List Addr) := K198.trans K205 (allS (Or.inr sz_b1) (allS (Or.inr sz_b153) all0))
     refine gob (fun _ k => st205.trans k) ?_
     refine go (XS.pop X205.here hx rfl (D 39) rfl rfl) ?_
     refine gaN X205 hx (D 40) rfl rfl ?_
     show gO (tF T205 m 70 #[.val (.int p0), .val (.ref b1)] [(.ref b1)])
     refine goA X205 hx hlk Bd.returns rfl rfl (D 41) ?_ (by decide) (by decide)
     show Q6 Z p0 w_c f_ wE wL wD wA kD kA h0 n0 (some (.ref b1)) T205.heap _
     have hm : (mm p0).map (fI f_) = [(fI f_ (1 : Int32)), (fI f_ (3 : Int32)), (fI f_ (4 : Int32))] := by
      unfold mm
      rw [if_neg hc11_16, if_pos hc26_171, if_neg hc41_172, if_neg hc57_199]
      first | done | rfl
     have c213 := (c204.keep K205 (geS g6 (geS g168 geN)))
     have c214 := ((F159.keep K191).keep K205)
     have c215 := (c206.keep K205)
     refine ⟨b1, rfl, N205, K212, sz_b1, ?_⟩
     rw [hm]
     exact ⟨c215, F208, Nat.le_of_ble_eq_true rfl, (allS (own_Wint c213 (by decide) (by decide)).1 (allS (own_Wint c213 (by decide) (by decide)).1 (allS (own_Wint c213 (by decide) (by decide)).1 all0))), Or.inr ⟨b153, k154, F207, c214, F210⟩⟩
  ·skip
   refine go (XS.ifNo X151.here hx rfl (D 16) rfl ((if0 _ _).trans (feq hc26_171).1)) ?_
   refine gaN X151 hx (D 17) rfl rfl ?_
   refine giC X151 hx (D 18) ?_
   have c217 := (c150.keep K151 (geS g6 geN))
   obtain ⟨_, T216, Lc216, X216, hQ216, st216⟩ := clS X151 (Jvm.LawKit.callS X151 hx (y := M_31) hown (mvT hZ (u 38)) (mvT hZ (u 39)) (mvT hZ (u 40)) (mvT hZ (u 41)) (by decide) (backOf (W := 1) (rm7 l Z a0 hw [] (2 : Int32) w_c f_ wE wL wD wA kD kA T151.heap n0 z169 c217 (by decide) (by decide)) hZ (u 41) (u 40) (by decide) (by decide)) (g := (mkF m 31 #[.val (.int p0), .val (.ref b1)] [(.int 2), (.ref b1)])) rfl (by rw [hml]; rfl) (argsL := [(.int 2)]) (rest := [(.ref b1)]) (lenOf pd_16 rfl) rfl (wk rfl rfl) (D 19) (fun _ _ => ⟨rfl, (rfl : T151.heap = _), lD rfl, lD rfl⟩)) (k := 2) (n := 13) rfl rfl
   obtain ⟨rfl, Nq216, e216⟩ := hQ216
   have N216 := Fr.app N151 Nq216
   refine gob st216 ?_
   have c219 := (c152.keep K151)
   obtain ⟨cq218, kq218, q218a, q218b, q218c⟩ := isOf hZ e216 c219
   obtain ⟨_, T218, Lc218, X218, hQ218, st218⟩ := clB X216 (X216.virtualBack hx (y := M_30) (z := M_30) hown (mvT hZ (u 45)) (mvT hZ (u 46)) (notFace_of_selects (args := #[]) (mvT hZ (u 48))) (mvT hZ (u 48)) (mvT hZ (u 47)) (by decide) (backOf (W := 0) (rm8_1r l Z a0 hw [] b1 (fI f_ (2 : Int32)) b153 ((0 : Int32) + (1 : Int32)) k154 (fI f_ (1 : Int32)) T151.heap n0 z169 c219 F156 F157 F158 F160 (Ne.symm n166) hi161 (own_Wint c217 (by decide) (by decide)).1 g6 g168) hZ (u 49) (u 8) (by decide) (by decide)) q218a q218c (g := (mkF m 34 #[.val (.int p0), .val (.ref b1)] [(.ref (fI f_ (2 : Int32))), (.ref b1)])) rfl (by rw [hml]; rfl) (Steps.refl _) (argsL := [(.ref (fI f_ (2 : Int32)))]) (rest := []) (lenOf pd_17 rfl) rfl (wk rfl rfl) (D 20) (fun _ _ => ⟨rfl, e216, lD rfl, lD rfl⟩)) (k := 2) (n := 13) rfl rfl
   obtain ⟨rfl, Nq218, K218, F220, F221, F222, F223⟩ := hQ218
   have N218 := Fr.app N216 Nq218
   have z224 : n0 ≤ T218.heap.size := Nat.le_trans z169 K218.1
   have K225 : Keep h0 T218.heap ([] : List Addr) := K170.trans K218 (allS (Or.inr sz_b1) (allS (Or.inr sz_b153) all0))
   refine gob (fun _ k => st218.trans k) ?_
   refine go (XS.pop X218.here hx rfl (D 21) rfl rfl) ?_
   refine giN X218 hx (D 22) rfl ?_
   refine giC X218 hx (D 23) ?_
   refine go (XS.iand X218.here hx rfl (D 24) rfl) ?_
   show gO (tF T218 m 41 #[.val (.int p0), .val (.ref b1)] [(.int (p0 &&& (4 : Int32)))])
   by_cases hc41_226 : (p0 &&& (4 : Int32)) = (0 : Int32)
   ·skip
    refine go (XS.ifYes X218.here hx rfl (pc0 := 41) (pc' := 53) rfl (D 25) rfl ((if0 _ _).trans (teq hc41_226).1) (by decide) (by decide)) ?_
    refine giN X218 hx (D 31) rfl ?_
    refine go (XS.bipush X218.here hx rfl (D 32)) ?_
    refine go (XS.iand X218.here hx rfl (D 33) rfl) ?_
    show gO (tF T218 m 57 #[.val (.int p0), .val (.ref b1)] [(.int (p0 &&& (8 : Int32)))])
    by_cases hc57_227 : (p0 &&& (8 : Int32)) = (0 : Int32)
    ·skip
     refine go (XS.ifYes X218.here hx rfl (pc0 := 57) (pc' := 69) rfl (D 34) rfl ((if0 _ _).trans (teq hc57_227).1) (by decide) (by decide)) ?_
     refine gaN X218 hx (D 40) rfl rfl ?_
     refine goA X218 hx hlk Bd.returns rfl rfl (D 41) ?_ (by decide) (by decide)
     show Q6 Z p0 w_c f_ wE wL wD wA kD kA h0 n0 (some (.ref b1)) T218.heap _
     have hm : (mm p0).map (fI f_) = [(fI f_ (1 : Int32)), (fI f_ (2 : Int32))] := by
      unfold mm
      rw [if_neg hc11_16, if_neg hc26_171, if_pos hc41_226, if_pos hc57_227]
      first | done | rfl
     have c228 := (c217.keep K218 (geS g6 (geS g168 geN)))
     have c229 := (F159.keep K218)
     have c230 := (c219.keep K218)
     refine ⟨b1, rfl, N218, K225, sz_b1, ?_⟩
     rw [hm]
     exact ⟨c230, F221, Nat.le_of_ble_eq_true rfl, (allS (own_Wint c228 (by decide) (by decide)).1 (allS (own_Wint c228 (by decide) (by decide)).1 all0)), Or.inr ⟨b153, k154, F220, c229, F223⟩⟩
    ·skip
     refine go (XS.ifNo X218.here hx rfl (D 34) rfl ((if0 _ _).trans (feq hc57_227).1)) ?_
     refine gaN X218 hx (D 35) rfl rfl ?_
     refine giC X218 hx (D 36) ?_
     have c232 := (c217.keep K218 (geS g6 (geS g168 geN)))
     obtain ⟨_, T231, Lc231, X231, hQ231, st231⟩ := clS X218 (Jvm.LawKit.callS X218 hx (y := M_31) hown (mvT hZ (u 38)) (mvT hZ (u 39)) (mvT hZ (u 40)) (mvT hZ (u 41)) (by decide) (backOf (W := 1) (rm7 l Z a0 hw [] (4 : Int32) w_c f_ wE wL wD wA kD kA T218.heap n0 z224 c232 (by decide) (by decide)) hZ (u 41) (u 40) (by decide) (by decide)) (g := (mkF m 62 #[.val (.int p0), .val (.ref b1)] [(.int 4), (.ref b1)])) rfl (by rw [hml]; rfl) (argsL := [(.int 4)]) (rest := [(.ref b1)]) (lenOf pd_16 rfl) rfl (wk rfl rfl) (D 37) (fun _ _ => ⟨rfl, (rfl : T218.heap = _), lD rfl, lD rfl⟩)) (k := 2) (n := 13) rfl rfl
     obtain ⟨rfl, Nq231, e231⟩ := hQ231
     have N231 := Fr.app N218 Nq231
     refine gob st231 ?_
     have c234 := (c219.keep K218)
     obtain ⟨cq233, kq233, q233a, q233b, q233c⟩ := isOf hZ e231 c234
     obtain ⟨_, T233, Lc233, X233, hQ233, st233⟩ := clB X231 (X231.virtualBack hx (y := M_30) (z := M_30) hown (mvT hZ (u 45)) (mvT hZ (u 46)) (notFace_of_selects (args := #[]) (mvT hZ (u 48))) (mvT hZ (u 48)) (mvT hZ (u 47)) (by decide) (backOf (W := 0) (rm8_2r l Z a0 hw [] b1 (fI f_ (4 : Int32)) b153 (((0 : Int32) + (1 : Int32)) + (1 : Int32)) k154 (fI f_ (1 : Int32)) (fI f_ (2 : Int32)) T218.heap n0 z224 c234 F220 F221 F222 F223 (Ne.symm n166) hi161 (own_Wint c232 (by decide) (by decide)).1 g6 g168) hZ (u 49) (u 8) (by decide) (by decide)) q233a q233c (g := (mkF m 65 #[.val (.int p0), .val (.ref b1)] [(.ref (fI f_ (4 : Int32))), (.ref b1)])) rfl (by rw [hml]; rfl) (Steps.refl _) (argsL := [(.ref (fI f_ (4 : Int32)))]) (rest := []) (lenOf pd_17 rfl) rfl (wk rfl rfl) (D 38) (fun _ _ => ⟨rfl, e231, lD rfl, lD rfl⟩)) (k := 2) (n := 13) rfl rfl
     obtain ⟨rfl, Nq233, K233, F235, F236, F237, F238⟩ := hQ233
     have N233 := Fr.app N231 Nq233
     have K240 : Keep h0 T233.heap ([] : List Addr) := K225.trans K233 (allS (Or.inr sz_b1) (allS (Or.inr sz_b153) all0))
     refine gob (fun _ k => st233.trans k) ?_
     refine go (XS.pop X233.here hx rfl (D 39) rfl rfl) ?_
     refine gaN X233 hx (D 40) rfl rfl ?_
     show gO (tF T233 m 70 #[.val (.int p0), .val (.ref b1)] [(.ref b1)])
     refine goA X233 hx hlk Bd.returns rfl rfl (D 41) ?_ (by decide) (by decide)
     show Q6 Z p0 w_c f_ wE wL wD wA kD kA h0 n0 (some (.ref b1)) T233.heap _
     have hm : (mm p0).map (fI f_) = [(fI f_ (1 : Int32)), (fI f_ (2 : Int32)), (fI f_ (4 : Int32))] := by
      unfold mm
      rw [if_neg hc11_16, if_neg hc26_171, if_pos hc41_226, if_neg hc57_227]
      first | done | rfl
     have c241 := (c232.keep K233 (geS g6 (geS g168 geN)))
     have c242 := ((F159.keep K218).keep K233)
     have c243 := (c234.keep K233)
     refine ⟨b1, rfl, N233, K240, sz_b1, ?_⟩
     rw [hm]
     exact ⟨c243, F236, Nat.le_of_ble_eq_true rfl, (allS (own_Wint c241 (by decide) (by decide)).1 (allS (own_Wint c241 (by decide) (by decide)).1 (allS (own_Wint c241 (by decide) (by decide)).1 all0))), Or.inr ⟨b153, k154, F235, c242, F238⟩⟩
   ·skip
    refine go (XS.ifNo X218.here hx rfl (D 25) rfl ((if0 _ _).trans (feq hc41_226).1)) ?_
    refine gaN X218 hx (D 26) rfl rfl ?_
    refine giC X218 hx (D 27) ?_
    have c245 := (c217.keep K218 (geS g6 (geS g168 geN)))
    obtain ⟨_, T244, Lc244, X244, hQ244, st244⟩ := clS X218 (Jvm.LawKit.callS X218 hx (y := M_31) hown (mvT hZ (u 38)) (mvT hZ (u 39)) (mvT hZ (u 40)) (mvT hZ (u 41)) (by decide) (backOf (W := 1) (rm7 l Z a0 hw [] (3 : Int32) w_c f_ wE wL wD wA kD kA T218.heap n0 z224 c245 (by decide) (by decide)) hZ (u 41) (u 40) (by decide) (by decide)) (g := (mkF m 46 #[.val (.int p0), .val (.ref b1)] [(.int 3), (.ref b1)])) rfl (by rw [hml]; rfl) (argsL := [(.int 3)]) (rest := [(.ref b1)]) (lenOf pd_16 rfl) rfl (wk rfl rfl) (D 28) (fun _ _ => ⟨rfl, (rfl : T218.heap = _), lD rfl, lD rfl⟩)) (k := 2) (n := 13) rfl rfl
    obtain ⟨rfl, Nq244, e244⟩ := hQ244
    have N244 := Fr.app N218 Nq244
    refine gob st244 ?_
    have c247 := (c219.keep K218)
    obtain ⟨cq246, kq246, q246a, q246b, q246c⟩ := isOf hZ e244 c247
    obtain ⟨_, T246, Lc246, X246, hQ246, st246⟩ := clB X244 (X244.virtualBack hx (y := M_30) (z := M_30) hown (mvT hZ (u 45)) (mvT hZ (u 46)) (notFace_of_selects (args := #[]) (mvT hZ (u 48))) (mvT hZ (u 48)) (mvT hZ (u 47)) (by decide) (backOf (W := 0) (rm8_2r l Z a0 hw [] b1 (fI f_ (3 : Int32)) b153 (((0 : Int32) + (1 : Int32)) + (1 : Int32)) k154 (fI f_ (1 : Int32)) (fI f_ (2 : Int32)) T218.heap n0 z224 c247 F220 F221 F222 F223 (Ne.symm n166) hi161 (own_Wint c245 (by decide) (by decide)).1 g6 g168) hZ (u 49) (u 8) (by decide) (by decide)) q246a q246c (g := (mkF m 49 #[.val (.int p0), .val (.ref b1)] [(.ref (fI f_ (3 : Int32))), (.ref b1)])) rfl (by rw [hml]; rfl) (Steps.refl _) (argsL := [(.ref (fI f_ (3 : Int32)))]) (rest := []) (lenOf pd_17 rfl) rfl (wk rfl rfl) (D 29) (fun _ _ => ⟨rfl, e244, lD rfl, lD rfl⟩)) (k := 2) (n := 13) rfl rfl
    obtain ⟨rfl, Nq246, K246, F248, F249, F250, F251⟩ := hQ246
    have N246 := Fr.app N244 Nq246
    have z252 : n0 ≤ T246.heap.size := Nat.le_trans z224 K246.1
    have K253 : Keep h0 T246.heap ([] : List Addr) := K225.trans K246 (allS (Or.inr sz_b1) (allS (Or.inr sz_b153) all0))
    refine gob (fun _ k => st246.trans k) ?_
    refine go (XS.pop X246.here hx rfl (D 30) rfl rfl) ?_
    refine giN X246 hx (D 31) rfl ?_
    refine go (XS.bipush X246.here hx rfl (D 32)) ?_
    refine go (XS.iand X246.here hx rfl (D 33) rfl) ?_
    show gO (tF T246 m 57 #[.val (.int p0), .val (.ref b1)] [(.int (p0 &&& (8 : Int32)))])
    by_cases hc57_254 : (p0 &&& (8 : Int32)) = (0 : Int32)
    ·skip
     refine go (XS.ifYes X246.here hx rfl (pc0 := 57) (pc' := 69) rfl (D 34) rfl ((if0 _ _).trans (teq hc57_254).1) (by decide) (by decide)) ?_
     refine gaN X246 hx (D 40) rfl rfl ?_
     refine goA X246 hx hlk Bd.returns rfl rfl (D 41) ?_ (by decide) (by decide)
     show Q6 Z p0 w_c f_ wE wL wD wA kD kA h0 n0 (some (.ref b1)) T246.heap _
     have hm : (mm p0).map (fI f_) = [(fI f_ (1 : Int32)), (fI f_ (2 : Int32)), (fI f_ (3 : Int32))] := by
      unfold mm
      rw [if_neg hc11_16, if_neg hc26_171, if_neg hc41_226, if_pos hc57_254]
      first | done | rfl
     have c255 := (c245.keep K246 (geS g6 (geS g168 geN)))
     have c256 := ((F159.keep K218).keep K246)
     have c257 := (c247.keep K246)
     refine ⟨b1, rfl, N246, K253, sz_b1, ?_⟩
     rw [hm]
     exact ⟨c257, F249, Nat.le_of_ble_eq_true rfl, (allS (own_Wint c255 (by decide) (by decide)).1 (allS (own_Wint c255 (by decide) (by decide)).1 (allS (own_Wint c255 (by decide) (by decide)).1 all0))), Or.inr ⟨b153, k154, F248, c256, F251⟩⟩
    ·skip
     refine go (XS.ifNo X246.here hx rfl (D 34) rfl ((if0 _ _).trans (feq hc57_254).1)) ?_
     refine gaN X246 hx (D 35) rfl rfl ?_
     refine giC X246 hx (D 36) ?_
     have c259 := (c245.keep K246 (geS g6 (geS g168 geN)))
     obtain ⟨_, T258, Lc258, X258, hQ258, st258⟩ := clS X246 (Jvm.LawKit.callS X246 hx (y := M_31) hown (mvT hZ (u 38)) (mvT hZ (u 39)) (mvT hZ (u 40)) (mvT hZ (u 41)) (by decide) (backOf (W := 1) (rm7 l Z a0 hw [] (4 : Int32) w_c f_ wE wL wD wA kD kA T246.heap n0 z252 c259 (by decide) (by decide)) hZ (u 41) (u 40) (by decide) (by decide)) (g := (mkF m 62 #[.val (.int p0), .val (.ref b1)] [(.int 4), (.ref b1)])) rfl (by rw [hml]; rfl) (argsL := [(.int 4)]) (rest := [(.ref b1)]) (lenOf pd_16 rfl) rfl (wk rfl rfl) (D 37) (fun _ _ => ⟨rfl, (rfl : T246.heap = _), lD rfl, lD rfl⟩)) (k := 2) (n := 13) rfl rfl
     obtain ⟨rfl, Nq258, e258⟩ := hQ258
     have N258 := Fr.app N246 Nq258
     refine gob st258 ?_
     have c261 := (c247.keep K246)
     obtain ⟨cq260, kq260, q260a, q260b, q260c⟩ := isOf hZ e258 c261
     obtain ⟨_, T260, Lc260, X260, hQ260, st260⟩ := clB X258 (X258.virtualBack hx (y := M_30) (z := M_30) hown (mvT hZ (u 45)) (mvT hZ (u 46)) (notFace_of_selects (args := #[]) (mvT hZ (u 48))) (mvT hZ (u 48)) (mvT hZ (u 47)) (by decide) (backOf (W := 0) (rm8_3r l Z a0 hw [] b1 (fI f_ (4 : Int32)) b153 ((((0 : Int32) + (1 : Int32)) + (1 : Int32)) + (1 : Int32)) k154 (fI f_ (1 : Int32)) (fI f_ (2 : Int32)) (fI f_ (3 : Int32)) T246.heap n0 z252 c261 F248 F249 F250 F251 (Ne.symm n166) hi161 (own_Wint c259 (by decide) (by decide)).1 g6 g168) hZ (u 49) (u 8) (by decide) (by decide)) q260a q260c (g := (mkF m 65 #[.val (.int p0), .val (.ref b1)] [(.ref (fI f_ (4 : Int32))), (.ref b1)])) rfl (by rw [hml]; rfl) (Steps.refl _) (argsL := [(.ref (fI f_ (4 : Int32)))]) (rest := []) (lenOf pd_17 rfl) rfl (wk rfl rfl) (D 38) (fun _ _ => ⟨rfl, e258, lD rfl, lD rfl⟩)) (k := 2) (n := 13) rfl rfl
     obtain ⟨rfl, Nq260, K260, F262, F263, F264, F265⟩ := hQ260
     have N260 := Fr.app N258 Nq260
     have K267 : Keep h0 T260.heap ([] : List Addr) := K253.trans K260 (allS (Or.inr sz_b1) (allS (Or.inr sz_b153) all0))
     refine gob (fun _ k => st260.trans k) ?_
     refine go (XS.pop X260.here hx rfl (D 39) rfl rfl) ?_
     refine gaN X260 hx (D 40) rfl rfl ?_
     show gO (tF T260 m 70 #[.val (.int p0), .val (.ref b1)] [(.ref b1)])
     refine goA X260 hx hlk Bd.returns rfl rfl (D 41) ?_ (by decide) (by decide)
     show Q6 Z p0 w_c f_ wE wL wD wA kD kA h0 n0 (some (.ref b1)) T260.heap _
     have hm : (mm p0).map (fI f_) = [(fI f_ (1 : Int32)), (fI f_ (2 : Int32)), (fI f_ (3 : Int32)), (fI f_ (4 : Int32))] := by
      unfold mm
      rw [if_neg hc11_16, if_neg hc26_171, if_neg hc41_226, if_neg hc57_254]
      first | done | rfl
     have c268 := (c259.keep K260 (geS g6 (geS g168 geN)))
     have c269 := (((F159.keep K218).keep K246).keep K260)
     have c270 := (c261.keep K260)
     refine ⟨b1, rfl, N260, K267, sz_b1, ?_⟩
     rw [hm]
     exact ⟨c270, F263, Nat.le_of_ble_eq_true rfl, (allS (own_Wint c268 (by decide) (by decide)).1 (allS (own_Wint c268 (by decide) (by decide)).1 (allS (own_Wint c268 (by decide) (by decide)).1 (allS (own_Wint c268 (by decide) (by decide)).1 all0)))), Or.inr ⟨b153, k154, F262, c269, F265⟩⟩
def t_13 : List (Nat × Instr × Nat) := [(0, .aload_n 0, 1), (1, .invokespecial 27, 3), (4, .aload_n 3, 1), (5, .invokestatic 30, 3), (8, .astore_n 3, 1), (9, .aload 4, 2), (11, .invokestatic 30, 3), (14, .astore 4, 2), (16, .aload 5, 2), (18, .invokestatic 30, 3), (21, .astore 5, 2), (23, .aload 6, 2), (25, .invokestatic 30, 3), (28, .astore 6, 2), (30, .aload 7, 2), (32, .invokestatic 30, 3), (35, .astore 7, 2), (37, .aload 8, 2), (39, .invokestatic 30, 3), (42, .astore 8, 2), (44, .aload 9, 2), (46, .invokestatic 30, 3), (49, .astore 9, 2), (51, .aload_n 0, 1), (52, .iload_n 1, 1), (53, .putfield 34, 3), (56, .aload_n 0, 1), (57, .iload_n 2, 1), (58, .putfield 38, 3), (61, .aload_n 0, 1), (62, .aload_n 3, 1), (63, .putfield 41, 3), (66, .aload_n 0, 1), (67, .aload 4, 2), (69, .putfield 45, 3), (72, .aload_n 0, 1), (73, .aload 5, 2), (75, .putfield 48, 3), (78, .aload_n 0, 1), (79, .aload 6, 2), (81, .putfield 51, 3), (84, .aload_n 0, 1), (85, .aload 7, 2), (87, .putfield 54, 3), (90, .aload_n 0, 1), (91, .aload 8, 2), (93, .putfield 57, 3), (96, .aload_n 0, 1), (97, .aload 9, 2), (99, .putfield 60, 3), (102, .return_, 1)]
theorem q_13 : ∀ i : Fin 51, decode c_13 (gt t_13 i.1).1 = .ok ((gt t_13 i.1).2.1, (gt t_13 i.1).2.2) := by decide +kernel
theorem ef_13 (m : MethodId) (x0 : Addr) (x1 : Int32) (x2 : Int32) (x3 : Addr) (x4 : Addr) (x5 : Addr) (x6 : Addr) (x7 : Addr) (x8 : Addr) (x9 : Addr) : entryFrame m #[(.ref x0), (.int x1), (.int x2), (.ref x3), (.ref x4), (.ref x5), (.ref x6), (.ref x7), (.ref x8), (.ref x9)] 10 = mkF m 0 #[.val (.ref x0), .val (.int x1), .val (.int x2), .val (.ref x3), .val (.ref x4), .val (.ref x5), .val (.ref x6), .val (.ref x7), .val (.ref x8), .val (.ref x9)] [] := by first | (simp [entryFrame, mkF, argsToLocals, Value.category]; done) | rfl
def Q13 (Z : State) (o0 : Addr) (p1 : Int32) (p2 : Int32) (o3 : Addr) (o4 : Addr) (o5 : Addr) (o6 : Addr) (o7 : Addr) (o8 : Addr) (o9 : Addr) (w_c : Addr) (f_ : Nat → Addr) (wE : Addr) (wL : Addr) (wD : Addr) (wA : Addr) (kD : ClassId) (kA : ClassId) (mr_ : Addr) (es4 : List Addr) (es5 : List Addr) (es6 : List Addr) (h0 : Heap) (n0 : Nat) (v : Option Value) (h : Heap) (L : List Loc) : Prop := v = none ∧ Fr n0 L ∧ Keep h0 h ([o0] : List Addr) ∧ Prb Z h wE wL o0 es4 es5 es6
set_option maxRecDepth 65536 in
set_option maxHeartbeats 40000000 in
theorem rm13 (o0 : Addr) (p1 : Int32) (p2 : Int32) (o3 : Addr) (o4 : Addr) (o5 : Addr) (o6 : Addr) (o7 : Addr) (o8 : Addr) (o9 : Addr) (w_c : Addr) (f_ : Nat → Addr) (wE : Addr) (wL : Addr) (wD : Addr) (wA : Addr) (kD : ClassId) (kA : ClassId) (mr_ : Addr) (es4 : List Addr) (es5 : List Addr) (es6 : List Addr) (h0 : Heap) (n0 : Nat) (Z0 : n0 ≤ h0.size) (IC : Wd Z h0 n0 w_c f_ wE wL wD wA kD kA) (MM : Mir Z mr_) (A4 : AL Z h0 o4 s_4 es4) (A5 : AL Z h0 o5 s_4 es5) (A6 : AL Z h0 o6 s_21 es6) (hK6 : es6.length ≤ 1) (E_o3 : Exa Z h0 o3 s_1) (F_size3 : Fld Z h0 o3 s_1 "size" "I" (.int 0)) (E_o7 : Exa Z h0 o7 s_1) (F_size7 : Fld Z h0 o7 s_1 "size" "I" (.int 0)) (E_o8 : Exa Z h0 o8 s_1) (F_size8 : Fld Z h0 o8 s_1 "size" "I" (.int 0)) (E_o9 : Exa Z h0 o9 s_1) (F_size9 : Fld Z h0 o9 s_1 "size" "I" (.int 0)) (E_o0 : Exa Z h0 o0 s_10) (F_round_o0 : Fld Z h0 o0 s_10 "round" "I" (.int (0 : Int32))) (g_o0 : n0 ≤ o0) (F_coordinator_o0 : Fld Z h0 o0 s_10 "coordinator" "I" (.int (0 : Int32))) (F_toVisit_o0 : Fld Z h0 o0 s_10 "toVisit" s_11 .null) (F_visited_o0 : Fld Z h0 o0 s_10 "visited" s_11 .null) (F_crashed_o0 : Fld Z h0 o0 s_10 "crashed" s_11 .null) (F_found_o0 : Fld Z h0 o0 s_10 "found" s_11 .null) (F_latest_o0 : Fld Z h0 o0 s_10 "latest" s_11 .null) (F_waiters_o0 : Fld Z h0 o0 s_10 "waiters" s_11 .null) (F_queued_o0 : Fld Z h0 o0 s_10 "queued" s_11 .null) :
  Mt hw l M_45 (Jvm.Cond.code M_45 c_13 10 none) ws R_9_8_23_115 #[(.ref o0), (.int p1), (.int p2), (.ref o3), (.ref o4), (.ref o5), (.ref o6), (.ref o7), (.ref o8), (.ref o9)] h0 (Q13 Z o0 p1 p2 o3 o4 o5 o6 o7 o8 o9 w_c f_ wE wL wD wA kD kA mr_ es4 es5 es6 h0 n0) := by
 refine ent s_10 rfl hisR fun p e s m below meth c s₁ Bd hx hby hml hown hnm hlk hZ X0 e0 => ?_
 have D := fun i => hb hby (q_13 i)
 have u := hU hw
 have N0 := Fr.nil n0
 rw [ef_13]
 show gO (tF s₁ m 0 (la1 o0 p1 p2 o3 o4 o5 o6 o7 o8 o9) [])
 refine gaN X0 hx (D 0) rfl rfl ?_
 obtain ⟨_, T1, Lc1, X1, hQ1, st1⟩ := clB X0 (X0.specialBack hx (y := M_6) rfl hown (mvT hZ (u 79)) (mvT hZ (u 80)) (mvT hZ (u 83)) (by decide) (backOf (W := 0) (rm14 l Z a0 hw [] o0 h0 n0 Z0 ) hZ (u 83) (u 82) (by decide) (by decide)) (g := (mkF m 1 (la1 o0 p1 p2 o3 o4 o5 o6 o7 o8 o9) [(.ref o0)])) rfl (by rw [hml]; rfl) (Steps.refl _) (a := o0) (argsL := []) (rest := []) (lenOf pd_0 rfl) rfl (wk rfl rfl) (D 1) (fun _ _ => ⟨rfl, e0, lD rfl, lD rfl⟩)) (k := 0) (n := 0) rfl rfl
 obtain ⟨rfl, Nq1, K1⟩ := hQ1
 have N1 := Fr.app N0 Nq1
 have z2 : n0 ≤ T1.heap.size := Nat.le_trans Z0 K1.1
 have K3 : Keep h0 T1.heap ([o0] : List Addr) := (Keep.refl h0 ([o0] : List Addr)).trans K1 all0
 refine gob (fun _ k => st1.trans k) ?_
 refine gaN X1 hx (D 2) rfl rfl ?_
 have c5 := (E_o3.keep K1)
 have c6 := (F_size3.keep K1 nin0)
 have c7 := (IC.keep K1 geN)
 obtain ⟨_, T4, Lc4, X4, hQ4, st4⟩ := clS X1 (Jvm.LawKit.callS X1 hx (y := M_36) hown (mvT hZ (u 85)) (mvT hZ (u 86)) (mvT hZ (u 87)) (mvT hZ (u 88)) (by decide) (backOf (W := 0) (rm15_0 l Z a0 hw [] o3 wL T1.heap n0 z2 c5 c6 (own_WL c7)) hZ (u 88) (u 87) (by decide) (by decide)) (g := (mkF m 5 (la1 o0 p1 p2 o3 o4 o5 o6 o7 o8 o9) [(.ref o3)])) rfl (by rw [hml]; rfl) (argsL := [(.ref o3)]) (rest := []) (lenOf pd_9 rfl) rfl (wk rfl rfl) (D 3) (fun _ _ => ⟨rfl, (rfl : T1.heap = _), lD rfl, lD rfl⟩)) (k := 0) (n := 0) rfl rfl
 obtain ⟨rfl, Nq4, e4⟩ := hQ4
 have N4 := Fr.app N1 Nq4
 refine gob st4 ?_
 refine go (XS.astoreN X4.here hx rfl (D 4) rfl rfl (l' := (la1 o0 p1 p2 wL o4 o5 o6 o7 o8 o9)) rfl) ?_
 refine gaM X4 hx (D 5) rfl rfl ?_
 have xs9 := (own_extK (own_extR h0) K1 all0)
 obtain ⟨_, T8, Lc8, X8, hQ8, st8⟩ := clS X4 (Jvm.LawKit.callS X4 hx (y := M_36) hown (mvT hZ (u 85)) (mvT hZ (u 86)) (mvT hZ (u 87)) (mvT hZ (u 88)) (by decide) (backOf (W := 0) (rm15_r l Z a0 hw [] o4 w_c f_ wE wL wD wA kD kA mr_ es4 T1.heap n0 z2 c7 MM (A4.ext xs9)) hZ (u 88) (u 87) (by decide) (by decide)) (g := (mkF m 11 (la1 o0 p1 p2 wL o4 o5 o6 o7 o8 o9) [(.ref o4)])) rfl (by rw [hml]; rfl) (argsL := [(.ref o4)]) (rest := []) (lenOf pd_9 rfl) rfl (wk rfl rfl) (D 6) (fun _ _ => ⟨rfl, e4, lD rfl, lD rfl⟩)) (k := 3) (n := 10) rfl rfl
 obtain ⟨b10, rfl, Nq8, K8, I8⟩ := hQ8
 have N8 := Fr.app N4 Nq8
 have z11 : n0 ≤ T8.heap.size := Nat.le_trans z2 K8.1
 have K12 : Keep h0 T8.heap ([o0] : List Addr) := K3.trans K8 all0
 refine gob st8 ?_
 refine go (XS.astore X8.here hx rfl (D 7) rfl rfl (l' := (la1 o0 p1 p2 wL b10 o5 o6 o7 o8 o9)) rfl) ?_
 refine gaM X8 hx (D 8) rfl rfl ?_
 show gO (tF T8 m 18 (la1 o0 p1 p2 wL b10 o5 o6 o7 o8 o9) [(.ref o5)])
 have c14 := (c7.keep K8 geN)
 have xs15 := (own_extK xs9 K8 all0)
 obtain ⟨_, T13, Lc13, X13, hQ13, st13⟩ := clS X8 (Jvm.LawKit.callS X8 hx (y := M_36) hown (mvT hZ (u 85)) (mvT hZ (u 86)) (mvT hZ (u 87)) (mvT hZ (u 88)) (by decide) (backOf (W := 0) (rm15_r l Z a0 hw [] o5 w_c f_ wE wL wD wA kD kA mr_ es5 T8.heap n0 z11 c14 MM (A5.ext xs15)) hZ (u 88) (u 87) (by decide) (by decide)) (g := (mkF m 18 (la1 o0 p1 p2 wL b10 o5 o6 o7 o8 o9) [(.ref o5)])) rfl (by rw [hml]; rfl) (argsL := [(.ref o5)]) (rest := []) (lenOf pd_9 rfl) rfl (wk rfl rfl) (D 9) (fun _ _ => ⟨rfl, (rfl : T8.heap = _), lD rfl, lD rfl⟩)) (k := 6) (n := 20) rfl rfl
 obtain ⟨b16, rfl, Nq13, K13, I13⟩ := hQ13
 have N13 := Fr.app N8 Nq13
 have z17 : n0 ≤ T13.heap.size := Nat.le_trans z11 K13.1
 have K18 : Keep h0 T13.heap ([o0] : List Addr) := K12.trans K13 all0
 refine gob st13 ?_
 refine go (XS.astore X13.here hx rfl (D 10) rfl rfl (l' := (la1 o0 p1 p2 wL b10 b16 o6 o7 o8 o9)) rfl) ?_
 refine gaM X13 hx (D 11) rfl rfl ?_
 have c20 := (c14.keep K13 geN)
 have xs21 := (own_extK xs15 K13 all0)
 obtain ⟨_, T19, Lc19, X19, hQ19, st19⟩ := clS X13 (Jvm.LawKit.callS X13 hx (y := M_36) hown (mvT hZ (u 85)) (mvT hZ (u 86)) (mvT hZ (u 87)) (mvT hZ (u 88)) (by decide) (backOf (W := 0) (rm15_d l Z a0 hw [] o6 w_c f_ wE wL wD wA kD kA mr_ es6 T13.heap n0 z17 c20 MM (A6.ext xs21) hK6) hZ (u 88) (u 87) (by decide) (by decide)) (g := (mkF m 25 (la1 o0 p1 p2 wL b10 b16 o6 o7 o8 o9) [(.ref o6)])) rfl (by rw [hml]; rfl) (argsL := [(.ref o6)]) (rest := []) (lenOf pd_9 rfl) rfl (wk rfl rfl) (D 12) (fun _ _ => ⟨rfl, (rfl : T13.heap = _), lD rfl, lD rfl⟩)) (k := 8) (n := 23) rfl rfl
 obtain ⟨b22, rfl, Nq19, K19, I19⟩ := hQ19
 have N19 := Fr.app N13 Nq19
 have z23 : n0 ≤ T19.heap.size := Nat.le_trans z17 K19.1
 have K24 : Keep h0 T19.heap ([o0] : List Addr) := K18.trans K19 all0
 refine gob st19 ?_
 refine go (XS.astore X19.here hx rfl (D 13) rfl rfl (l' := (la1 o0 p1 p2 wL b10 b16 b22 o7 o8 o9)) rfl) ?_
 refine gaM X19 hx (D 14) rfl rfl ?_
 have c26 := ((((E_o7.keep K1).keep K8).keep K13).keep K19)
 have c27 := ((((F_size7.keep K1 nin0).keep K8 nin0).keep K13 nin0).keep K19 nin0)
 have c28 := (c20.keep K19 geN)
 obtain ⟨_, T25, Lc25, X25, hQ25, st25⟩ := clS X19 (Jvm.LawKit.callS X19 hx (y := M_36) hown (mvT hZ (u 85)) (mvT hZ (u 86)) (mvT hZ (u 87)) (mvT hZ (u 88)) (by decide) (backOf (W := 0) (rm15_0 l Z a0 hw [] o7 wL T19.heap n0 z23 c26 c27 (own_WL c28)) hZ (u 88) (u 87) (by decide) (by decide)) (g := (mkF m 32 (la1 o0 p1 p2 wL b10 b16 b22 o7 o8 o9) [(.ref o7)])) rfl (by rw [hml]; rfl) (argsL := [(.ref o7)]) (rest := []) (lenOf pd_9 rfl) rfl (wk rfl rfl) (D 15) (fun _ _ => ⟨rfl, (rfl : T19.heap = _), lD rfl, lD rfl⟩)) (k := 8) (n := 23) rfl rfl
 obtain ⟨rfl, Nq25, e25⟩ := hQ25
 have N25 := Fr.app N19 Nq25
 refine gob st25 ?_
 refine go (XS.astore X25.here hx rfl (D 16) rfl rfl (l' := (la1 o0 p1 p2 wL b10 b16 b22 wL o8 o9)) rfl) ?_
 refine gaM X25 hx (D 17) rfl rfl ?_
 show gO (tF T25 m 39 (la1 o0 p1 p2 wL b10 b16 b22 wL o8 o9) [(.ref o8)])
 have c30 := ((((E_o8.keep K1).keep K8).keep K13).keep K19)
 have c31 := ((((F_size8.keep K1 nin0).keep K8 nin0).keep K13 nin0).keep K19 nin0)
 obtain ⟨_, T29, Lc29, X29, hQ29, st29⟩ := clS X25 (Jvm.LawKit.callS X25 hx (y := M_36) hown (mvT hZ (u 85)) (mvT hZ (u 86)) (mvT hZ (u 87)) (mvT hZ (u 88)) (by decide) (backOf (W := 0) (rm15_0 l Z a0 hw [] o8 wL T19.heap n0 z23 c30 c31 (own_WL c28)) hZ (u 88) (u 87) (by decide) (by decide)) (g := (mkF m 39 (la1 o0 p1 p2 wL b10 b16 b22 wL o8 o9) [(.ref o8)])) rfl (by rw [hml]; rfl) (argsL := [(.ref o8)]) (rest := []) (lenOf pd_9 rfl) rfl (wk rfl rfl) (D 18) (fun _ _ => ⟨rfl, e25, lD rfl, lD rfl⟩)) (k := 8) (n := 23) rfl rfl
 obtain ⟨rfl, Nq29, e29⟩ := hQ29
 have N29 := Fr.app N25 Nq29
 refine gob st29 ?_
 refine go (XS.astore X29.here hx rfl (D 19) rfl rfl (l' := (la1 o0 p1 p2 wL b10 b16 b22 wL wL o9)) rfl) ?_
 refine gaM X29 hx (D 20) rfl rfl ?_
 have c33 := ((((E_o9.keep K1).keep K8).keep K13).keep K19)
 have c34 := ((((F_size9.keep K1 nin0).keep K8 nin0).keep K13 nin0).keep K19 nin0)
 obtain ⟨_, T32, Lc32, X32, hQ32, st32⟩ := clS X29 (Jvm.LawKit.callS X29 hx (y := M_36) hown (mvT hZ (u 85)) (mvT hZ (u 86)) (mvT hZ (u 87)) (mvT hZ (u 88)) (by decide) (backOf (W := 0) (rm15_0 l Z a0 hw [] o9 wL T19.heap n0 z23 c33 c34 (own_WL c28)) hZ (u 88) (u 87) (by decide) (by decide)) (g := (mkF m 46 (la1 o0 p1 p2 wL b10 b16 b22 wL wL o9) [(.ref o9)])) rfl (by rw [hml]; rfl) (argsL := [(.ref o9)]) (rest := []) (lenOf pd_9 rfl) rfl (wk rfl rfl) (D 21) (fun _ _ => ⟨rfl, e29, lD rfl, lD rfl⟩)) (k := 8) (n := 23) rfl rfl
 obtain ⟨rfl, Nq32, e32⟩ := hQ32
 have N32 := Fr.app N29 Nq32
 refine gob st32 ?_
 refine go (XS.astore X32.here hx rfl (D 22) rfl rfl (l' := (la1 o0 p1 p2 wL b10 b16 b22 wL wL wL)) rfl) ?_
 have xs35 := (own_extK (own_extK (own_extR T8.heap) K13 all0) K19 all0)
 have xs36 := (own_extK (own_extR T13.heap) K19 all0)
 have I37 := (I8.ext xs35)
 have I38 := (I13.ext xs36)
 have I39 := I19
 have c40 := ((((E_o0.keep K1).keep K8).keep K13).keep K19)
 refine gaN X32 hx (D 23) rfl rfl ?_
 refine giN X32 hx (D 24) rfl ?_
 have c41 := ((((F_round_o0.keep K1 nin0).keep K8 nin0).keep K13 nin0).keep K19 nin0)
 obtain ⟨T42, h42, X42, e42, W42, st42⟩ := putF X32 hx hZ hown (host := "") (Or.inl (hW hw 175 rfl)) Via.refl e32 c41 c40 (Or.inr ⟨(u 176), rfl, hnm⟩) (u 33) (ty := .int) (by decide) rfl rfl (g := (mkF m 53 (la1 o0 p1 p2 wL b10 b16 b22 wL wL wL) [(.int p1), (.ref o0)])) rfl rfl (D 25)
 refine gob st42 ?_
 have N42 := Fr.snoc X42 N32 g_o0
 have K44 : Keep h0 h42 ([o0] : List Addr) := K24.wr W42 (Or.inl (List.mem_of_getElem? (i := 0) rfl))
 show gO (tF T42 m 56 (la1 o0 p1 p2 wL b10 b16 b22 wL wL wL) [])
 refine gaN X42 hx (D 26) rfl rfl ?_
 refine giN X42 hx (D 27) rfl ?_
 have c45 := (fo ((((F_coordinator_o0.keep K1 nin0).keep K8 nin0).keep K13 nin0).keep K19 nin0) W42 (Or.inr (hW hw 178 rfl)) (Or.inr (hW hw 176 rfl)) .int .int)
 have c46 := (c40.wr W42)
 obtain ⟨T47, h47, X47, e47, W47, st47⟩ := putF X42 hx hZ hown (host := "") (Or.inl (hW hw 177 rfl)) Via.refl e42 c45 c46 (Or.inr ⟨(u 178), rfl, hnm⟩) (u 33) (ty := .int) (by decide) rfl rfl (g := (mkF m 58 (la1 o0 p1 p2 wL b10 b16 b22 wL wL wL) [(.int p2), (.ref o0)])) rfl rfl (D 28)
 refine gob st47 ?_
 have N47 := Fr.snoc X47 N42 g_o0
 have K49 : Keep h0 h47 ([o0] : List Addr) := K44.wr W47 (Or.inl (List.mem_of_getElem? (i := 0) rfl))
 show gO (tF T47 m 61 (la1 o0 p1 p2 wL b10 b16 b22 wL wL wL) [])
 refine gaN X47 hx (D 29) rfl rfl ?_
 refine gaN X47 hx (D 30) rfl rfl ?_
 have c50 := (fo (fo ((((F_toVisit_o0.keep K1 nin0).keep K8 nin0).keep K13 nin0).keep K19 nin0) W42 (Or.inr (hW hw 180 rfl)) (Or.inr (hW hw 176 rfl)) (.object s_2) .int) W47 (Or.inr (hW hw 180 rfl)) (Or.inr (hW hw 178 rfl)) (.object s_2) .int)
 have c51 := (c46.wr W47)
 obtain ⟨T52, h52, X52, e52, W52, st52⟩ := putF X47 hx hZ hown (host := "") (Or.inl (hW hw 179 rfl)) Via.refl e47 c50 c51 (Or.inr ⟨(u 180), rfl, hnm⟩) (u 33) (ty := (.object s_2)) (by decide) rfl rfl (g := (mkF m 63 (la1 o0 p1 p2 wL b10 b16 b22 wL wL wL) [(.ref wL), (.ref o0)])) rfl rfl (D 31)
 refine gob st52 ?_
 have N52 := Fr.snoc X52 N47 g_o0
 have K54 : Keep h0 h52 ([o0] : List Addr) := K49.wr W52 (Or.inl (List.mem_of_getElem? (i := 0) rfl))
 show gO (tF T52 m 66 (la1 o0 p1 p2 wL b10 b16 b22 wL wL wL) [])
 refine gaN X52 hx (D 32) rfl rfl ?_
 refine gaM X52 hx (D 33) rfl rfl ?_
 have c55 := (fo (fo (fo ((((F_visited_o0.keep K1 nin0).keep K8 nin0).keep K13 nin0).keep K19 nin0) W42 (Or.inr (hW hw 182 rfl)) (Or.inr (hW hw 176 rfl)) (.object s_2) .int) W47 (Or.inr (hW hw 182 rfl)) (Or.inr (hW hw 178 rfl)) (.object s_2) .int) W52 (Or.inr (hW hw 182 rfl)) (Or.inr (hW hw 180 rfl)) (.object s_2) (.object s_2))
 have c56 := (c51.wr W52)
 obtain ⟨T57, h57, X57, e57, W57, st57⟩ := putF X52 hx hZ hown (host := "") (Or.inl (hW hw 181 rfl)) Via.refl e52 c55 c56 (Or.inr ⟨(u 182), rfl, hnm⟩) (u 33) (ty := (.object s_2)) (by decide) rfl rfl (g := (mkF m 69 (la1 o0 p1 p2 wL b10 b16 b22 wL wL wL) [(.ref b10), (.ref o0)])) rfl rfl (D 34)
 refine gob st57 ?_
 have N57 := Fr.snoc X57 N52 g_o0
 have K59 : Keep h0 h57 ([o0] : List Addr) := K54.wr W57 (Or.inl (List.mem_of_getElem? (i := 0) rfl))
 have Fw57 := c55.same W57
 show gO (tF T57 m 72 (la1 o0 p1 p2 wL b10 b16 b22 wL wL wL) [])
 refine gaN X57 hx (D 35) rfl rfl ?_
 refine gaM X57 hx (D 36) rfl rfl ?_
 have c60 := (fo (fo (fo (fo ((((F_crashed_o0.keep K1 nin0).keep K8 nin0).keep K13 nin0).keep K19 nin0) W42 (Or.inr (hW hw 184 rfl)) (Or.inr (hW hw 176 rfl)) (.object s_2) .int) W47 (Or.inr (hW hw 184 rfl)) (Or.inr (hW hw 178 rfl)) (.object s_2) .int) W52 (Or.inr (hW hw 184 rfl)) (Or.inr (hW hw 180 rfl)) (.object s_2) (.object s_2)) W57 (Or.inr (hW hw 184 rfl)) (Or.inr (hW hw 182 rfl)) (.object s_2) (.object s_2))
 have c61 := (c56.wr W57)
 obtain ⟨T62, h62, X62, e62, W62, st62⟩ := putF X57 hx hZ hown (host := "") (Or.inl (hW hw 183 rfl)) Via.refl e57 c60 c61 (Or.inr ⟨(u 184), rfl, hnm⟩) (u 33) (ty := (.object s_2)) (by decide) rfl rfl (g := (mkF m 75 (la1 o0 p1 p2 wL b10 b16 b22 wL wL wL) [(.ref b16), (.ref o0)])) rfl rfl (D 37)
 refine gob st62 ?_
 have N62 := Fr.snoc X62 N57 g_o0
 have K64 : Keep h0 h62 ([o0] : List Addr) := K59.wr W62 (Or.inl (List.mem_of_getElem? (i := 0) rfl))
 have Fw62 := c60.same W62
 show gO (tF T62 m 78 (la1 o0 p1 p2 wL b10 b16 b22 wL wL wL) [])
 refine gaN X62 hx (D 38) rfl rfl ?_
 refine gaM X62 hx (D 39) rfl rfl ?_
 have c65 := (fo (fo (fo (fo (fo ((((F_found_o0.keep K1 nin0).keep K8 nin0).keep K13 nin0).keep K19 nin0) W42 (Or.inr (hW hw 186 rfl)) (Or.inr (hW hw 176 rfl)) (.object s_2) .int) W47 (Or.inr (hW hw 186 rfl)) (Or.inr (hW hw 178 rfl)) (.object s_2) .int) W52 (Or.inr (hW hw 186 rfl)) (Or.inr (hW hw 180 rfl)) (.object s_2) (.object s_2)) W57 (Or.inr (hW hw 186 rfl)) (Or.inr (hW hw 182 rfl)) (.object s_2) (.object s_2)) W62 (Or.inr (hW hw 186 rfl)) (Or.inr (hW hw 184 rfl)) (.object s_2) (.object s_2))
 have c66 := (c61.wr W62)
 obtain ⟨T67, h67, X67, e67, W67, st67⟩ := putF X62 hx hZ hown (host := "") (Or.inl (hW hw 185 rfl)) Via.refl e62 c65 c66 (Or.inr ⟨(u 186), rfl, hnm⟩) (u 33) (ty := (.object s_2)) (by decide) rfl rfl (g := (mkF m 81 (la1 o0 p1 p2 wL b10 b16 b22 wL wL wL) [(.ref b22), (.ref o0)])) rfl rfl (D 40)
 refine gob st67 ?_
 have N67 := Fr.snoc X67 N62 g_o0
 have K69 : Keep h0 h67 ([o0] : List Addr) := K64.wr W67 (Or.inl (List.mem_of_getElem? (i := 0) rfl))
 have Fw67 := c65.same W67
 show gO (tF T67 m 84 (la1 o0 p1 p2 wL b10 b16 b22 wL wL wL) [])
 refine gaN X67 hx (D 41) rfl rfl ?_
 refine gaM X67 hx (D 42) rfl rfl ?_
 have c70 := (fo (fo (fo (fo (fo (fo ((((F_latest_o0.keep K1 nin0).keep K8 nin0).keep K13 nin0).keep K19 nin0) W42 (Or.inr (hW hw 188 rfl)) (Or.inr (hW hw 176 rfl)) (.object s_2) .int) W47 (Or.inr (hW hw 188 rfl)) (Or.inr (hW hw 178 rfl)) (.object s_2) .int) W52 (Or.inr (hW hw 188 rfl)) (Or.inr (hW hw 180 rfl)) (.object s_2) (.object s_2)) W57 (Or.inr (hW hw 188 rfl)) (Or.inr (hW hw 182 rfl)) (.object s_2) (.object s_2)) W62 (Or.inr (hW hw 188 rfl)) (Or.inr (hW hw 184 rfl)) (.object s_2) (.object s_2)) W67 (Or.inr (hW hw 188 rfl)) (Or.inr (hW hw 186 rfl)) (.object s_2) (.object s_2))
 have c71 := (c66.wr W67)
 obtain ⟨T72, h72, X72, e72, W72, st72⟩ := putF X67 hx hZ hown (host := "") (Or.inl (hW hw 187 rfl)) Via.refl e67 c70 c71 (Or.inr ⟨(u 188), rfl, hnm⟩) (u 33) (ty := (.object s_2)) (by decide) rfl rfl (g := (mkF m 87 (la1 o0 p1 p2 wL b10 b16 b22 wL wL wL) [(.ref wL), (.ref o0)])) rfl rfl (D 43)
 refine gob st72 ?_
 have N72 := Fr.snoc X72 N67 g_o0
 have K74 : Keep h0 h72 ([o0] : List Addr) := K69.wr W72 (Or.inl (List.mem_of_getElem? (i := 0) rfl))
 show gO (tF T72 m 90 (la1 o0 p1 p2 wL b10 b16 b22 wL wL wL) [])
 refine gaN X72 hx (D 44) rfl rfl ?_
 refine gaM X72 hx (D 45) rfl rfl ?_
 have c75 := (fo (fo (fo (fo (fo (fo (fo ((((F_waiters_o0.keep K1 nin0).keep K8 nin0).keep K13 nin0).keep K19 nin0) W42 (Or.inr (hW hw 190 rfl)) (Or.inr (hW hw 176 rfl)) (.object s_2) .int) W47 (Or.inr (hW hw 190 rfl)) (Or.inr (hW hw 178 rfl)) (.object s_2) .int) W52 (Or.inr (hW hw 190 rfl)) (Or.inr (hW hw 180 rfl)) (.object s_2) (.object s_2)) W57 (Or.inr (hW hw 190 rfl)) (Or.inr (hW hw 182 rfl)) (.object s_2) (.object s_2)) W62 (Or.inr (hW hw 190 rfl)) (Or.inr (hW hw 184 rfl)) (.object s_2) (.object s_2)) W67 (Or.inr (hW hw 190 rfl)) (Or.inr (hW hw 186 rfl)) (.object s_2) (.object s_2)) W72 (Or.inr (hW hw 190 rfl)) (Or.inr (hW hw 188 rfl)) (.object s_2) (.object s_2))
 have c76 := (c71.wr W72)
 obtain ⟨T77, h77, X77, e77, W77, st77⟩ := putF X72 hx hZ hown (host := "") (Or.inl (hW hw 189 rfl)) Via.refl e72 c75 c76 (Or.inr ⟨(u 190), rfl, hnm⟩) (u 33) (ty := (.object s_2)) (by decide) rfl rfl (g := (mkF m 93 (la1 o0 p1 p2 wL b10 b16 b22 wL wL wL) [(.ref wL), (.ref o0)])) rfl rfl (D 46)
 refine gob st77 ?_
 have N77 := Fr.snoc X77 N72 g_o0
 have K79 : Keep h0 h77 ([o0] : List Addr) := K74.wr W77 (Or.inl (List.mem_of_getElem? (i := 0) rfl))
 have Fw77 := c75.same W77
 show gO (tF T77 m 96 (la1 o0 p1 p2 wL b10 b16 b22 wL wL wL) [])
 refine gaN X77 hx (D 47) rfl rfl ?_
 refine gaM X77 hx (D 48) rfl rfl ?_
 have c80 := (fo (fo (fo (fo (fo (fo (fo (fo ((((F_queued_o0.keep K1 nin0).keep K8 nin0).keep K13 nin0).keep K19 nin0) W42 (Or.inr (hW hw 192 rfl)) (Or.inr (hW hw 176 rfl)) (.object s_2) .int) W47 (Or.inr (hW hw 192 rfl)) (Or.inr (hW hw 178 rfl)) (.object s_2) .int) W52 (Or.inr (hW hw 192 rfl)) (Or.inr (hW hw 180 rfl)) (.object s_2) (.object s_2)) W57 (Or.inr (hW hw 192 rfl)) (Or.inr (hW hw 182 rfl)) (.object s_2) (.object s_2)) W62 (Or.inr (hW hw 192 rfl)) (Or.inr (hW hw 184 rfl)) (.object s_2) (.object s_2)) W67 (Or.inr (hW hw 192 rfl)) (Or.inr (hW hw 186 rfl)) (.object s_2) (.object s_2)) W72 (Or.inr (hW hw 192 rfl)) (Or.inr (hW hw 188 rfl)) (.object s_2) (.object s_2)) W77 (Or.inr (hW hw 192 rfl)) (Or.inr (hW hw 190 rfl)) (.object s_2) (.object s_2))
 have c81 := (c76.wr W77)
 obtain ⟨T82, h82, X82, e82, W82, st82⟩ := putF X77 hx hZ hown (host := "") (Or.inl (hW hw 191 rfl)) Via.refl e77 c80 c81 (Or.inr ⟨(u 192), rfl, hnm⟩) (u 33) (ty := (.object s_2)) (by decide) rfl rfl (g := (mkF m 99 (la1 o0 p1 p2 wL b10 b16 b22 wL wL wL) [(.ref wL), (.ref o0)])) rfl rfl (D 49)
 refine gob st82 ?_
 have N82 := Fr.snoc X82 N77 g_o0
 have K84 : Keep h0 h82 ([o0] : List Addr) := K79.wr W82 (Or.inl (List.mem_of_getElem? (i := 0) rfl))
 have Fw82 := c80.same W82
 show gO (tF T82 m 102 (la1 o0 p1 p2 wL b10 b16 b22 wL wL wL) [])
 refine goV X82 hx hlk Bd.returns (D 50) ?_ (by decide) (by decide)
 show Q13 Z o0 p1 p2 o3 o4 o5 o6 o7 o8 o9 w_c f_ wE wL wD wA kD kA mr_ es4 es5 es6 h0 n0 (none) T82.heap _
 rw [e82]
 have K9 := (own_keep1 (own_keep1 (own_keep1 (own_keep1 (own_keep1 (own_keep1 (own_keep1 (own_keep1 (own_keep1 (Keep.refl T19.heap [o0]) W42) W47) W52) W57) W62) W67) W72) W77) W82)
 have c85 := (fo (fo (fo (fo (fo Fw57 W62 (Or.inr (hW hw 182 rfl)) (Or.inr (hW hw 184 rfl)) (.object s_2) (.object s_2)) W67 (Or.inr (hW hw 182 rfl)) (Or.inr (hW hw 186 rfl)) (.object s_2) (.object s_2)) W72 (Or.inr (hW hw 182 rfl)) (Or.inr (hW hw 188 rfl)) (.object s_2) (.object s_2)) W77 (Or.inr (hW hw 182 rfl)) (Or.inr (hW hw 190 rfl)) (.object s_2) (.object s_2)) W82 (Or.inr (hW hw 182 rfl)) (Or.inr (hW hw 192 rfl)) (.object s_2) (.object s_2))
 have c86 := (fo (fo (fo (fo Fw62 W67 (Or.inr (hW hw 184 rfl)) (Or.inr (hW hw 186 rfl)) (.object s_2) (.object s_2)) W72 (Or.inr (hW hw 184 rfl)) (Or.inr (hW hw 188 rfl)) (.object s_2) (.object s_2)) W77 (Or.inr (hW hw 184 rfl)) (Or.inr (hW hw 190 rfl)) (.object s_2) (.object s_2)) W82 (Or.inr (hW hw 184 rfl)) (Or.inr (hW hw 192 rfl)) (.object s_2) (.object s_2))
 have c87 := (fo (fo (fo Fw67 W72 (Or.inr (hW hw 186 rfl)) (Or.inr (hW hw 188 rfl)) (.object s_2) (.object s_2)) W77 (Or.inr (hW hw 186 rfl)) (Or.inr (hW hw 190 rfl)) (.object s_2) (.object s_2)) W82 (Or.inr (hW hw 186 rfl)) (Or.inr (hW hw 192 rfl)) (.object s_2) (.object s_2))
 have c88 := (fo Fw77 W82 (Or.inr (hW hw 190 rfl)) (Or.inr (hW hw 192 rfl)) (.object s_2) (.object s_2))
 have c89 := (c81.wr W82)
 exact ⟨rfl, N82, K84, c89, ⟨_, c85, I37.keepE K9 c40 (by decide)⟩, ⟨_, c86, I38.keepE K9 c40 (by decide)⟩, ⟨_, c87, I39.keepE K9 c40 (by decide)⟩, c88, Fw82⟩
def t_38 : List (Nat × Instr × Nat) := [(0, .aload_n 0, 1), (1, .getfield 7, 3), (4, .arraylength, 1), (5, .ireturn, 1)]
theorem q_38 : ∀ i : Fin 4, decode c_38 (gt t_38 i.1).1 = .ok ((gt t_38 i.1).2.1, (gt t_38 i.1).2.2) := by decide +kernel
def Q38 (Z : State) (o0 : Addr) (w_l : Addr) (k_l : ClassId) (n_l : Int32) (vs_ : List Value) (h0 : Heap) (n0 : Nat) (v : Option Value) (h : Heap) (L : List Loc) : Prop := v = some (.int n_l) ∧ Fr n0 L ∧ h = h0
set_option maxRecDepth 65536 in
set_option maxHeartbeats 40000000 in
theorem rm38 (o0 : Addr) (w_l : Addr) (k_l : ClassId) (n_l : Int32) (vs_ : List Value) (h0 : Heap) (n0 : Nat) (Z0 : n0 ≤ h0.size) (F_elements : Fld Z h0 o0 s_16 s_20 s_3 (.ref w_l)) (V_l : Arv Z h0 w_l k_l (.object s_0) n_l vs_ .null) :
  Mt hw l M_46 (Jvm.Cond.code M_46 c_38 1 (some .int)) ws R_0_0_0_0 #[(.ref o0)] h0 (Q38 Z o0 w_l k_l n_l vs_ h0 n0) := by
 refine ent s_16 rfl hisR fun p e s m below meth c s₁ Bd hx hby hml hown hnm hlk hZ X0 e0 => ?_
 have D := fun i => hb hby (q_38 i)
 have u := hU hw
 have N0 := Fr.nil n0
 rw [ef_4]
 show gO (tF s₁ m 0 #[.val (.ref o0)] [])
 refine gaN X0 hx (D 0) rfl rfl ?_
 obtain ⟨T1, X1, e1, st1⟩ := getF X0 hx hZ hown (host := "") (Or.inl (hW hw 309 rfl)) Via.refl e0 F_elements (g := (mkF m 1 #[.val (.ref o0)] [(.ref o0)])) rfl rfl (D 1)
 refine gob st1 ?_
 obtain ⟨cl2, Ar2, aq2, S2, N2, H2, G2⟩ := id V_l
 refine gob (X1.arraylength hx (by rw [e1]; exact Ar2.1) (State.isArrayOf_alike hZ.alike Ar2.2.1) (g := (mkF m 4 #[.val (.ref o0)] [(.ref w_l)])) rfl rfl (D 2)) ?_
 rw [len_of S2 N2]
 show gO (tF T1 m 5 #[.val (.ref o0)] [(.int n_l)])
 refine goI X1 hx hlk Bd.returns (D 3) ?_ (by decide) (by decide)
 show Q38 Z o0 w_l k_l n_l vs_ h0 n0 (some (.int n_l)) T1.heap _
 exact ⟨rfl, N0, e1⟩
def t_43 : List (Nat × Instr × Nat) := [(0, .aload_n 0, 1), (1, .getfield 24, 3), (4, .getstatic 19, 3), (7, .if_acmp .eq 7, 3), (10, .iconst 2, 1), (11, .goto 4, 3), (14, .iconst 1, 1), (15, .ireturn, 1)]
theorem q_43 : ∀ i : Fin 8, decode c_43 (gt t_43 i.1).1 = .ok ((gt t_43 i.1).2.1, (gt t_43 i.1).2.2) := by decide +kernel
def Q43_1 (Z : State) (o0 : Addr) (w_1 : Addr) (h0 : Heap) (n0 : Nat) (v : Option Value) (h : Heap) (L : List Loc) : Prop := v = some (.int (1 : Int32)) ∧ Fr n0 L ∧ h = h0
set_option maxRecDepth 65536 in
set_option maxHeartbeats 40000000 in
theorem rm43_1 (o0 : Addr) (w_1 : Addr) (h0 : Heap) (n0 : Nat) (Z0 : n0 ≤ h0.size) (F_e1 : Fld Z h0 o0 s_13 "e1" s_17 (.ref w_1)) (S_E : Sta Z h0 s_18 "EMPTY" s_17 (.ref w_1)) :
  Mt hw l M_47 (Jvm.Cond.code M_47 c_43 1 (some .int)) ws R_0_0_0_0 #[(.ref o0)] h0 (Q43_1 Z o0 w_1 h0 n0) := by
 refine ent s_13 rfl hisR fun p e s m below meth c s₁ Bd hx hby hml hown hnm hlk hZ X0 e0 => ?_
 have D := fun i => hb hby (q_43 i)
 have u := hU hw
 have N0 := Fr.nil n0
 rw [ef_4]
 show gO (tF s₁ m 0 #[.val (.ref o0)] [])
 refine gaN X0 hx (D 0) rfl rfl ?_
 obtain ⟨T1, X1, e1, st1⟩ := getF X0 hx hZ hown (host := "") (Or.inl (hW hw 173 rfl)) Via.refl e0 F_e1 (g := (mkF m 1 #[.val (.ref o0)] [(.ref o0)])) rfl rfl (D 1)
 refine gob st1 ?_
 obtain ⟨T2, X2, e2, st2⟩ := getS2 X1 hx hZ hown (Or.inr (hW hw 172 rfl)) Via.refl e1 S_E (g := (mkF m 4 #[.val (.ref o0)] [(.ref w_1)])) rfl (D 2)
 refine gob st2 ?_
 refine gob (fun _ k => Jvm.RoadKit.acmp (g := (mkF m 7 #[.val (.ref o0)] [(.ref w_1), (.ref w_1)])) X2 hx rfl rfl rfl (pc0 := 7) (pc' := 14) (same := true) rfl (D 3) rfl (decide_eq_true rfl) (by decide) (by decide) k) ?_
 show gO (tF T2 m 14 #[.val (.ref o0)] [])
 refine giC X2 hx (D 6) ?_
 refine goI X2 hx hlk Bd.returns (D 7) ?_ (by decide) (by decide)
 show Q43_1 Z o0 w_1 h0 n0 (some (.int (1 : Int32))) T2.heap _
 exact ⟨rfl, N0, e2⟩
def Q43_2 (Z : State) (o0 : Addr) (w_1 : Addr) (w_E : Addr) (h0 : Heap) (n0 : Nat) (v : Option Value) (h : Heap) (L : List Loc) : Prop := v = some (.int (2 : Int32)) ∧ Fr n0 L ∧ h = h0
set_option maxRecDepth 65536 in
set_option maxHeartbeats 40000000 in
theorem rm43_2 (o0 : Addr) (w_1 : Addr) (w_E : Addr) (h0 : Heap) (n0 : Nat) (Z0 : n0 ≤ h0.size) (F_e1 : Fld Z h0 o0 s_13 "e1" s_17 (.ref w_1)) (n_E : w_1 ≠ w_E) (S_E : Sta Z h0 s_18 "EMPTY" s_17 (.ref w_E)) :
  Mt hw l M_47 (Jvm.Cond.code M_47 c_43 1 (some .int)) ws R_0_0_0_0 #[(.ref o0)] h0 (Q43_2 Z o0 w_1 w_E h0 n0) := by
 refine ent s_13 rfl hisR fun p e s m below meth c s₁ Bd hx hby hml hown hnm hlk hZ X0 e0 => ?_
 have D := fun i => hb hby (q_43 i)
 have u := hU hw
 have N0 := Fr.nil n0
 rw [ef_4]
 show gO (tF s₁ m 0 #[.val (.ref o0)] [])
 refine gaN X0 hx (D 0) rfl rfl ?_
 obtain ⟨T1, X1, e1, st1⟩ := getF X0 hx hZ hown (host := "") (Or.inl (hW hw 173 rfl)) Via.refl e0 F_e1 (g := (mkF m 1 #[.val (.ref o0)] [(.ref o0)])) rfl rfl (D 1)
 refine gob st1 ?_
 obtain ⟨T2, X2, e2, st2⟩ := getS2 X1 hx hZ hown (Or.inr (hW hw 172 rfl)) Via.refl e1 S_E (g := (mkF m 4 #[.val (.ref o0)] [(.ref w_1)])) rfl (D 2)
 refine gob st2 ?_
 refine gob (fun _ k => Jvm.RoadKit.acmp (g := (mkF m 7 #[.val (.ref o0)] [(.ref w_E), (.ref w_1)])) X2 hx rfl rfl rfl (pc0 := 7) (pc' := 10) (same := false) rfl (D 3) rfl (decide_eq_false fun q => n_E (Value.ref.inj q)) (by decide) (by decide) k) ?_
 show gO (tF T2 m 10 #[.val (.ref o0)] [])
 refine giC X2 hx (D 4) ?_
 refine go (XS.goto X2.here hx rfl (pc0 := 11) (pc' := 15) rfl (D 5) (by decide) (by decide)) ?_
 refine goI X2 hx hlk Bd.returns (D 7) ?_ (by decide) (by decide)
 show Q43_2 Z o0 w_1 w_E h0 n0 (some (.int (2 : Int32))) T2.heap _
 exact ⟨rfl, N0, e2⟩
def t_44 : List (Nat × Instr × Nat) := [(0, .iload_n 1, 1), (1, .ifCond .ne 8, 3), (4, .aload_n 0, 1), (5, .getfield 13, 3), (8, .areturn, 1), (9, .iload_n 1, 1), (10, .iconst 1, 1), (11, .if_icmp .ne 18, 3), (14, .aload_n 0, 1), (15, .getfield 24, 3), (18, .getstatic 19, 3), (21, .if_acmp .eq 8, 3), (24, .aload_n 0, 1), (25, .getfield 24, 3), (28, .areturn, 1)]
theorem q_44 : ∀ i : Fin 15, decode c_44 (gt t_44 i.1).1 = .ok ((gt t_44 i.1).2.1, (gt t_44 i.1).2.2) := by decide +kernel
theorem ef_44_0 (m : MethodId) (x0 : Addr) (x1 : Int32) : entryFrame m #[(.ref x0), (.int x1)] 2 = mkF m 0 #[.val (.ref x0), .val (.int x1)] [] := by first | (simp [entryFrame, mkF, argsToLocals, Value.category]; done) | rfl
def Q44_0 (Z : State) (o0 : Addr) (p1 : Int32) (w1 : Addr) (h0 : Heap) (n0 : Nat) (v : Option Value) (h : Heap) (L : List Loc) : Prop := v = some (.ref w1) ∧ Fr n0 L ∧ h = h0
set_option maxRecDepth 65536 in
set_option maxHeartbeats 40000000 in
theorem rm44_0 (o0 : Addr) (p1 : Int32) (w1 : Addr) (h0 : Heap) (n0 : Nat) (Z0 : n0 ≤ h0.size) (hf1 : p1 = (0 : Int32)) (F_e0_o0 : Fld Z h0 o0 s_13 "e0" s_17 (.ref w1)) :
  Mt hw l M_48 (Jvm.Cond.code M_48 c_44 2 (some (.object s_0))) ws R_0_0_0_0 #[(.ref o0), (.int p1)] h0 (Q44_0 Z o0 p1 w1 h0 n0) := by
 refine ent s_13 rfl hisR fun p e s m below meth c s₁ Bd hx hby hml hown hnm hlk hZ X0 e0 => ?_
 have D := fun i => hb hby (q_44 i)
 have u := hU hw
 have N0 := Fr.nil n0
 rw [ef_44_0]
 show gO (tF s₁ m 0 #[.val (.ref o0), .val (.int p1)] [])
 refine giN X0 hx (D 0) rfl ?_
 refine go (XS.ifNo X0.here hx rfl (D 1) rfl ((if0 _ _).trans (teq hf1).2)) ?_
 refine gaN X0 hx (D 2) rfl rfl ?_
 obtain ⟨T2, X2, e2, st2⟩ := getF X0 hx hZ hown (host := "") (Or.inl (hW hw 170 rfl)) Via.refl e0 F_e0_o0 (g := (mkF m 5 #[.val (.ref o0), .val (.int p1)] [(.ref o0)])) rfl rfl (D 3)
 refine gob st2 ?_
 refine goA X2 hx hlk Bd.returns rfl rfl (D 4) ?_ (by decide) (by decide)
 show Q44_0 Z o0 p1 w1 h0 n0 (some (.ref w1)) T2.heap _
 exact ⟨rfl, N0, e2⟩
def Q44_1 (Z : State) (o0 : Addr) (p1 : Int32) (w_1 : Addr) (w_E : Addr) (h0 : Heap) (n0 : Nat) (v : Option Value) (h : Heap) (L : List Loc) : Prop := v = some (.ref w_1) ∧ Fr n0 L ∧ h = h0
set_option maxRecDepth 65536 in
set_option maxHeartbeats 40000000 in
theorem rm44_1 (o0 : Addr) (p1 : Int32) (w_1 : Addr) (w_E : Addr) (h0 : Heap) (n0 : Nat) (Z0 : n0 ≤ h0.size) (F_e1 : Fld Z h0 o0 s_13 "e1" s_17 (.ref w_1)) (n_E : w_1 ≠ w_E) (S_E : Sta Z h0 s_18 "EMPTY" s_17 (.ref w_E)) (hf1 : ¬ (p1 = (0 : Int32))) (hf11 : p1 = (1 : Int32)) :
  Mt hw l M_48 (Jvm.Cond.code M_48 c_44 2 (some (.object s_0))) ws R_0_0_0_0 #[(.ref o0), (.int p1)] h0 (Q44_1 Z o0 p1 w_1 w_E h0 n0) := by
 refine ent s_13 rfl hisR fun p e s m below meth c s₁ Bd hx hby hml hown hnm hlk hZ X0 e0 => ?_
 have D := fun i => hb hby (q_44 i)
 have u := hU hw
 have N0 := Fr.nil n0
 rw [ef_44_0]
 show gO (tF s₁ m 0 #[.val (.ref o0), .val (.int p1)] [])
 refine giN X0 hx (D 0) rfl ?_
 refine go (XS.ifYes X0.here hx rfl (pc0 := 1) (pc' := 9) rfl (D 1) rfl ((if0 _ _).trans (feq hf1).2) (by decide) (by decide)) ?_
 refine giN X0 hx (D 5) rfl ?_
 refine giC X0 hx (D 6) ?_
 refine go (XS.icmpNo X0.here hx rfl (D 7) rfl (teq hf11).2) ?_
 refine gaN X0 hx (D 8) rfl rfl ?_
 obtain ⟨T1, X1, e1, st1⟩ := getF X0 hx hZ hown (host := "") (Or.inl (hW hw 173 rfl)) Via.refl e0 F_e1 (g := (mkF m 15 #[.val (.ref o0), .val (.int p1)] [(.ref o0)])) rfl rfl (D 9)
 refine gob st1 ?_
 obtain ⟨T2, X2, e2, st2⟩ := getS2 X1 hx hZ hown (Or.inr (hW hw 172 rfl)) Via.refl e1 S_E (g := (mkF m 18 #[.val (.ref o0), .val (.int p1)] [(.ref w_1)])) rfl (D 10)
 refine gob st2 ?_
 refine gob (fun _ k => Jvm.RoadKit.acmp (g := (mkF m 21 #[.val (.ref o0), .val (.int p1)] [(.ref w_E), (.ref w_1)])) X2 hx rfl rfl rfl (pc0 := 21) (pc' := 24) (same := false) rfl (D 11) rfl (decide_eq_false fun q => n_E (Value.ref.inj q)) (by decide) (by decide) k) ?_
 show gO (tF T2 m 24 #[.val (.ref o0), .val (.int p1)] [])
 show gO (tF T2 m 24 #[.val (.ref o0), .val (.int p1)] [])
 refine gaN X2 hx (D 12) rfl rfl ?_
 obtain ⟨T3, X3, e3, st3⟩ := getF X2 hx hZ hown (host := "") (Or.inl (hW hw 173 rfl)) Via.refl e2 F_e1 (g := (mkF m 25 #[.val (.ref o0), .val (.int p1)] [(.ref o0)])) rfl rfl (D 13)
 refine gob st3 ?_
 refine goA X3 hx hlk Bd.returns rfl rfl (D 14) ?_ (by decide) (by decide)
 show Q44_1 Z o0 p1 w_1 w_E h0 n0 (some (.ref w_1)) T3.heap _
 exact ⟨rfl, N0, e3⟩
def t_65 : List (Nat × Instr × Nat) := [(0, .aload_n 0, 1), (1, .getfield 7, 3), (4, .iload_n 1, 1), (5, .aaload, 1), (6, .areturn, 1)]
theorem q_65 : ∀ i : Fin 5, decode c_65 (gt t_65 i.1).1 = .ok ((gt t_65 i.1).2.1, (gt t_65 i.1).2.2) := by decide +kernel
def Q65 (Z : State) (o0 : Addr) (p1 : Int32) (w_l : Addr) (k_l : ClassId) (n_l : Int32) (vs_ : List Value) (v_g : Addr) (h0 : Heap) (n0 : Nat) (v : Option Value) (h : Heap) (L : List Loc) : Prop := v = some (.ref v_g) ∧ Fr n0 L ∧ h = h0
set_option maxRecDepth 65536 in
set_option maxHeartbeats 40000000 in
theorem rm65 (o0 : Addr) (p1 : Int32) (w_l : Addr) (k_l : ClassId) (n_l : Int32) (vs_ : List Value) (v_g : Addr) (h0 : Heap) (n0 : Nat) (Z0 : n0 ≤ h0.size) (F_elements : Fld Z h0 o0 s_16 s_20 s_3 (.ref w_l)) (V_l : Arv Z h0 w_l k_l (.object s_0) n_l vs_ .null) (hg0 : ¬ (p1 < 0) ∧ p1 < n_l) (hg1 : vs_.getD p1.toNatClampNeg .null = .ref v_g) :
  Mt hw l M_49 (Jvm.Cond.code M_49 c_65 2 (some (.object s_0))) ws R_0_0_0_0 #[(.ref o0), (.int p1)] h0 (Q65 Z o0 p1 w_l k_l n_l vs_ v_g h0 n0) := by
 refine ent s_16 rfl hisR fun p e s m below meth c s₁ Bd hx hby hml hown hnm hlk hZ X0 e0 => ?_
 have D := fun i => hb hby (q_65 i)
 have u := hU hw
 have N0 := Fr.nil n0
 rw [ef_44_0]
 show gO (tF s₁ m 0 #[.val (.ref o0), .val (.int p1)] [])
 refine gaN X0 hx (D 0) rfl rfl ?_
 obtain ⟨T1, X1, e1, st1⟩ := getF X0 hx hZ hown (host := "") (Or.inl (hW hw 309 rfl)) Via.refl e0 F_elements (g := (mkF m 1 #[.val (.ref o0), .val (.int p1)] [(.ref o0)])) rfl rfl (D 1)
 refine gob st1 ?_
 refine giN X1 hx (D 2) rfl ?_
 obtain ⟨cl2, Ar2, aq2, S2, N2, H2, G2⟩ := id V_l
 have hin2 := inb_of S2 hg0
 refine gob (X1.aaload hx (j := p1) (v := (.ref v_g)) (by rw [e1]; exact Ar2.1) (State.isArrayOf_alike hZ.alike Ar2.2.1) rfl Ar2.2.2 hin2 (Has.at H2 hin2 hg1) (g := (mkF m 5 #[.val (.ref o0), .val (.int p1)] [(.int p1), (.ref w_l)])) rfl rfl (D 3)) ?_
 refine goA X1 hx hlk Bd.returns rfl rfl (D 4) ?_ (by decide) (by decide)
 show Q65 Z o0 p1 w_l k_l n_l vs_ v_g h0 n0 (some (.ref v_g)) T1.heap _
 exact ⟨rfl, N0, e1⟩
def t_37 : List (Nat × Instr × Nat) := [(0, .new 61, 3), (3, .dup, 1), (4, .aload_n 0, 1), (5, .aload_n 0, 1), (6, .invokevirtual 13, 3), (9, .invokespecial 63, 3), (12, .areturn, 1)]
theorem q_37 : ∀ i : Fin 7, decode c_37 (gt t_37 i.1).1 = .ok ((gt t_37 i.1).2.1, (gt t_37 i.1).2.2) := by decide +kernel
theorem pd_18 : parseMethodDescriptor "()I" = some ⟨[], some .int⟩ := by decide +kernel
theorem pd_19 : parseMethodDescriptor "(Ljava/util/List;I)V" = some ⟨[(.object "java/util/List"), .int], none⟩ := by decide +kernel
def Q37_N (Z : State) (o0 : Addr) (w_l : Addr) (k_l : ClassId) (n_l : Int32) (vs_ : List Value) (h0 : Heap) (n0 : Nat) (v : Option Value) (h : Heap) (L : List Loc) : Prop := ∃ b1 : Addr, v = some (.ref b1) ∧ Fr n0 L ∧ Keep h0 h ([] : List Addr) ∧ h0.size ≤ b1 ∧ Exa Z h b1 s_6 ∧ Fld Z h b1 s_6 "list" s_11 (.ref o0) ∧ Fld Z h b1 s_6 "size" "I" (.int n_l) ∧ Fld Z h b1 s_6 "cursor" "I" (.int 0) ∧ Fld Z h b1 s_6 s_33 "Z" (.int 0)
set_option maxRecDepth 65536 in
set_option maxHeartbeats 40000000 in
theorem rm37_N (o0 : Addr) (w_l : Addr) (k_l : ClassId) (n_l : Int32) (vs_ : List Value) (h0 : Heap) (n0 : Nat) (Z0 : n0 ≤ h0.size) (E_o0 : Exa Z h0 o0 s_16) (F_elements : Fld Z h0 o0 s_16 s_20 s_3 (.ref w_l)) (V_l : Arv Z h0 w_l k_l (.object s_0) n_l vs_ .null) :
  Mt hw l M_50 (Jvm.Cond.code M_50 c_37 1 (some (.object s_44))) ws R_2_1_4_27 #[(.ref o0)] h0 (Q37_N Z o0 w_l k_l n_l vs_ h0 n0) := by
 refine ent s_45 rfl hisR fun p e s m below meth c s₁ Bd hx hby hml hown hnm hlk hZ X0 e0 => ?_
 have D := fun i => hb hby (q_37 i)
 have u := hU hw
 have N0 := Fr.nil n0
 rw [ef_4]
 show gO (tF s₁ m 0 #[.val (.ref o0)] [])
 obtain ⟨T1, h1, X1, e1, E1, A1, D1, -, st1⟩ := newO X0 hx hZ hown (u 299) (u 300) (u 301) e0 (g := (mkF m 0 #[.val (.ref o0)] [])) rfl (D 0) (by decide) (by decide)
 obtain ⟨b1, g1⟩ : ∃ z, z = h0.size := ⟨_, rfl⟩
 rw [← g1] at A1 D1 st1
 have g4 : n0 ≤ b1 := Nat.le_trans Z0 (Nat.le_of_eq g1.symm)
 have sz_b1 : h0.size ≤ b1 := Nat.le_trans (Keep.refl h0 []).1 (Nat.le_of_eq g1.symm)
 have z5 : n0 ≤ h1.size := Nat.le_trans Z0 E1.1
 have K6 : Keep h0 h1 ([] : List Addr) := (Keep.refl h0 ([] : List Addr)).ext E1
 have F1_list : Fld Z h1 b1 s_6 "list" s_11 .null := D1 (Or.inr (hW hw 317 rfl)) (ty := (.object s_2)) (by decide)
 have F1_size : Fld Z h1 b1 s_6 "size" "I" (.int (0 : Int32)) := D1 (Or.inr (hW hw 319 rfl)) (ty := .int) (by decide)
 have F1_cursor : Fld Z h1 b1 s_6 "cursor" "I" (.int (0 : Int32)) := D1 (Or.inl (hW hw 321 rfl)) (ty := .int) (by decide)
 have F1_isListIterator : Fld Z h1 b1 s_6 s_33 "Z" (.int (0 : Int32)) := D1 (Or.inr (hW hw 323 rfl)) (ty := .boolean) (by decide)
 refine gob st1 ?_
 replace X1 := castX X1 (rfl : _ = 1) (rfl : _ = 4)
 show gO (tF T1 m 3 #[.val (.ref o0)] [(.ref b1)])
 refine go (XS.dup X1.here hx rfl (D 1) rfl rfl) ?_
 refine gaN X1 hx (D 2) rfl rfl ?_
 refine gaN X1 hx (D 3) rfl rfl ?_
 have c8 := (F_elements.ext E1)
 have c9 := (V_l.ext E1)
 have c10 := (E_o0.ext E1)
 obtain ⟨cq7, kq7, q7a, q7b, q7c⟩ := isOf hZ e1 c10
 obtain ⟨_, T7, Lc7, X7, hQ7, st7⟩ := clB X1 (X1.virtualBackUp hx (x := M_51) (y := M_46) hown (mvT hZ (u 302)) (mvT hZ (u 303)) (mvT hZ (u 304)) (by decide) (mvT hZ (u 305)) (mvT hZ (u 306)) (backOf (W := 3) (rm38 l Z a0 hw [] o0 w_l k_l n_l vs_ h1 n0 z5 c8 c9) hZ (u 308) (u 307) (by decide) (by decide)) q7a q7c (g := (mkF m 6 #[.val (.ref o0)] [(.ref o0), (.ref o0), (.ref b1), (.ref b1)])) rfl (by rw [hml]; rfl) (Steps.refl _) (argsL := []) (rest := [(.ref o0), (.ref b1), (.ref b1)]) (lenOf pd_18 rfl) rfl (wk rfl rfl) (D 4) (fun _ _ => ⟨rfl, e1, lD rfl, lD rfl⟩)) (k := 1) (n := 4) rfl rfl
 obtain ⟨rfl, Nq7, e7⟩ := hQ7
 have N7 := Fr.app N0 Nq7
 refine gob (fun _ k => st7.trans k) ?_
 obtain ⟨_, T11, Lc11, X11, hQ11, st11⟩ := clB X7 (X7.specialBack hx (y := M_18) rfl hown (mvT hZ (u 311)) (mvT hZ (u 312)) (mvT hZ (u 314)) (by decide) (backOf (W := 1) (rm39 l Z a0 hw [] b1 o0 n_l h1 n0 z5 A1 F1_list g4 F1_size F1_cursor F1_isListIterator) hZ (u 314) (u 301) (by decide) (by decide)) (g := (mkF m 9 #[.val (.ref o0)] [(.int n_l), (.ref o0), (.ref b1), (.ref b1)])) rfl (by rw [hml]; rfl) (Steps.refl _) (a := b1) (argsL := [(.ref o0), (.int n_l)]) (rest := [(.ref b1)]) (lenOf pd_19 rfl) rfl (wk rfl rfl) (D 5) (fun _ _ => ⟨rfl, e7, lD rfl, lD rfl⟩)) (k := 1) (n := 4) rfl rfl
 obtain ⟨rfl, Nq11, K11, F12, F13, F14, F15⟩ := hQ11
 have N11 := Fr.app N7 Nq11
 have K17 : Keep h0 T11.heap ([] : List Addr) := K6.trans K11 (allS (Or.inr sz_b1) all0)
 refine gob (fun _ k => st11.trans k) ?_
 refine goA X11 hx hlk Bd.returns rfl rfl (D 6) ?_ (by decide) (by decide)
 show Q37_N Z o0 w_l k_l n_l vs_ h0 n0 (some (.ref b1)) T11.heap _
 have c18 := (A1.keep K11)
 exact ⟨b1, rfl, N11, K17, sz_b1, c18, F12, F13, F14, F15⟩
def Q37_1 (Z : State) (o0 : Addr) (w_1 : Addr) (h0 : Heap) (n0 : Nat) (v : Option Value) (h : Heap) (L : List Loc) : Prop := ∃ b1 : Addr, v = some (.ref b1) ∧ Fr n0 L ∧ Keep h0 h ([] : List Addr) ∧ h0.size ≤ b1 ∧ Exa Z h b1 s_6 ∧ Fld Z h b1 s_6 "list" s_11 (.ref o0) ∧ Fld Z h b1 s_6 "size" "I" (.int 1) ∧ Fld Z h b1 s_6 "cursor" "I" (.int 0) ∧ Fld Z h b1 s_6 s_33 "Z" (.int 0)
set_option maxRecDepth 65536 in
set_option maxHeartbeats 40000000 in
theorem rm37_1 (o0 : Addr) (w_1 : Addr) (h0 : Heap) (n0 : Nat) (Z0 : n0 ≤ h0.size) (E_o0 : Exa Z h0 o0 s_13) (F_e1 : Fld Z h0 o0 s_13 "e1" s_17 (.ref w_1)) (S_E : Sta Z h0 s_18 "EMPTY" s_17 (.ref w_1)) :
  Mt hw l M_50 (Jvm.Cond.code M_50 c_37 1 (some (.object s_44))) ws R_2_1_4_27 #[(.ref o0)] h0 (Q37_1 Z o0 w_1 h0 n0) := by
 refine ent s_45 rfl hisR fun p e s m below meth c s₁ Bd hx hby hml hown hnm hlk hZ X0 e0 => ?_
 have D := fun i => hb hby (q_37 i)
 have u := hU hw
 have N0 := Fr.nil n0
 rw [ef_4]
 show gO (tF s₁ m 0 #[.val (.ref o0)] [])
 obtain ⟨T1, h1, X1, e1, E1, A1, D1, -, st1⟩ := newO X0 hx hZ hown (u 299) (u 300) (u 301) e0 (g := (mkF m 0 #[.val (.ref o0)] [])) rfl (D 0) (by decide) (by decide)
 obtain ⟨b1, g1⟩ : ∃ z, z = h0.size := ⟨_, rfl⟩
 rw [← g1] at A1 D1 st1
 have g3 : n0 ≤ b1 := Nat.le_trans Z0 (Nat.le_of_eq g1.symm)
 have sz_b1 : h0.size ≤ b1 := Nat.le_trans (Keep.refl h0 []).1 (Nat.le_of_eq g1.symm)
 have z4 : n0 ≤ h1.size := Nat.le_trans Z0 E1.1
 have K5 : Keep h0 h1 ([] : List Addr) := (Keep.refl h0 ([] : List Addr)).ext E1
 have F1_list : Fld Z h1 b1 s_6 "list" s_11 .null := D1 (Or.inr (hW hw 317 rfl)) (ty := (.object s_2)) (by decide)
 have F1_size : Fld Z h1 b1 s_6 "size" "I" (.int (0 : Int32)) := D1 (Or.inr (hW hw 319 rfl)) (ty := .int) (by decide)
 have F1_cursor : Fld Z h1 b1 s_6 "cursor" "I" (.int (0 : Int32)) := D1 (Or.inl (hW hw 321 rfl)) (ty := .int) (by decide)
 have F1_isListIterator : Fld Z h1 b1 s_6 s_33 "Z" (.int (0 : Int32)) := D1 (Or.inr (hW hw 323 rfl)) (ty := .boolean) (by decide)
 refine gob st1 ?_
 replace X1 := castX X1 (rfl : _ = 1) (rfl : _ = 4)
 show gO (tF T1 m 3 #[.val (.ref o0)] [(.ref b1)])
 refine go (XS.dup X1.here hx rfl (D 1) rfl rfl) ?_
 refine gaN X1 hx (D 2) rfl rfl ?_
 refine gaN X1 hx (D 3) rfl rfl ?_
 have c7 := (F_e1.ext E1)
 have c8 := (S_E.ext E1)
 have c9 := (E_o0.ext E1)
 obtain ⟨cq6, kq6, q6a, q6b, q6c⟩ := isOf hZ e1 c9
 obtain ⟨_, T6, Lc6, X6, hQ6, st6⟩ := clB X1 (X1.virtualBackUp hx (x := M_51) (y := M_47) hown (mvT hZ (u 302)) (mvT hZ (u 303)) (mvT hZ (u 304)) (by decide) (mvT hZ (u 472)) (mvT hZ (u 349)) (backOf (W := 3) (rm43_1 l Z a0 hw [] o0 w_1 h1 n0 z4 c7 c8) hZ (u 353) (u 147) (by decide) (by decide)) q6a q6c (g := (mkF m 6 #[.val (.ref o0)] [(.ref o0), (.ref o0), (.ref b1), (.ref b1)])) rfl (by rw [hml]; rfl) (Steps.refl _) (argsL := []) (rest := [(.ref o0), (.ref b1), (.ref b1)]) (lenOf pd_18 rfl) rfl (wk rfl rfl) (D 4) (fun _ _ => ⟨rfl, e1, lD rfl, lD rfl⟩)) (k := 1) (n := 4) rfl rfl
 obtain ⟨rfl, Nq6, e6⟩ := hQ6
 have N6 := Fr.app N0 Nq6
 refine gob (fun _ k => st6.trans k) ?_
 obtain ⟨_, T10, Lc10, X10, hQ10, st10⟩ := clB X6 (X6.specialBack hx (y := M_18) rfl hown (mvT hZ (u 311)) (mvT hZ (u 312)) (mvT hZ (u 314)) (by decide) (backOf (W := 1) (rm39 l Z a0 hw [] b1 o0 (1 : Int32) h1 n0 z4 A1 F1_list g3 F1_size F1_cursor F1_isListIterator) hZ (u 314) (u 301) (by decide) (by decide)) (g := (mkF m 9 #[.val (.ref o0)] [(.int 1), (.ref o0), (.ref b1), (.ref b1)])) rfl (by rw [hml]; rfl) (Steps.refl _) (a := b1) (argsL := [(.ref o0), (.int 1)]) (rest := [(.ref b1)]) (lenOf pd_19 rfl) rfl (wk rfl rfl) (D 5) (fun _ _ => ⟨rfl, e6, lD rfl, lD rfl⟩)) (k := 1) (n := 4) rfl rfl
 obtain ⟨rfl, Nq10, K10, F11, F12, F13, F14⟩ := hQ10
 have N10 := Fr.app N6 Nq10
 have K17 : Keep h0 T10.heap ([] : List Addr) := K5.trans K10 (allS (Or.inr sz_b1) all0)
 refine gob (fun _ k => st10.trans k) ?_
 refine goA X10 hx hlk Bd.returns rfl rfl (D 6) ?_ (by decide) (by decide)
 show Q37_1 Z o0 w_1 h0 n0 (some (.ref b1)) T10.heap _
 have c18 := (A1.keep K10)
 exact ⟨b1, rfl, N10, K17, sz_b1, c18, F11, F12, F13, F14⟩
def t_40 : List (Nat × Instr × Nat) := [(0, .aload_n 0, 1), (1, .getfield 17, 3), (4, .aload_n 0, 1), (5, .getfield 13, 3), (8, .if_icmp .eq 7, 3), (11, .iconst 1, 1), (12, .goto 4, 3), (15, .iconst 0, 1), (16, .ireturn, 1)]
theorem q_40 : ∀ i : Fin 9, decode c_40 (gt t_40 i.1).1 = .ok ((gt t_40 i.1).2.1, (gt t_40 i.1).2.2) := by decide +kernel
def Q40_00 (Z : State) (o0 : Addr) (h0 : Heap) (n0 : Nat) (v : Option Value) (h : Heap) (L : List Loc) : Prop := v = some (.int (0 : Int32)) ∧ Fr n0 L ∧ h = h0
set_option maxRecDepth 65536 in
set_option maxHeartbeats 40000000 in
theorem rm40_00 (o0 : Addr) (h0 : Heap) (n0 : Nat) (Z0 : n0 ≤ h0.size) (F_cursor : Fld Z h0 o0 s_6 "cursor" "I" (.int 0)) (F_size : Fld Z h0 o0 s_6 "size" "I" (.int 0)) :
  Mt hw l M_52 (Jvm.Cond.code M_52 c_40 1 (some .boolean)) ws R_0_0_0_0 #[(.ref o0)] h0 (Q40_00 Z o0 h0 n0) := by
 refine ent s_6 rfl hisR fun p e s m below meth c s₁ Bd hx hby hml hown hnm hlk hZ X0 e0 => ?_
 have D := fun i => hb hby (q_40 i)
 have u := hU hw
 have N0 := Fr.nil n0
 rw [ef_4]
 show gO (tF s₁ m 0 #[.val (.ref o0)] [])
 refine gaN X0 hx (D 0) rfl rfl ?_
 obtain ⟨T1, X1, e1, st1⟩ := getF X0 hx hZ hown (host := "") (Or.inl (hW hw 320 rfl)) Via.refl e0 F_cursor (g := (mkF m 1 #[.val (.ref o0)] [(.ref o0)])) rfl rfl (D 1)
 refine gob st1 ?_
 refine gaN X1 hx (D 2) rfl rfl ?_
 obtain ⟨T2, X2, e2, st2⟩ := getF X1 hx hZ hown (host := "") (Or.inl (hW hw 318 rfl)) Via.refl e1 F_size (g := (mkF m 5 #[.val (.ref o0)] [(.ref o0), (.int 0)])) rfl rfl (D 3)
 refine gob st2 ?_
 refine go (XS.icmpYes X2.here hx rfl (pc0 := 8) (pc' := 15) rfl (D 4) rfl (teq (by decide : (0 : Int32) = (0 : Int32))).1 (by decide) (by decide)) ?_
 refine giC X2 hx (D 7) ?_
 refine goZ X2 hx hlk (t := .boolean) Bd.returns (by simp) (D 8) (z' := (0 : Int32)) rfl ?_ (by decide) (by decide)
 show Q40_00 Z o0 h0 n0 (some (.int (0 : Int32))) T2.heap _
 exact ⟨rfl, N0, e2⟩
def Q40_01 (Z : State) (o0 : Addr) (h0 : Heap) (n0 : Nat) (v : Option Value) (h : Heap) (L : List Loc) : Prop := v = some (.int (1 : Int32)) ∧ Fr n0 L ∧ h = h0
set_option maxRecDepth 65536 in
set_option maxHeartbeats 40000000 in
theorem rm40_01 (o0 : Addr) (h0 : Heap) (n0 : Nat) (Z0 : n0 ≤ h0.size) (F_cursor : Fld Z h0 o0 s_6 "cursor" "I" (.int 0)) (F_size : Fld Z h0 o0 s_6 "size" "I" (.int 1)) :
  Mt hw l M_52 (Jvm.Cond.code M_52 c_40 1 (some .boolean)) ws R_0_0_0_0 #[(.ref o0)] h0 (Q40_01 Z o0 h0 n0) := by
 refine ent s_6 rfl hisR fun p e s m below meth c s₁ Bd hx hby hml hown hnm hlk hZ X0 e0 => ?_
 have D := fun i => hb hby (q_40 i)
 have u := hU hw
 have N0 := Fr.nil n0
 rw [ef_4]
 show gO (tF s₁ m 0 #[.val (.ref o0)] [])
 refine gaN X0 hx (D 0) rfl rfl ?_
 obtain ⟨T1, X1, e1, st1⟩ := getF X0 hx hZ hown (host := "") (Or.inl (hW hw 320 rfl)) Via.refl e0 F_cursor (g := (mkF m 1 #[.val (.ref o0)] [(.ref o0)])) rfl rfl (D 1)
 refine gob st1 ?_
 refine gaN X1 hx (D 2) rfl rfl ?_
 obtain ⟨T2, X2, e2, st2⟩ := getF X1 hx hZ hown (host := "") (Or.inl (hW hw 318 rfl)) Via.refl e1 F_size (g := (mkF m 5 #[.val (.ref o0)] [(.ref o0), (.int 0)])) rfl rfl (D 3)
 refine gob st2 ?_
 refine go (XS.icmpNo X2.here hx rfl (D 4) rfl (feq (by decide : ¬ ((0 : Int32) = (1 : Int32)))).1) ?_
 refine giC X2 hx (D 5) ?_
 refine go (XS.goto X2.here hx rfl (pc0 := 12) (pc' := 16) rfl (D 6) (by decide) (by decide)) ?_
 refine goZ X2 hx hlk (t := .boolean) Bd.returns (by simp) (D 8) (z' := (1 : Int32)) rfl ?_ (by decide) (by decide)
 show Q40_01 Z o0 h0 n0 (some (.int (1 : Int32))) T2.heap _
 exact ⟨rfl, N0, e2⟩
def Q40_11 (Z : State) (o0 : Addr) (h0 : Heap) (n0 : Nat) (v : Option Value) (h : Heap) (L : List Loc) : Prop := v = some (.int (0 : Int32)) ∧ Fr n0 L ∧ h = h0
set_option maxRecDepth 65536 in
set_option maxHeartbeats 40000000 in
theorem rm40_11 (o0 : Addr) (h0 : Heap) (n0 : Nat) (Z0 : n0 ≤ h0.size) (F_cursor : Fld Z h0 o0 s_6 "cursor" "I" (.int 1)) (F_size : Fld Z h0 o0 s_6 "size" "I" (.int 1)) :
  Mt hw l M_52 (Jvm.Cond.code M_52 c_40 1 (some .boolean)) ws R_0_0_0_0 #[(.ref o0)] h0 (Q40_11 Z o0 h0 n0) := by
 refine ent s_6 rfl hisR fun p e s m below meth c s₁ Bd hx hby hml hown hnm hlk hZ X0 e0 => ?_
 have D := fun i => hb hby (q_40 i)
 have u := hU hw
 have N0 := Fr.nil n0
 rw [ef_4]
 show gO (tF s₁ m 0 #[.val (.ref o0)] [])
 refine gaN X0 hx (D 0) rfl rfl ?_
 obtain ⟨T1, X1, e1, st1⟩ := getF X0 hx hZ hown (host := "") (Or.inl (hW hw 320 rfl)) Via.refl e0 F_cursor (g := (mkF m 1 #[.val (.ref o0)] [(.ref o0)])) rfl rfl (D 1)
 refine gob st1 ?_
 refine gaN X1 hx (D 2) rfl rfl ?_
 obtain ⟨T2, X2, e2, st2⟩ := getF X1 hx hZ hown (host := "") (Or.inl (hW hw 318 rfl)) Via.refl e1 F_size (g := (mkF m 5 #[.val (.ref o0)] [(.ref o0), (.int 1)])) rfl rfl (D 3)
 refine gob st2 ?_
 refine go (XS.icmpYes X2.here hx rfl (pc0 := 8) (pc' := 15) rfl (D 4) rfl (teq (by decide : (1 : Int32) = (1 : Int32))).1 (by decide) (by decide)) ?_
 refine giC X2 hx (D 7) ?_
 refine goZ X2 hx hlk (t := .boolean) Bd.returns (by simp) (D 8) (z' := (0 : Int32)) rfl ?_ (by decide) (by decide)
 show Q40_11 Z o0 h0 n0 (some (.int (0 : Int32))) T2.heap _
 exact ⟨rfl, N0, e2⟩
def t_59 : List (Nat × Instr × Nat) := [(0, .aload_n 0, 1), (1, .getfield 17, 3), (4, .istore_n 1, 1), (5, .aload_n 0, 1), (6, .getfield 7, 3), (9, .iload_n 1, 1), (10, .invokeinterface 24 2, 5), (15, .astore_n 2, 1), (16, .aload_n 0, 1), (17, .iload_n 1, 1), (18, .iconst 1, 1), (19, .iadd, 1), (20, .putfield 17, 3), (23, .aload_n 2, 1), (24, .areturn, 1)]
theorem q_59 : ∀ i : Fin 15, decode c_59 (gt t_59 i.1).1 = .ok ((gt t_59 i.1).2.1, (gt t_59 i.1).2.2) := by decide +kernel
theorem pd_20 : parseMethodDescriptor "(I)Ljava/lang/Object;" = some ⟨[.int], some (.object "java/lang/Object")⟩ := by decide +kernel
def Q59 (Z : State) (o0 : Addr) (w_l : Addr) (w_0 : Addr) (h0 : Heap) (n0 : Nat) (v : Option Value) (h : Heap) (L : List Loc) : Prop := v = some (.ref w_0) ∧ Fr n0 L ∧ Keep h0 h ([o0] : List Addr) ∧ Fld Z h o0 s_6 "cursor" "I" (.int 1) ∧ Fld Z h o0 s_6 "size" "I" (.int 1) ∧ Fld Z h o0 s_6 "list" s_11 (.ref w_l)
set_option maxRecDepth 65536 in
set_option maxHeartbeats 40000000 in
theorem rm59 (o0 : Addr) (w_l : Addr) (w_0 : Addr) (h0 : Heap) (n0 : Nat) (Z0 : n0 ≤ h0.size) (E_o0 : Exa Z h0 o0 s_6) (F_cursor : Fld Z h0 o0 s_6 "cursor" "I" (.int 0)) (F_size : Fld Z h0 o0 s_6 "size" "I" (.int 1)) (F_list : Fld Z h0 o0 s_6 "list" s_11 (.ref w_l)) (E_w_l : Exa Z h0 w_l s_13) (F_e0 : Fld Z h0 w_l s_13 "e0" s_17 (.ref w_0)) (g_o0 : n0 ≤ o0) :
  Mt hw l M_53 (Jvm.Cond.codeWith ({ cls := s_6, name := "next", desc := "()Ljava/lang/Object;" } : Jvm.MethodName) c_59 (3 : Nat) (Option.some (Jvm.ClassFile.FieldType.object s_0)) [((0 : Nat), (24 : Nat), (25 : Nat), (30 : Nat))]) ws R_1_0_0_13 #[(.ref o0)] h0 (Q59 Z o0 w_l w_0 h0 n0) := by
 refine ent s_6 rfl hisWith fun p e s m below meth c s₁ Bd hx hby hml hown hnm hlk hZ X0 e0 => ?_
 have D := fun i => hb hby (q_59 i)
 have u := hU hw
 have N0 := Fr.nil n0
 rw [ef_63_3r]
 show gO (tF s₁ m 0 #[.val (.ref o0), .unset, .unset] [])
 refine gaN X0 hx (D 0) rfl rfl ?_
 obtain ⟨T1, X1, e1, st1⟩ := getF X0 hx hZ hown (host := "") (Or.inl (hW hw 320 rfl)) Via.refl e0 F_cursor (g := (mkF m 1 #[.val (.ref o0), .unset, .unset] [(.ref o0)])) rfl rfl (D 1)
 refine gob st1 ?_
 refine go (XS.istoreN X1.here hx rfl (D 2) rfl (l' := #[.val (.ref o0), .val (.int 0), .unset]) rfl) ?_
 refine gaN X1 hx (D 3) rfl rfl ?_
 obtain ⟨T2, X2, e2, st2⟩ := getF X1 hx hZ hown (host := "") (Or.inl (hW hw 316 rfl)) Via.refl e1 F_list (g := (mkF m 6 #[.val (.ref o0), .val (.int 0), .unset] [(.ref o0)])) rfl rfl (D 4)
 refine gob st2 ?_
 refine giN X2 hx (D 5) rfl ?_
 obtain ⟨cq3, kq3, q3a, q3b, q3c⟩ := isOf hZ e2 E_w_l
 obtain ⟨_, T3, Lc3, X3, hQ3, st3⟩ := clB X2 (X2.interfaceBack hx (xi := M_54) (y := M_48) hown (mvT hZ (u 481)) (mvT hZ (u 355)) (mvT hZ (u 356)) (mvT hZ (u 357)) (mvT hZ (u 358)) (mvT hZ (u 359)) (mvT hZ (u 360)) (mvT hZ (u 352)) (by decide) (backOf (W := 0) (rm44_0 l Z a0 hw [] w_l (0 : Int32) w_0 h0 n0 Z0 (by decide) F_e0) hZ (u 361) (u 147) (by decide) (by decide)) q3a q3b q3c (g := (mkF m 10 #[.val (.ref o0), .val (.int 0), .unset] [(.int 0), (.ref w_l)])) rfl (by rw [hml]; rfl) (Steps.refl _) (argsL := [(.int 0)]) (rest := []) (lenOf pd_20 rfl) rfl (wk rfl rfl) (D 6) (fun _ _ => ⟨rfl, e2, lD rfl, lD rfl⟩)) (k := 0) (n := 0) rfl rfl
 obtain ⟨rfl, Nq3, e3⟩ := hQ3
 have N3 := Fr.app N0 Nq3
 refine gob (fun _ k => st3.trans k) ?_
 refine go (XS.astoreN X3.here hx rfl (D 7) rfl rfl (l' := #[.val (.ref o0), .val (.int 0), .val (.ref w_0)]) rfl) ?_
 refine gaN X3 hx (D 8) rfl rfl ?_
 show gO (tF T3 m 17 #[.val (.ref o0), .val (.int 0), .val (.ref w_0)] [(.ref o0)])
 refine giN X3 hx (D 9) rfl ?_
 refine giC X3 hx (D 10) ?_
 refine go (XS.iadd X3.here hx rfl (D 11) rfl) ?_
 obtain ⟨T4, h4, X4, e4, W4, st4⟩ := putF X3 hx hZ hown (host := "") (Or.inl (hW hw 320 rfl)) Via.refl e3 F_cursor E_o0 (Or.inl (hW hw 321 rfl)) (u 300) (ty := .int) (by decide) rfl rfl (g := (mkF m 20 #[.val (.ref o0), .val (.int 0), .val (.ref w_0)] [(.int 1), (.ref o0)])) rfl rfl (D 12)
 refine gob st4 ?_
 have N4 := Fr.snoc X4 N3 g_o0
 have K6 : Keep h0 h4 ([o0] : List Addr) := (Keep.refl h0 ([o0] : List Addr)).wr W4 (Or.inl (List.mem_of_getElem? (i := 0) rfl))
 have Fw4 := F_cursor.same W4
 show gO (tF T4 m 23 #[.val (.ref o0), .val (.int 0), .val (.ref w_0)] [])
 refine gaN X4 hx (D 13) rfl rfl ?_
 refine goA X4 hx hlk Bd.returns rfl rfl (D 14) ?_ (by decide) (by decide)
 show Q59 Z o0 w_l w_0 h0 n0 (some (.ref w_0)) T4.heap _
 have c7 := (fo F_size W4 (Or.inr (hW hw 319 rfl)) (Or.inl (hW hw 321 rfl)) .int .int)
 have c8 := (fo F_list W4 (Or.inr (hW hw 317 rfl)) (Or.inl (hW hw 321 rfl)) (.object s_2) .int)
 rw [e4]
 exact ⟨rfl, N4, K6, Fw4, c7, c8⟩
def t_47 : List (Nat × Instr × Nat) := [(0, .aload_n 0, 1), (1, .getfield 16, 3), (4, .ifnull 9, 3), (13, .aload_n 1, 1), (14, .invokestatic 95, 3), (17, .pop, 1), (18, .aload_n 1, 1), (19, .checkcast 99, 3), (22, .astore_n 2, 1), (23, .aload_n 0, 1), (24, .getfield 101, 3), (27, .astore_n 3, 1), (28, .aload_n 3, 1), (29, .ifnull 46, 3), (75, .aconst_null, 1), (76, .areturn, 1)]
theorem q_47 : ∀ i : Fin 16, decode c_47 (gt t_47 i.1).1 = .ok ((gt t_47 i.1).2.1, (gt t_47 i.1).2.2) := by decide +kernel
theorem ef_47 (m : MethodId) (x0 : Addr) (x1 : Addr) : entryFrame m #[(.ref x0), (.ref x1)] 5 = mkF m 0 #[.val (.ref x0), .val (.ref x1), .unset, .unset, .unset] [] := by first | (simp [entryFrame, mkF, argsToLocals, Value.category]; done) | rfl
def Q47 (Z : State) (o0 : Addr) (o1 : Addr) (h0 : Heap) (n0 : Nat) (v : Option Value) (h : Heap) (L : List Loc) : Prop := v = some .null ∧ Fr n0 L ∧ h = h0
set_option maxRecDepth 65536 in
set_option maxHeartbeats 40000000 in
theorem rm47 (o0 : Addr) (o1 : Addr) (h0 : Heap) (n0 : Nat) (Z0 : n0 ≤ h0.size) (E_o0 : Exa Z h0 o0 s_14) (F_comparator : Fld Z h0 o0 s_14 s_22 s_23 .null) (F_root : Fld Z h0 o0 s_14 "root" s_24 .null) (E_o1 : Exa Z h0 o1 s_4) :
  Mt hw l M_55 (Jvm.Cond.code M_55 c_47 5 (some (.object s_35))) ws R_1_0_0_12 #[(.ref o0), (.ref o1)] h0 (Q47 Z o0 o1 h0 n0) := by
 refine ent s_14 rfl hisR fun p e s m below meth c s₁ Bd hx hby hml hown hnm hlk hZ X0 e0 => ?_
 have D := fun i => hb hby (q_47 i)
 have u := hU hw
 have N0 := Fr.nil n0
 rw [ef_47]
 show gO (tF s₁ m 0 (la2 o0 o1) [])
 refine gaN X0 hx (D 0) rfl rfl ?_
 obtain ⟨T1, X1, e1, st1⟩ := getF X0 hx hZ hown (host := "") (Or.inl (hW hw 217 rfl)) Via.refl e0 F_comparator (g := (mkF m 1 (la2 o0 o1) [(.ref o0)])) rfl rfl (D 1)
 refine gob st1 ?_
 refine go (XS.ifnullYes X1.here hx rfl (pc0 := 4) (pc' := 13) rfl (D 2) rfl (by decide) (by decide)) ?_
 refine gaN X1 hx (D 3) rfl rfl ?_
 obtain ⟨_, T2, Lc2, X2, hQ2, st2⟩ := clS X1 (Jvm.LawKit.callS X1 hx (y := M_9) hown (mvT hZ (u 386)) (mvT hZ (u 167)) (mvT hZ (u 168)) (mvT hZ (u 169)) (by decide) (backOf (W := 0) (rm27 l Z a0 hw [] o1 h0 n0 Z0 ) hZ (u 169) (u 168) (by decide) (by decide)) (g := (mkF m 14 (la2 o0 o1) [(.ref o1)])) rfl (by rw [hml]; rfl) (argsL := [(.ref o1)]) (rest := []) (lenOf pd_2 rfl) rfl (wk rfl rfl) (D 4) (fun _ _ => ⟨rfl, e1, lD rfl, lD rfl⟩)) (k := 0) (n := 0) rfl rfl
 obtain ⟨rfl, Nq2, e2⟩ := hQ2
 have N2 := Fr.app N0 Nq2
 refine gob st2 ?_
 refine go (XS.pop X2.here hx rfl (D 5) rfl rfl) ?_
 refine gaN X2 hx (D 6) rfl rfl ?_
 obtain ⟨T3, X3, e3, st3⟩ := castY X2 hx hZ hown (u 387) e2 (Ins.of_exa E_o1 (u 388)) (g := (mkF m 19 (la2 o0 o1) [(.ref o1)])) rfl rfl (D 7)
 refine gob st3 ?_
 refine go (XS.astoreN X3.here hx rfl (D 8) rfl rfl (l' := (la3 o0 o1 o1)) rfl) ?_
 show gO (tF T3 m 23 (la3 o0 o1 o1) [])
 refine gaN X3 hx (D 9) rfl rfl ?_
 obtain ⟨T4, X4, e4, st4⟩ := getF X3 hx hZ hown (host := "") (Or.inl (hW hw 389 rfl)) Via.refl e3 F_root (g := (mkF m 24 (la3 o0 o1 o1) [(.ref o0)])) rfl rfl (D 10)
 refine gob st4 ?_
 refine go (XS.astoreN X4.here hx rfl (D 11) rfl rfl (l' := (la4 o0 o1 o1)) rfl) ?_
 refine gaN X4 hx (D 12) rfl rfl ?_
 refine go (XS.ifnullYes X4.here hx rfl (pc0 := 29) (pc' := 75) rfl (D 13) rfl (by decide) (by decide)) ?_
 refine go (XS.aconstNull X4.here hx rfl (D 14)) ?_
 refine goA X4 hx hlk Bd.returns rfl rfl (D 15) ?_ (by decide) (by decide)
 show Q47 Z o0 o1 h0 n0 (some .null) T4.heap _
 exact ⟨rfl, N2, e4⟩
def t_46 : List (Nat × Instr × Nat) := [(0, .aload_n 0, 1), (1, .aload_n 1, 1), (2, .invokevirtual 50, 3), (5, .astore_n 2, 1), (6, .aload_n 2, 1), (7, .ifnonnull 5, 3), (10, .aconst_null, 1), (11, .areturn, 1)]
theorem q_46 : ∀ i : Fin 8, decode c_46 (gt t_46 i.1).1 = .ok ((gt t_46 i.1).2.1, (gt t_46 i.1).2.2) := by decide +kernel
theorem pd_21 : parseMethodDescriptor "(Ljava/lang/Object;)Ljava/util/TreeMap$Entry;" = some ⟨[(.object "java/lang/Object")], some (.object "java/util/TreeMap$Entry")⟩ := by decide +kernel
theorem ef_46 (m : MethodId) (x0 : Addr) (x1 : Addr) : entryFrame m #[(.ref x0), (.ref x1)] 4 = mkF m 0 #[.val (.ref x0), .val (.ref x1), .unset, .unset] [] := by first | (simp [entryFrame, mkF, argsToLocals, Value.category]; done) | rfl
def Q46 (Z : State) (o0 : Addr) (o1 : Addr) (h0 : Heap) (n0 : Nat) (v : Option Value) (h : Heap) (L : List Loc) : Prop := v = some .null ∧ Fr n0 L ∧ h = h0
set_option maxRecDepth 65536 in
set_option maxHeartbeats 40000000 in
theorem rm46 (o0 : Addr) (o1 : Addr) (h0 : Heap) (n0 : Nat) (Z0 : n0 ≤ h0.size) (E_o0 : Exa Z h0 o0 s_14) (F_comparator : Fld Z h0 o0 s_14 s_22 s_23 .null) (F_root : Fld Z h0 o0 s_14 "root" s_24 .null) (E_o1 : Exa Z h0 o1 s_4) :
  Mt hw l M_56 (Jvm.Cond.code M_56 c_46 4 (some (.object s_0))) ws R_2_0_0_28 #[(.ref o0), (.ref o1)] h0 (Q46 Z o0 o1 h0 n0) := by
 refine ent s_14 rfl hisR fun p e s m below meth c s₁ Bd hx hby hml hown hnm hlk hZ X0 e0 => ?_
 have D := fun i => hb hby (q_46 i)
 have u := hU hw
 have N0 := Fr.nil n0
 rw [ef_46]
 show gO (tF s₁ m 0 #[.val (.ref o0), .val (.ref o1), .unset, .unset] [])
 refine gaN X0 hx (D 0) rfl rfl ?_
 refine gaN X0 hx (D 1) rfl rfl ?_
 obtain ⟨cq1, kq1, q1a, q1b, q1c⟩ := isOf hZ e0 E_o0
 obtain ⟨_, T1, Lc1, X1, hQ1, st1⟩ := clB X0 (X0.virtualBack hx (y := M_55) (z := M_55) hown (mvT hZ (u 381)) (mvT hZ (u 382)) (notFace_of_selects (args := #[]) (mvT hZ (u 384))) (mvT hZ (u 384)) (mvT hZ (u 383)) (by decide) (backOf (W := 0) (rm47 l Z a0 hw [] o0 o1 h0 n0 Z0 E_o0 F_comparator F_root E_o1) hZ (u 385) (u 202) (by decide) (by decide)) q1a q1c (g := (mkF m 2 #[.val (.ref o0), .val (.ref o1), .unset, .unset] [(.ref o1), (.ref o0)])) rfl (by rw [hml]; rfl) (Steps.refl _) (argsL := [(.ref o1)]) (rest := []) (lenOf pd_21 rfl) rfl (wk rfl rfl) (D 2) (fun _ _ => ⟨rfl, e0, lD rfl, lD rfl⟩)) (k := 0) (n := 0) rfl rfl
 obtain ⟨rfl, Nq1, e1⟩ := hQ1
 have N1 := Fr.app N0 Nq1
 refine gob (fun _ k => st1.trans k) ?_
 refine go (XS.astoreN X1.here hx rfl (D 3) rfl rfl (l' := #[.val (.ref o0), .val (.ref o1), .val .null, .unset]) rfl) ?_
 refine gaN X1 hx (D 4) rfl rfl ?_
 refine go (XS.ifnonnullNo X1.here hx rfl (D 5) rfl) ?_
 refine go (XS.aconstNull X1.here hx rfl (D 6)) ?_
 refine goA X1 hx hlk Bd.returns rfl rfl (D 7) ?_ (by decide) (by decide)
 show Q46 Z o0 o1 h0 n0 (some .null) T1.heap _
 exact ⟨rfl, N1, e1⟩
def t_48 : List (Nat × Instr × Nat) := [(0, .new 267, 3), (3, .dup, 1), (4, .aload_n 0, 1), (5, .invokespecial 269, 3), (8, .areturn, 1)]
theorem q_48 : ∀ i : Fin 5, decode c_48 (gt t_48 i.1).1 = .ok ((gt t_48 i.1).2.1, (gt t_48 i.1).2.2) := by decide +kernel
theorem pd_22 : parseMethodDescriptor "(Ljava/util/ArrayList;)V" = some ⟨[(.object "java/util/ArrayList")], none⟩ := by decide +kernel
def Q48 (Z : State) (o0 : Addr) (w7 : Int32) (h0 : Heap) (n0 : Nat) (v : Option Value) (h : Heap) (L : List Loc) : Prop := ∃ b1 : Addr, v = some (.ref b1) ∧ Fr n0 L ∧ Keep h0 h ([] : List Addr) ∧ h0.size ≤ b1 ∧ Exa Z h b1 s_19 ∧ Fld Z h b1 s_19 "this$0" s_39 (.ref o0) ∧ Fld Z h b1 s_19 "lastRet" "I" (.int (-1)) ∧ Fld Z h b1 s_19 s_43 "I" (.int w7) ∧ Fld Z h b1 s_19 "cursor" "I" (.int 0)
set_option maxRecDepth 65536 in
set_option maxHeartbeats 40000000 in
theorem rm48 (o0 : Addr) (w7 : Int32) (h0 : Heap) (n0 : Nat) (Z0 : n0 ≤ h0.size) (E_o0 : Exa Z h0 o0 s_1) (F_modCount_o0 : Fld Z h0 o0 s_9 s_12 "I" (.int w7)) :
  Mt hw l M_57 (Jvm.Cond.code M_57 c_48 1 (some (.object s_44))) ws R_2_1_4_26 #[(.ref o0)] h0 (Q48 Z o0 w7 h0 n0) := by
 refine ent s_1 rfl hisR fun p e s m below meth c s₁ Bd hx hby hml hown hnm hlk hZ X0 e0 => ?_
 have D := fun i => hb hby (q_48 i)
 have u := hU hw
 have N0 := Fr.nil n0
 rw [ef_4]
 show gO (tF s₁ m 0 #[.val (.ref o0)] [])
 obtain ⟨T1, h1, X1, e1, E1, A1, D1, -, st1⟩ := newO X0 hx hZ hown (u 397) (u 398) (u 399) e0 (g := (mkF m 0 #[.val (.ref o0)] [])) rfl (D 0) (by decide) (by decide)
 obtain ⟨b1, g1⟩ : ∃ z, z = h0.size := ⟨_, rfl⟩
 rw [← g1] at A1 D1 st1
 have n2 : o0 ≠ b1 := Nat.ne_of_lt (Nat.lt_of_lt_of_le E_o0.lt (Nat.le_of_eq g1.symm))
 have g3 : n0 ≤ b1 := Nat.le_trans Z0 (Nat.le_of_eq g1.symm)
 have sz_b1 : h0.size ≤ b1 := Nat.le_trans (Keep.refl h0 []).1 (Nat.le_of_eq g1.symm)
 have z4 : n0 ≤ h1.size := Nat.le_trans Z0 E1.1
 have K5 : Keep h0 h1 ([] : List Addr) := (Keep.refl h0 ([] : List Addr)).ext E1
 have F1_this_0 : Fld Z h1 b1 s_19 "this$0" s_39 .null := D1 (Or.inr (hW hw 405 rfl)) (ty := (.object s_1)) (by decide)
 have F1_lastRet : Fld Z h1 b1 s_19 "lastRet" "I" (.int (0 : Int32)) := D1 (Or.inl (hW hw 408 rfl)) (ty := .int) (by decide)
 have F1_expectedModCount : Fld Z h1 b1 s_19 s_43 "I" (.int (0 : Int32)) := D1 (Or.inl (hW hw 411 rfl)) (ty := .int) (by decide)
 have F1_cursor : Fld Z h1 b1 s_19 "cursor" "I" (.int (0 : Int32)) := D1 (Or.inl (hW hw 419 rfl)) (ty := .int) (by decide)
 refine gob st1 ?_
 replace X1 := castX X1 (rfl : _ = 1) (rfl : _ = 4)
 show gO (tF T1 m 3 #[.val (.ref o0)] [(.ref b1)])
 refine go (XS.dup X1.here hx rfl (D 1) rfl rfl) ?_
 refine gaN X1 hx (D 2) rfl rfl ?_
 have c8 := (F_modCount_o0.ext E1)
 obtain ⟨_, T6, Lc6, X6, hQ6, st6⟩ := clB X1 (X1.specialBack hx (y := M_19) rfl hown (mvT hZ (u 400)) (mvT hZ (u 401)) (mvT hZ (u 403)) (by decide) (backOf (W := 1) (rm49 l Z a0 hw [] b1 o0 w7 h1 n0 z4 A1 F1_this_0 F1_lastRet F1_expectedModCount F1_cursor n2 g3 c8) hZ (u 403) (u 399) (by decide) (by decide)) (g := (mkF m 5 #[.val (.ref o0)] [(.ref o0), (.ref b1), (.ref b1)])) rfl (by rw [hml]; rfl) (Steps.refl _) (a := b1) (argsL := [(.ref o0)]) (rest := [(.ref b1)]) (lenOf pd_22 rfl) rfl (wk rfl rfl) (D 3) (fun _ _ => ⟨rfl, e1, lD rfl, lD rfl⟩)) (k := 1) (n := 4) rfl rfl
 obtain ⟨rfl, Nq6, K6, F9, F10, F11, F12⟩ := hQ6
 have N6 := Fr.app N0 Nq6
 have K14 : Keep h0 T6.heap ([] : List Addr) := K5.trans K6 (allS (Or.inr sz_b1) all0)
 refine gob (fun _ k => st6.trans k) ?_
 refine goA X6 hx hlk Bd.returns rfl rfl (D 4) ?_ (by decide) (by decide)
 show Q48 Z o0 w7 h0 n0 (some (.ref b1)) T6.heap _
 have c15 := (A1.keep K6)
 exact ⟨b1, rfl, N6, K14, sz_b1, c15, F9, F10, F11, F12⟩
def t_50 : List (Nat × Instr × Nat) := [(0, .aload_n 0, 1), (1, .getfield 25, 3), (4, .aload_n 0, 1), (5, .getfield 1, 3), (8, .getfield 28, 3), (11, .if_icmp .eq 7, 3), (18, .iconst 0, 1), (19, .ireturn, 1)]
theorem q_50 : ∀ i : Fin 8, decode c_50 (gt t_50 i.1).1 = .ok ((gt t_50 i.1).2.1, (gt t_50 i.1).2.2) := by decide +kernel
def Q50 (Z : State) (o0 : Addr) (w_l : Addr) (h0 : Heap) (n0 : Nat) (v : Option Value) (h : Heap) (L : List Loc) : Prop := v = some (.int (0 : Int32)) ∧ Fr n0 L ∧ h = h0
set_option maxRecDepth 65536 in
set_option maxHeartbeats 40000000 in
theorem rm50 (o0 : Addr) (w_l : Addr) (h0 : Heap) (n0 : Nat) (Z0 : n0 ≤ h0.size) (F_cursor : Fld Z h0 o0 s_19 "cursor" "I" (.int 0)) (F_this : Fld Z h0 o0 s_19 "this$0" s_39 (.ref w_l)) (F_lsize : Fld Z h0 w_l s_1 "size" "I" (.int 0)) :
  Mt hw l M_58 (Jvm.Cond.code M_58 c_50 1 (some .boolean)) ws R_0_0_0_0 #[(.ref o0)] h0 (Q50 Z o0 w_l h0 n0) := by
 refine ent s_19 rfl hisR fun p e s m below meth c s₁ Bd hx hby hml hown hnm hlk hZ X0 e0 => ?_
 have D := fun i => hb hby (q_50 i)
 have u := hU hw
 have N0 := Fr.nil n0
 rw [ef_4]
 show gO (tF s₁ m 0 #[.val (.ref o0)] [])
 refine gaN X0 hx (D 0) rfl rfl ?_
 obtain ⟨T1, X1, e1, st1⟩ := getF X0 hx hZ hown (host := "") (Or.inl (hW hw 418 rfl)) Via.refl e0 F_cursor (g := (mkF m 1 #[.val (.ref o0)] [(.ref o0)])) rfl rfl (D 1)
 refine gob st1 ?_
 refine gaN X1 hx (D 2) rfl rfl ?_
 obtain ⟨T2, X2, e2, st2⟩ := getF X1 hx hZ hown (host := "") (Or.inl (hW hw 404 rfl)) Via.refl e1 F_this (g := (mkF m 5 #[.val (.ref o0)] [(.ref o0), (.int 0)])) rfl rfl (D 3)
 refine gob st2 ?_
 obtain ⟨T3, X3, e3, st3⟩ := getF X2 hx hZ hown (Or.inr (hW hw 420 rfl)) Via.refl e2 F_lsize (g := (mkF m 8 #[.val (.ref o0)] [(.ref w_l), (.int 0)])) rfl rfl (D 4)
 refine gob st3 ?_
 refine go (XS.icmpYes X3.here hx rfl (pc0 := 11) (pc' := 18) rfl (D 5) rfl (teq (by decide : (0 : Int32) = (0 : Int32))).1 (by decide) (by decide)) ?_
 refine giC X3 hx (D 6) ?_
 refine goZ X3 hx hlk (t := .boolean) Bd.returns (by simp) (D 7) (z' := (0 : Int32)) rfl ?_ (by decide) (by decide)
 show Q50 Z o0 w_l h0 n0 (some (.int (0 : Int32))) T3.heap _
 exact ⟨rfl, N0, e3⟩
def t_51 : List (Nat × Instr × Nat) := [(0, .aload_n 0, 1), (1, .dup, 1), (2, .getfield 63, 3), (5, .iconst 1, 1), (6, .iadd, 1), (7, .putfield 63, 3), (10, .aload_n 0, 1), (11, .getfield 9, 3), (14, .astore_n 1, 1), (15, .aload_n 0, 1), (16, .getfield 48, 3), (19, .istore_n 2, 1), (20, .aload_n 0, 1), (21, .iconst 0, 1), (22, .dup_x1, 1), (23, .putfield 48, 3), (26, .istore_n 3, 1), (27, .iload_n 3, 1), (28, .iload_n 2, 1), (29, .if_icmp .ge 13, 3), (42, .return_, 1)]
theorem q_51 : ∀ i : Fin 21, decode c_51 (gt t_51 i.1).1 = .ok ((gt t_51 i.1).2.1, (gt t_51 i.1).2.2) := by decide +kernel
theorem ef_51 (m : MethodId) (x0 : Addr) : entryFrame m #[(.ref x0)] 4 = mkF m 0 #[.val (.ref x0), .unset, .unset, .unset] [] := by first | (simp [entryFrame, mkF, argsToLocals, Value.category]; done) | rfl
def Q51 (Z : State) (o0 : Addr) (w1 : Int32) (w6 : Addr) (h0 : Heap) (n0 : Nat) (v : Option Value) (h : Heap) (L : List Loc) : Prop := v = none ∧ Fr n0 L ∧ Keep h0 h ([o0] : List Addr) ∧ Fld Z h o0 s_1 "size" "I" (.int 0) ∧ Fld Z h o0 s_9 s_12 "I" (.int (w1 + (1 : Int32))) ∧ Fld Z h o0 s_1 s_8 s_3 (.ref w6)
set_option maxRecDepth 65536 in
set_option maxHeartbeats 40000000 in
theorem rm51 (o0 : Addr) (w1 : Int32) (w6 : Addr) (h0 : Heap) (n0 : Nat) (Z0 : n0 ≤ h0.size) (E_o0 : Exa Z h0 o0 s_1) (F_size : Fld Z h0 o0 s_1 "size" "I" (.int 0)) (F_modCount_o0 : Fld Z h0 o0 s_9 s_12 "I" (.int w1)) (g_o0 : n0 ≤ o0) (F_elementData_o0 : Fld Z h0 o0 s_1 s_8 s_3 (.ref w6)) :
  Mt hw l M_59 (Jvm.Cond.code M_59 c_51 4 none) ws R_0_0_0_0 #[(.ref o0)] h0 (Q51 Z o0 w1 w6 h0 n0) := by
 refine ent s_1 rfl hisR fun p e s m below meth c s₁ Bd hx hby hml hown hnm hlk hZ X0 e0 => ?_
 have D := fun i => hb hby (q_51 i)
 have u := hU hw
 have N0 := Fr.nil n0
 rw [ef_51]
 show gO (tF s₁ m 0 #[.val (.ref o0), .unset, .unset, .unset] [])
 refine gaN X0 hx (D 0) rfl rfl ?_
 refine go (XS.dup X0.here hx rfl (D 1) rfl rfl) ?_
 obtain ⟨T2, X2, e2, st2⟩ := getF X0 hx hZ hown (host := "") (Or.inl (hW hw 50 rfl)) (Via.of (u 51)) e0 F_modCount_o0 (g := (mkF m 2 #[.val (.ref o0), .unset, .unset, .unset] [(.ref o0), (.ref o0)])) rfl rfl (D 2)
 refine gob st2 ?_
 refine giC X2 hx (D 3) ?_
 refine go (XS.iadd X2.here hx rfl (D 4) rfl) ?_
 obtain ⟨T3, h3, X3, e3, W3, st3⟩ := putF X2 hx hZ hown (host := "") (Or.inl (hW hw 50 rfl)) (Via.of (u 51)) e2 F_modCount_o0 E_o0 (Or.inl (hW hw 28 rfl)) (u 7) (ty := .int) (by decide) rfl rfl (g := (mkF m 7 #[.val (.ref o0), .unset, .unset, .unset] [(.int (w1 + (1 : Int32))), (.ref o0)])) rfl rfl (D 5)
 refine gob st3 ?_
 have N3 := Fr.snoc X3 N0 g_o0
 have K5 : Keep h0 h3 ([o0] : List Addr) := (Keep.refl h0 ([o0] : List Addr)).wr W3 (Or.inl (List.mem_of_getElem? (i := 0) rfl))
 have Fw3 := F_modCount_o0.same W3
 show gO (tF T3 m 10 #[.val (.ref o0), .unset, .unset, .unset] [])
 refine gaN X3 hx (D 6) rfl rfl ?_
 have c7 := (fo F_elementData_o0 W3 (Or.inl (hW hw 31 rfl)) (Or.inl (hW hw 28 rfl)) (.array (.object s_0)) .int)
 obtain ⟨T8, X8, e8, st8⟩ := getF X3 hx hZ hown (host := "") (Or.inl (hW hw 30 rfl)) Via.refl e3 c7 (g := (mkF m 11 #[.val (.ref o0), .unset, .unset, .unset] [(.ref o0)])) rfl rfl (D 7)
 refine gob st8 ?_
 refine go (XS.astoreN X8.here hx rfl (D 8) rfl rfl (l' := #[.val (.ref o0), .val (.ref w6), .unset, .unset]) rfl) ?_
 refine gaN X8 hx (D 9) rfl rfl ?_
 have c9 := (fo F_size W3 (Or.inl (hW hw 53 rfl)) (Or.inl (hW hw 28 rfl)) .int .int)
 obtain ⟨T10, X10, e10, st10⟩ := getF X8 hx hZ hown (host := "") (Or.inl (hW hw 52 rfl)) Via.refl e8 c9 (g := (mkF m 16 #[.val (.ref o0), .val (.ref w6), .unset, .unset] [(.ref o0)])) rfl rfl (D 10)
 refine gob st10 ?_
 refine go (XS.istoreN X10.here hx rfl (D 11) rfl (l' := #[.val (.ref o0), .val (.ref w6), .val (.int 0), .unset]) rfl) ?_
 refine gaN X10 hx (D 12) rfl rfl ?_
 refine giC X10 hx (D 13) ?_
 refine go (XS.dupX1 X10.here hx rfl (D 14) rfl rfl rfl) ?_
 show gO (tF T10 m 23 #[.val (.ref o0), .val (.ref w6), .val (.int 0), .unset] [(.int 0), (.ref o0), (.int 0)])
 have c11 := (E_o0.wr W3)
 obtain ⟨T12, h12, X12, e12, W12, st12⟩ := putF X10 hx hZ hown (host := "") (Or.inl (hW hw 52 rfl)) Via.refl e10 c9 c11 (Or.inl (hW hw 53 rfl)) (u 7) (ty := .int) (by decide) rfl rfl (g := (mkF m 23 #[.val (.ref o0), .val (.ref w6), .val (.int 0), .unset] [(.int 0), (.ref o0), (.int 0)])) rfl rfl (D 15)
 refine gob st12 ?_
 have N12 := Fr.snoc X12 N3 g_o0
 have K14 : Keep h0 h12 ([o0] : List Addr) := K5.wr W12 (Or.inl (List.mem_of_getElem? (i := 0) rfl))
 have Fw12 := c9.same W12
 show gO (tF T12 m 26 #[.val (.ref o0), .val (.ref w6), .val (.int 0), .unset] [(.int 0)])
 refine go (XS.istoreN X12.here hx rfl (D 16) rfl (l' := #[.val (.ref o0), .val (.ref w6), .val (.int 0), .val (.int 0)]) rfl) ?_
 refine giN X12 hx (D 17) rfl ?_
 refine giN X12 hx (D 18) rfl ?_
 refine go (XS.icmpYes X12.here hx rfl (pc0 := 29) (pc' := 42) rfl (D 19) rfl (flt (by decide : ¬ ((0 : Int32) < (0 : Int32)))).2.1 (by decide) (by decide)) ?_
 refine goV X12 hx hlk Bd.returns (D 20) ?_ (by decide) (by decide)
 show Q51 Z o0 w1 w6 h0 n0 (none) T12.heap _
 have c15 := (fo Fw3 W12 (Or.inl (hW hw 28 rfl)) (Or.inl (hW hw 53 rfl)) .int .int)
 have c16 := (fo c7 W12 (Or.inl (hW hw 31 rfl)) (Or.inl (hW hw 53 rfl)) (.array (.object s_0)) .int)
 rw [e12]
 exact ⟨rfl, N12, K14, Fw12, c15, c16⟩
def t_52 : List (Nat × Instr × Nat) := [(0, .iconst 1, 1), (1, .istore_n 2, 1), (2, .iload_n 2, 1), (3, .aload_n 0, 1), (4, .getfield 33, 3), (7, .if_icmp .gt 45, 3), (52, .aload_n 1, 1), (53, .invokevirtual 273, 3), (56, .invokeinterface 108 1, 5), (61, .astore_n 2, 1), (62, .aload_n 2, 1), (63, .invokeinterface 112 1, 5), (68, .ifCond .eq 34, 3), (102, .aload_n 1, 1), (103, .invokevirtual 282, 3), (106, .invokeinterface 108 1, 5), (111, .astore_n 2, 1), (112, .aload_n 2, 1), (113, .invokeinterface 112 1, 5), (118, .ifCond .eq 53, 3), (171, .return_, 1)]
theorem q_52 : ∀ i : Fin 21, decode c_52 (gt t_52 i.1).1 = .ok ((gt t_52 i.1).2.1, (gt t_52 i.1).2.2) := by decide +kernel
theorem pd_23 : parseMethodDescriptor "()Ljava/util/Iterator;" = some ⟨[], some (.object "java/util/Iterator")⟩ := by decide +kernel
def Q52 (Z : State) (o0 : Addr) (o1 : Addr) (w_c : Addr) (f_ : Nat → Addr) (wE : Addr) (wL : Addr) (wD : Addr) (wA : Addr) (kD : ClassId) (kA : ClassId) (h0 : Heap) (n0 : Nat) (v : Option Value) (h : Heap) (L : List Loc) : Prop := ∃ b4 : Addr, ∃ b26 : Addr, v = none ∧ Fr n0 L ∧ Keep h0 h ([] : List Addr) ∧ h0.size ≤ b4 ∧ h0.size ≤ b26 ∧ b4 ≠ b26 ∧ Exa Z h b4 s_6 ∧ Fld Z h b4 s_6 "list" s_11 (.ref wL) ∧ Fld Z h b4 s_6 "size" "I" (.int 0) ∧ Fld Z h b4 s_6 "cursor" "I" (.int 0) ∧ Fld Z h b4 s_6 s_33 "Z" (.int 0) ∧ Exa Z h b26 s_6 ∧ Fld Z h b26 s_6 "list" s_11 (.ref wL) ∧ Fld Z h b26 s_6 "size" "I" (.int 0) ∧ Fld Z h b26 s_6 "cursor" "I" (.int 0) ∧ Fld Z h b26 s_6 s_33 "Z" (.int 0)
set_option maxRecDepth 65536 in
set_option maxHeartbeats 40000000 in
theorem rm52 (o0 : Addr) (o1 : Addr) (w_c : Addr) (f_ : Nat → Addr) (wE : Addr) (wL : Addr) (wD : Addr) (wA : Addr) (kD : ClassId) (kA : ClassId) (h0 : Heap) (n0 : Nat) (Z0 : n0 ≤ h0.size) (IC : Wd Z h0 n0 w_c f_ wE wL wD wA kD kA) (E_o0 : Exa Z h0 o0 s_5) (E_o1 : Exa Z h0 o1 s_10) (F_tokens : Fld Z h0 o0 s_5 "tokens" "I" (.int 0)) (F_pwaiters : Fld Z h0 o1 s_10 "waiters" s_11 (.ref wL)) (F_pqueued : Fld Z h0 o1 s_10 "queued" s_11 (.ref wL)) :
  Mt hw l M_60 (Jvm.Cond.code M_60 c_52 4 none) ws R_3_2_8_39 #[(.ref o0), (.ref o1)] h0 (Q52 Z o0 o1 w_c f_ wE wL wD wA kD kA h0 n0) := by
 refine ent s_5 rfl hisR fun p e s m below meth c s₁ Bd hx hby hml hown hnm hlk hZ X0 e0 => ?_
 have D := fun i => hb hby (q_52 i)
 have u := hU hw
 have N0 := Fr.nil n0
 rw [ef_46]
 show gO (tF s₁ m 0 #[.val (.ref o0), .val (.ref o1), .unset, .unset] [])
 refine giC X0 hx (D 0) ?_
 refine go (XS.istoreN X0.here hx rfl (D 1) rfl (l' := #[.val (.ref o0), .val (.ref o1), .val (.int 1), .unset]) rfl) ?_
 refine giN X0 hx (D 2) rfl ?_
 refine gaN X0 hx (D 3) rfl rfl ?_
 obtain ⟨T1, X1, e1, st1⟩ := getF X0 hx hZ hown (host := "") (Or.inl (hW hw 231 rfl)) Via.refl e0 F_tokens (g := (mkF m 4 #[.val (.ref o0), .val (.ref o1), .val (.int 1), .unset] [(.ref o0), (.int 1)])) rfl rfl (D 4)
 refine gob st1 ?_
 refine go (XS.icmpYes X1.here hx rfl (pc0 := 7) (pc' := 52) rfl (D 5) rfl (tlt (by decide : (0 : Int32) < (1 : Int32))).2.2.1 (by decide) (by decide)) ?_
 refine gaN X1 hx (D 6) rfl rfl ?_
 obtain ⟨cq2, kq2, q2a, q2b, q2c⟩ := isOf hZ e1 E_o1
 obtain ⟨_, T2, Lc2, X2, hQ2, st2⟩ := clB X1 (X1.virtualBack hx (y := M_24) (z := M_24) hown (mvT hZ (u 433)) (mvT hZ (u 434)) (notFace_of_selects (args := #[]) (mvT hZ (u 436))) (mvT hZ (u 436)) (mvT hZ (u 435)) (by decide) (backOf (W := 0) (rm53 l Z a0 hw [] o1 wL h0 n0 Z0 F_pwaiters) hZ (u 437) (u 34) (by decide) (by decide)) q2a q2c (g := (mkF m 53 #[.val (.ref o0), .val (.ref o1), .val (.int 1), .unset] [(.ref o1)])) rfl (by rw [hml]; rfl) (Steps.refl _) (argsL := []) (rest := []) (lenOf pd_8 rfl) rfl (wk rfl rfl) (D 7) (fun _ _ => ⟨rfl, e1, lD rfl, lD rfl⟩)) (k := 0) (n := 0) rfl rfl
 obtain ⟨rfl, Nq2, e2⟩ := hQ2
 have N2 := Fr.app N0 Nq2
 refine gob (fun _ k => st2.trans k) ?_
 obtain ⟨cq3, kq3, q3a, q3b, q3c⟩ := isOf hZ e2 (own_WLe IC)
 obtain ⟨_, T3, Lc3, X3, hQ3, st3⟩ := clB X2 (X2.interfaceBack hx (xi := M_61) (y := M_50) hown (mvT hZ (u 290)) (mvT hZ (u 291)) (mvT hZ (u 292)) (mvT hZ (u 293)) (mvT hZ (u 294)) (mvT hZ (u 295)) (mvT hZ (u 296)) (mvT hZ (u 297)) (by decide) (backOf (W := 0) (rm37_N l Z a0 hw [] wL wA kA (0 : Int32) [] h0 n0 Z0 (own_WLe IC) (own_WLf IC) (own_WAv IC)) hZ (u 298) (u 156) (by decide) (by decide)) q3a q3b q3c (g := (mkF m 56 #[.val (.ref o0), .val (.ref o1), .val (.int 1), .unset] [(.ref wL)])) rfl (by rw [hml]; rfl) (Steps.refl _) (argsL := []) (rest := []) (lenOf pd_23 rfl) rfl (wk rfl rfl) (D 8) (fun _ _ => ⟨rfl, e2, lD rfl, lD rfl⟩)) (k := 1) (n := 4) rfl rfl
 obtain ⟨b4, rfl, Nq3, K3, hz5, F6, F7, F8, F9, F10⟩ := hQ3
 have N3 := Fr.app N2 Nq3
 have sz_b4 : h0.size ≤ b4 := Nat.le_trans (Keep.refl h0 []).1 hz5
 have z18 : n0 ≤ T3.heap.size := Nat.le_trans Z0 K3.1
 have K19 : Keep h0 T3.heap ([] : List Addr) := (Keep.refl h0 ([] : List Addr)).trans K3 all0
 refine gob (fun _ k => st3.trans k) ?_
 show gO (tF T3 m 61 #[.val (.ref o0), .val (.ref o1), .val (.int 1), .unset] [(.ref b4)])
 refine go (XS.astoreN X3.here hx rfl (D 9) rfl rfl (l' := #[.val (.ref o0), .val (.ref o1), .val (.ref b4), .unset]) rfl) ?_
 refine gaN X3 hx (D 10) rfl rfl ?_
 obtain ⟨cq20, kq20, q20a, q20b, q20c⟩ := isOf hZ (rfl : T3.heap = _) F6
 obtain ⟨_, T20, Lc20, X20, hQ20, st20⟩ := clB X3 (X3.interfaceBack hx (xi := M_62) (y := M_52) hown (mvT hZ (u 324)) (mvT hZ (u 325)) (mvT hZ (u 326)) (mvT hZ (u 327)) (mvT hZ (u 328)) (mvT hZ (u 329)) (mvT hZ (u 330)) (mvT hZ (u 331)) (by decide) (backOf (W := 0) (rm40_00 l Z a0 hw [] b4 T3.heap n0 z18 F9 F8) hZ (u 332) (u 301) (by decide) (by decide)) q20a q20b q20c (g := (mkF m 63 #[.val (.ref o0), .val (.ref o1), .val (.ref b4), .unset] [(.ref b4)])) rfl (by rw [hml]; rfl) (Steps.refl _) (argsL := []) (rest := []) (lenOf pd_7 rfl) rfl (wk rfl rfl) (D 11) (fun _ _ => ⟨rfl, (rfl : T3.heap = _), lD rfl, lD rfl⟩)) (k := 1) (n := 4) rfl rfl
 obtain ⟨rfl, Nq20, e20⟩ := hQ20
 have N20 := Fr.app N3 Nq20
 refine gob (fun _ k => st20.trans k) ?_
 refine go (XS.ifYes X20.here hx rfl (pc0 := 68) (pc' := 102) rfl (D 12) rfl ((if0 _ _).trans (teq (by decide : (0 : Int32) = (0 : Int32))).1) (by decide) (by decide)) ?_
 refine gaN X20 hx (D 13) rfl rfl ?_
 have c22 := (F_pqueued.keep K3 nin0)
 have c23 := (E_o1.keep K3)
 obtain ⟨cq21, kq21, q21a, q21b, q21c⟩ := isOf hZ e20 c23
 obtain ⟨_, T21, Lc21, X21, hQ21, st21⟩ := clB X20 (X20.virtualBack hx (y := M_25) (z := M_25) hown (mvT hZ (u 438)) (mvT hZ (u 439)) (notFace_of_selects (args := #[]) (mvT hZ (u 441))) (mvT hZ (u 441)) (mvT hZ (u 440)) (by decide) (backOf (W := 0) (rm54 l Z a0 hw [] o1 wL T3.heap n0 z18 c22) hZ (u 442) (u 34) (by decide) (by decide)) q21a q21c (g := (mkF m 103 #[.val (.ref o0), .val (.ref o1), .val (.ref b4), .unset] [(.ref o1)])) rfl (by rw [hml]; rfl) (Steps.refl _) (argsL := []) (rest := []) (lenOf pd_8 rfl) rfl (wk rfl rfl) (D 14) (fun _ _ => ⟨rfl, e20, lD rfl, lD rfl⟩)) (k := 1) (n := 4) rfl rfl
 obtain ⟨rfl, Nq21, e21⟩ := hQ21
 have N21 := Fr.app N20 Nq21
 refine gob (fun _ k => st21.trans k) ?_
 have c25 := (IC.keep K3 geN)
 obtain ⟨cq24, kq24, q24a, q24b, q24c⟩ := isOf hZ e21 (own_WLe c25)
 obtain ⟨_, T24, Lc24, X24, hQ24, st24⟩ := clB X21 (X21.interfaceBack hx (xi := M_61) (y := M_50) hown (mvT hZ (u 290)) (mvT hZ (u 291)) (mvT hZ (u 292)) (mvT hZ (u 293)) (mvT hZ (u 294)) (mvT hZ (u 295)) (mvT hZ (u 296)) (mvT hZ (u 297)) (by decide) (backOf (W := 0) (rm37_N l Z a0 hw [] wL wA kA (0 : Int32) [] T3.heap n0 z18 (own_WLe c25) (own_WLf c25) (own_WAv c25)) hZ (u 298) (u 156) (by decide) (by decide)) q24a q24b q24c (g := (mkF m 106 #[.val (.ref o0), .val (.ref o1), .val (.ref b4), .unset] [(.ref wL)])) rfl (by rw [hml]; rfl) (Steps.refl _) (argsL := []) (rest := []) (lenOf pd_23 rfl) rfl (wk rfl rfl) (D 15) (fun _ _ => ⟨rfl, e21, lD rfl, lD rfl⟩)) (k := 2) (n := 8) rfl rfl
 obtain ⟨b26, rfl, Nq24, K24, hz27, F28, F29, F30, F31, F32⟩ := hQ24
 have N24 := Fr.app N21 Nq24
 have n40 : b4 ≠ b26 := nlt F6.lt hz27
 have sz_b26 : h0.size ≤ b26 := Nat.le_trans K19.1 hz27
 have z42 : n0 ≤ T24.heap.size := Nat.le_trans z18 K24.1
 have K43 : Keep h0 T24.heap ([] : List Addr) := K19.trans K24 all0
 refine gob (fun _ k => st24.trans k) ?_
 refine go (XS.astoreN X24.here hx rfl (D 16) rfl rfl (l' := #[.val (.ref o0), .val (.ref o1), .val (.ref b26), .unset]) rfl) ?_
 refine gaN X24 hx (D 17) rfl rfl ?_
 show gO (tF T24 m 113 #[.val (.ref o0), .val (.ref o1), .val (.ref b26), .unset] [(.ref b26)])
 obtain ⟨cq44, kq44, q44a, q44b, q44c⟩ := isOf hZ (rfl : T24.heap = _) F28
 obtain ⟨_, T44, Lc44, X44, hQ44, st44⟩ := clB X24 (X24.interfaceBack hx (xi := M_62) (y := M_52) hown (mvT hZ (u 324)) (mvT hZ (u 325)) (mvT hZ (u 326)) (mvT hZ (u 327)) (mvT hZ (u 328)) (mvT hZ (u 329)) (mvT hZ (u 330)) (mvT hZ (u 331)) (by decide) (backOf (W := 0) (rm40_00 l Z a0 hw [] b26 T24.heap n0 z42 F31 F30) hZ (u 332) (u 301) (by decide) (by decide)) q44a q44b q44c (g := (mkF m 113 #[.val (.ref o0), .val (.ref o1), .val (.ref b26), .unset] [(.ref b26)])) rfl (by rw [hml]; rfl) (Steps.refl _) (argsL := []) (rest := []) (lenOf pd_7 rfl) rfl (wk rfl rfl) (D 18) (fun _ _ => ⟨rfl, (rfl : T24.heap = _), lD rfl, lD rfl⟩)) (k := 2) (n := 8) rfl rfl
 obtain ⟨rfl, Nq44, e44⟩ := hQ44
 have N44 := Fr.app N24 Nq44
 refine gob (fun _ k => st44.trans k) ?_
 refine go (XS.ifYes X44.here hx rfl (pc0 := 118) (pc' := 171) rfl (D 19) rfl ((if0 _ _).trans (teq (by decide : (0 : Int32) = (0 : Int32))).1) (by decide) (by decide)) ?_
 refine goV X44 hx hlk Bd.returns (D 20) ?_ (by decide) (by decide)
 show Q52 Z o0 o1 w_c f_ wE wL wD wA kD kA h0 n0 (none) T44.heap _
 have c45 := (F6.keep K24)
 have c46 := (F7.keep K24 nin0)
 have c47 := (F8.keep K24 nin0)
 have c48 := (F9.keep K24 nin0)
 have c49 := (F10.keep K24 nin0)
 rw [e44]
 exact ⟨b4, b26, rfl, N44, K43, sz_b4, sz_b26, n40, c45, c46, c47, c48, c49, F28, F29, F30, F31, F32⟩
def t_31 : List (Nat × Instr × Nat) := [(0, .iconst 0, 1), (1, .istore_n 3, 1), (2, .aload_n 0, 1), (3, .arraylength, 1), (4, .istore 4, 2), (6, .iload_n 3, 1), (7, .iload 4, 2), (9, .if_icmp .ge 13, 3), (12, .aload_n 0, 1), (13, .iload_n 3, 1), (14, .lload_n 1, 1), (15, .lastore, 1), (16, .iinc 3 1, 3), (19, .goto (-13), 3), (22, .return_, 1)]
theorem q_31 : ∀ i : Fin 15, decode c_31 (gt t_31 i.1).1 = .ok ((gt t_31 i.1).2.1, (gt t_31 i.1).2.2) := by decide +kernel
theorem ef_31 (m : MethodId) (x0 : Addr) (x1 : Int64) : entryFrame m #[(.ref x0), (.long x1)] 5 = mkF m 0 #[.val (.ref x0), .val (.long x1), .second, .unset, .unset] [] := by first | (simp [entryFrame, mkF, argsToLocals, Value.category]; done) | rfl
def Q31 (Z : State) (o0 : Addr) (q1 : Int64) (n_ : Int32) (f0 : Nat → Int64) (h0 : Heap) (n0 : Nat) (v : Option Value) (h : Heap) (L : List Loc) : Prop := v = none ∧ Fr n0 L ∧ Keep h0 h ([o0] : List Addr) ∧ Lo Z h o0 n_ (fun _ => q1)
set_option maxRecDepth 65536 in
set_option maxHeartbeats 40000000 in
theorem rm31 (o0 : Addr) (q1 : Int64) (n_ : Int32) (f0 : Nat → Int64) (h0 : Heap) (n0 : Nat) (Z0 : n0 ≤ h0.size) (L_ : Lo Z h0 o0 n_ f0) (h0n : 0 ≤ n_.toInt) (g_o0 : n0 ≤ o0) :
  Mt hw l M_63 (Jvm.Cond.code M_63 c_31 5 none) ws R_0_0_0_0 #[(.ref o0), (.long q1)] h0 (Q31 Z o0 q1 n_ f0 h0 n0) := by
 refine ent s_30 rfl hisR fun p e s m below meth c s₁ Bd hx hby hml hown hnm hlk hZ X0 e0 => ?_
 have D := fun i => hb hby (q_31 i)
 have u := hU hw
 have N0 := Fr.nil n0
 rw [ef_31]
 show gO (tF s₁ m 0 (la5 o0 q1) [])
 refine giC X0 hx (D 0) ?_
 refine go (XS.istoreN X0.here hx rfl (D 1) rfl (l' := (la6 o0 q1 0)) rfl) ?_
 refine gaN X0 hx (D 2) rfl rfl ?_
 obtain ⟨cl1, Ar1, S1, Nn1, H1⟩ := id L_
 refine gob (X0.arraylength hx (by rw [e0]; exact Ar1.1) (State.isArrayOf_alike hZ.alike Ar1.2.1) (g := (mkF m 3 (la6 o0 q1 0) [(.ref o0)])) rfl rfl (D 3)) ?_
 rw [len_of S1 Nn1]
 show gO (tF s₁ m 4 (la6 o0 q1 0) [(.int n_)])
 refine go (XS.istore X0.here hx rfl (D 4) rfl (l' := (la7 o0 q1 0 n_)) rfl) ?_
 have loop : ∀ (k : Nat) (T2 : State) (lj3 : List Loc) (hq4 : Heap) (i_ : Int32) (fl : Nat → Int64), Stand p l e R_0_0_0_0 s m #[(.ref o0), (.long q1)] below meth c T2 lj3 0 0 → T2.heap = hq4 → Fr n0 lj3 → n0 ≤ hq4.size → Keep h0 hq4 ([o0] : List Addr) → Lo Z hq4 o0 n_ fl → (i_.toInt + k = n_.toInt) → (0 ≤ i_.toInt) → (∀ j : Nat, (j : Int) < i_.toInt → fl j = q1) → Go p e below s (Q31 Z o0 q1 n_ f0 h0 n0) 0 0 (T2.setTop (mkF m 6 (la7 o0 q1 i_ n_) [])) := by
  intro k
  induction k with
  | zero =>
   intro T2 lj3 hq4 i_ fl X5 e6 N7 z8 K9 J10 hj11 hj12 hj13
   show gO (tF T2 m 6 (la7 o0 q1 i_ n_) [])
   refine giN X5 hx (D 5) rfl ?_
   refine giM X5 hx (D 6) rfl ?_
   have hlt9 : ¬ (i_ < n_) := by rw [Int32.lt_iff_toInt_lt]; omega
   refine go (XS.icmpYes X5.here hx rfl (pc0 := 9) (pc' := 22) rfl (D 7) rfl (flt (hlt9 : ¬ (i_ < n_))).2.1 (by decide) (by decide)) ?_
   refine goV X5 hx hlk Bd.returns (D 14) ?_ (by decide) (by decide)
   show Q31 Z o0 q1 n_ f0 h0 n0 (none) T2.heap _
   rw [e6]
   exact ⟨rfl, N7, K9, J10.congr (fun j hj => hj13 j (by have := own_nat (j := n_) h0n; omega))⟩
  | succ k ih =>
   intro T2 lj3 hq4 i_ fl X5 e6 N7 z8 K9 J10 hj11 hj12 hj13
   have hlt : i_.toInt < n_.toInt := by omega
   have hI := own_idx hj12 hlt
   have hs := own_inc hlt
   show gO (tF T2 m 6 (la7 o0 q1 i_ n_) [])
   refine giN X5 hx (D 5) rfl ?_
   refine giM X5 hx (D 6) rfl ?_
   refine go (XS.icmpNo X5.here hx rfl (D 7) rfl (tlt (hI.1.2 : i_ < n_)).2.1) ?_
   refine gaN X5 hx (D 8) rfl rfl ?_
   refine giN X5 hx (D 9) rfl ?_
   refine go (XS.lloadN X5.here hx rfl (D 10) rfl) ?_
   obtain ⟨cl14, Ar14, S14, Nn14, H14⟩ := id J10
   obtain ⟨T15, h15, X15, e15, W15, st15⟩ := stJ X5 hx hZ e6 Ar14 (j := i_) (inb_of S14 hI.1) (g := (mkF m 15 (la7 o0 q1 i_ n_) [(.long q1), (.int i_), (.ref o0)])) rfl rfl (D 11)
   refine gob st15 ?_
   have z16 : n0 ≤ h15.size := Nat.le_trans z8 (Keep.of_wr W15).1
   have N15 := Fr.snoc X15 N7 g_o0
   have K17 : Keep h0 h15 ([o0] : List Addr) := K9.wr W15 (Or.inl (List.mem_of_getElem? (i := 0) rfl))
   have V15 := own_loset Ar14 S14 Nn14 H14 W15 hI.2
   show gO (tF T15 m 16 (la7 o0 q1 i_ n_) [])
   refine go (XS.iinc X15.here hx rfl (D 12) rfl (l' := (la7 o0 q1 (i_ + (1 : Int32)) n_)) rfl) ?_
   refine go (XS.goto X15.here hx rfl (pc0 := 19) (pc' := 6) rfl (D 13) (by decide) (by decide)) ?_
   exact ih _ _ _ ((i_ + (1 : Int32))) ((fun i => if i = (i_).toNatClampNeg then q1 else fl i)) (X15.mono (by decide : 0 ≤ 0) (by decide : 0 ≤ 0)) e15 N15 z16 K17 V15  (by rw [hs]; omega) (by rw [hs]; omega) (own_nxt hj12 hj13 hs rfl)
 exact loop n_.toInt.toNat _ _ _ ((0 : Int32)) (f0) (X0.mono (by decide : 0 ≤ 0) (by decide : 0 ≤ 0)) e0 N0 Z0 (Keep.refl h0 ([o0] : List Addr)) L_  (by simp; exact (Int.toNat_of_nonneg h0n)) (by decide) (fun j hj => absurd hj (by simp))
def t_34 : List (Nat × Instr × Nat) := [(0, .iconst 0, 1), (1, .istore_n 2, 1), (2, .aload_n 0, 1), (3, .arraylength, 1), (4, .istore_n 3, 1), (5, .iload_n 2, 1), (6, .iload_n 3, 1), (7, .if_icmp .ge 13, 3), (10, .aload_n 0, 1), (11, .iload_n 2, 1), (12, .aload_n 1, 1), (13, .aastore, 1), (14, .iinc 2 1, 3), (17, .goto (-12), 3), (20, .return_, 1)]
theorem q_34 : ∀ i : Fin 15, decode c_34 (gt t_34 i.1).1 = .ok ((gt t_34 i.1).2.1, (gt t_34 i.1).2.2) := by decide +kernel
def Q34 (Z : State) (o0 : Addr) (o1 : Addr) (k_a : ClassId) (h0 : Heap) (n0 : Nat) (v : Option Value) (h : Heap) (L : List Loc) : Prop := v = none ∧ Fr n0 L ∧ Keep h0 h ([o0] : List Addr) ∧ Arv Z h o0 k_a (.object s_15) (1 : Int32) [(.ref o1)] .null
set_option maxRecDepth 65536 in
set_option maxHeartbeats 40000000 in
theorem rm34 (o0 : Addr) (o1 : Addr) (k_a : ClassId) (h0 : Heap) (n0 : Nat) (Z0 : n0 ≤ h0.size) (V_a : Arv Z h0 o0 k_a (.object s_15) (1 : Int32) [.null] .null) (O_a : Ovr Z k_a s_15) (E_o1 : Exa Z h0 o1 s_15) (g_o0 : n0 ≤ o0) :
  Mt hw l M_64 (Jvm.Cond.code M_64 c_34 4 none) ws R_0_0_0_0 #[(.ref o0), (.ref o1)] h0 (Q34 Z o0 o1 k_a h0 n0) := by
 refine ent s_30 rfl hisR fun p e s m below meth c s₁ Bd hx hby hml hown hnm hlk hZ X0 e0 => ?_
 have D := fun i => hb hby (q_34 i)
 have u := hU hw
 have N0 := Fr.nil n0
 rw [ef_46]
 show gO (tF s₁ m 0 #[.val (.ref o0), .val (.ref o1), .unset, .unset] [])
 refine giC X0 hx (D 0) ?_
 refine go (XS.istoreN X0.here hx rfl (D 1) rfl (l' := #[.val (.ref o0), .val (.ref o1), .val (.int 0), .unset]) rfl) ?_
 refine gaN X0 hx (D 2) rfl rfl ?_
 obtain ⟨cl1, Ar1, aq1, S1, N1, H1, G1⟩ := id V_a
 refine gob (X0.arraylength hx (by rw [e0]; exact Ar1.1) (State.isArrayOf_alike hZ.alike Ar1.2.1) (g := (mkF m 3 #[.val (.ref o0), .val (.ref o1), .val (.int 0), .unset] [(.ref o0)])) rfl rfl (D 3)) ?_
 rw [len_of S1 N1]
 show gO (tF s₁ m 4 #[.val (.ref o0), .val (.ref o1), .val (.int 0), .unset] [(.int 1)])
 refine go (XS.istoreN X0.here hx rfl (D 4) rfl (l' := #[.val (.ref o0), .val (.ref o1), .val (.int 0), .val (.int 1)]) rfl) ?_
 refine giN X0 hx (D 5) rfl ?_
 refine giN X0 hx (D 6) rfl ?_
 refine go (XS.icmpNo X0.here hx rfl (D 7) rfl (tlt (by decide : (0 : Int32) < (1 : Int32))).2.1) ?_
 refine gaN X0 hx (D 8) rfl rfl ?_
 refine giN X0 hx (D 9) rfl ?_
 refine gaN X0 hx (D 10) rfl rfl ?_
 obtain ⟨cl2, Ar2, aq2, S2, N2, H2, G2⟩ := id V_a
 have hin2 : ¬ ((0 : Int32) < 0 ∨ cl2.slots.size ≤ ((0 : Int32)).toNatClampNeg) := inb_of S2 ⟨by decide, by decide⟩
 obtain ⟨T3, h3, X3, e3, W3, st3⟩ := stR X0 hx hZ e0 Ar2 (j := (0 : Int32)) hin2 rfl (Sto.ofV Ar2 aq2 O_a (Ins.self E_o1)) (g := (mkF m 13 #[.val (.ref o0), .val (.ref o1), .val (.int 0), .val (.int 1)] [(.ref o1), (.int 0), (.ref o0)])) rfl rfl (D 11)
 refine gob st3 ?_
 have N3 := Fr.snoc X3 N0 g_o0
 have K5 : Keep h0 h3 ([o0] : List Addr) := (Keep.refl h0 ([o0] : List Addr)).wr W3 (Or.inl (List.mem_of_getElem? (i := 0) rfl))
 have V3 : Arv Z h3 o0 k_a (.object s_15) (1 : Int32) [(.ref o1)] .null := Arv.set Ar2 aq2 S2 N2 H2 G2 rfl W3 0 rfl (Nat.le_of_ble_eq_true rfl)
 show gO (tF T3 m 14 #[.val (.ref o0), .val (.ref o1), .val (.int 0), .val (.int 1)] [])
 refine go (XS.iinc X3.here hx rfl (D 12) rfl (l' := #[.val (.ref o0), .val (.ref o1), .val (.int 1), .val (.int 1)]) rfl) ?_
 refine go (XS.goto X3.here hx rfl (pc0 := 17) (pc' := 5) rfl (D 13) (by decide) (by decide)) ?_
 refine giN X3 hx (D 5) rfl ?_
 refine giN X3 hx (D 6) rfl ?_
 refine go (XS.icmpYes X3.here hx rfl (pc0 := 7) (pc' := 20) rfl (D 7) rfl (flt (by decide : ¬ ((1 : Int32) < (1 : Int32)))).2.1 (by decide) (by decide)) ?_
 refine goV X3 hx hlk Bd.returns (D 14) ?_ (by decide) (by decide)
 show Q34 Z o0 o1 k_a h0 n0 (none) T3.heap _
 rw [e3]
 exact ⟨rfl, N3, K5, V3⟩
def t_28 : List (Nat × Instr × Nat) := [(0, .aload_n 0, 1), (1, .invokespecial 1, 3), (4, .aload_n 0, 1), (5, .new 7, 3), (8, .dup, 1), (9, .invokespecial 9, 3), (12, .putfield 10, 3), (15, .aload_n 0, 1), (16, .new 7, 3), (19, .dup, 1), (20, .invokespecial 9, 3), (23, .putfield 16, 3), (26, .aload_n 0, 1), (27, .new 19, 3), (30, .dup, 1), (31, .invokespecial 21, 3), (34, .putfield 22, 3), (37, .aload_n 0, 1), (38, .new 19, 3), (41, .dup, 1), (42, .invokespecial 21, 3), (45, .putfield 26, 3), (48, .aload_n 0, 1), (49, .iload_n 1, 1), (50, .putfield 29, 3), (53, .aload_n 0, 1), (54, .iload_n 2, 1), (55, .putfield 33, 3), (58, .aload_n 0, 1), (59, .iload_n 3, 1), (60, .putfield 36, 3), (63, .aload_n 0, 1), (64, .aload 4, 2), (66, .invokevirtual 39, 3), (69, .checkcast 40, 3), (72, .putfield 45, 3), (75, .aload_n 0, 1), (76, .iload_n 1, 1), (77, .iconst 1, 1), (78, .iadd, 1), (79, .newarray .long, 2), (81, .putfield 48, 3), (84, .aload_n 0, 1), (85, .getfield 48, 3), (88, .ldc2_w 52, 3), (91, .invokestatic 54, 3), (94, .aload_n 0, 1), (95, .iload_n 2, 1), (96, .iconst 1, 1), (97, .iadd, 1), (98, .anewarray 60, 3), (101, .putfield 62, 3), (104, .aload_n 0, 1), (105, .getfield 62, 3), (108, .invokestatic 66, 3), (111, .invokestatic 70, 3), (114, .return_, 1)]
theorem q_28 : ∀ i : Fin 57, decode c_28 (gt t_28 i.1).1 = .ok ((gt t_28 i.1).2.1, (gt t_28 i.1).2.2) := by decide +kernel
theorem pd_24 : parseMethodDescriptor "([JJ)V" = some ⟨[(.array .long), .long], none⟩ := by decide +kernel
theorem pd_25 : parseMethodDescriptor "()Lcom/example/hot_potato/hotpotato/Message$Probe$Sighting;" = some ⟨[], some (.object "com/example/hot_potato/hotpotato/Message$Probe$Sighting")⟩ := by decide +kernel
theorem pd_26 : parseMethodDescriptor "([Ljava/lang/Object;Ljava/lang/Object;)V" = some ⟨[(.array (.object "java/lang/Object")), (.object "java/lang/Object")], none⟩ := by decide +kernel
theorem ef_28 (m : MethodId) (x0 : Addr) (x1 : Int32) (x3 : Int32) (x4 : Addr) : entryFrame m #[(.ref x0), (.int x1), (.int 0), (.int x3), (.ref x4)] 5 = mkF m 0 #[.val (.ref x0), .val (.int x1), .val (.int 0), .val (.int x3), .val (.ref x4)] [] := by first | (simp [entryFrame, mkF, argsToLocals, Value.category]; done) | rfl
def Q28 (Z : State) (o0 : Addr) (p1 : Int32) (p3 : Int32) (o4 : Addr) (w_c : Addr) (f_ : Nat → Addr) (wE : Addr) (wL : Addr) (wD : Addr) (wA : Addr) (kD : ClassId) (kA : ClassId) (hS : Heap) (k_a : ClassId) (x_0 : Int32) (x_1 : Int32) (x_2 : Int32) (x_3 : Int32) (x_4 : Int32) (h0 : Heap) (n0 : Nat) (v : Option Value) (h : Heap) (L : List Loc) : Prop := v = none ∧ Fr n0 L ∧ Cen Z hS h o0 p1 p3 0 0 (gl [x_0, x_1, x_2, x_3, x_4]) (fun _ => -1)
set_option maxRecDepth 65536 in
set_option maxHeartbeats 40000000 in
theorem rm28 (o0 : Addr) (p1 : Int32) (p3 : Int32) (o4 : Addr) (w_c : Addr) (f_ : Nat → Addr) (wE : Addr) (wL : Addr) (wD : Addr) (wA : Addr) (kD : ClassId) (kA : ClassId) (hS : Heap) (k_a : ClassId) (x_0 : Int32) (x_1 : Int32) (x_2 : Int32) (x_3 : Int32) (x_4 : Int32) (h0 : Heap) (n0 : Nat) (Z0 : n0 ≤ h0.size) (IC : Wd Z h0 n0 w_c f_ wE wL wD wA kD kA) (xS : Ext hS h0) (gS : hS.size ≤ o0) (nS : n0 ≤ hS.size) (hn : 1 ≤ p1.toInt ∧ p1.toInt ≤ 4) (E_o0 : Exa Z h0 o0 s_5) (F_waiters_o0 : Fld Z h0 o0 s_5 "waiters" s_25 .null) (F_queued_o0 : Fld Z h0 o0 s_5 "queued" s_25 .null) (F_suspecting_o0 : Fld Z h0 o0 s_5 "suspecting" s_11 .null) (F_learnedMidRound_o0 : Fld Z h0 o0 s_5 s_36 s_11 .null) (F_nodes_o0 : Fld Z h0 o0 s_5 "nodes" "I" (.int 0)) (F_tokens_o0 : Fld Z h0 o0 s_5 "tokens" "I" (.int 0)) (F_self_o0 : Fld Z h0 o0 s_5 "self" "I" (.int 0)) (F_crashed_o0 : Fld Z h0 o0 s_5 "crashed" "[Z" .null) (F_visitedAt_o0 : Fld Z h0 o0 s_5 "visitedAt" "[J" .null) (F_latest_o0 : Fld Z h0 o0 s_5 "latest" s_46 .null) (F_onItsWay_o0 : Fld Z h0 o0 s_5 "onItsWay" "Z" (.int 0)) (F_visits_o0 : Fld Z h0 o0 s_5 "visits" "J" (.long 0)) (F_upToDateFrom_o0 : Fld Z h0 o0 s_5 s_37 "J" (.long 0)) (V_a : Arv Z h0 o4 k_a .boolean (5 : Int32) [(.int x_0), (.int x_1), (.int x_2), (.int x_3), (.int x_4)] (.int 0)) (E_o4 : Exa Z h0 o4 "[Z") (n04 : o0 ≠ o4) :
  Mt hw l M_65 (Jvm.Cond.code M_65 c_28 5 none) ws R_4_8_39_54 #[(.ref o0), (.int p1), (.int 0), (.int p3), (.ref o4)] h0 (Q28 Z o0 p1 p3 o4 w_c f_ wE wL wD wA kD kA hS k_a x_0 x_1 x_2 x_3 x_4 h0 n0) := by
 refine ent s_5 rfl hisR fun p e s m below meth c s₁ Bd hx hby hml hown hnm hlk hZ X0 e0 => ?_
 have D := fun i => hb hby (q_28 i)
 have u := hU hw
 have N0 := Fr.nil n0
 rw [ef_28]
 show gO (tF s₁ m 0 (la8 o0 p1 0 p3 o4) [])
 refine gaN X0 hx (D 0) rfl rfl ?_
 obtain ⟨T1, X1, e1, st1⟩ := initO X0 hx hZ hown (u 199) (u 25) (u 26) e0 (g := (mkF m 1 (la8 o0 p1 0 p3 o4) [(.ref o0)])) rfl (by rw [hml]; rfl) rfl (D 1) (by decide) (W := 0) (wk rfl rfl) (by decide)
 refine gob st1 ?_
 refine gaN X1 hx (D 2) rfl rfl ?_
 obtain ⟨T2, h2, X2, e2, E2, A2, D2, -, st2⟩ := newO X1 hx hZ hown (u 200) (u 201) (u 202) e1 (g := (mkF m 5 (la8 o0 p1 0 p3 o4) [(.ref o0)])) rfl (D 3) (by decide) (by decide)
 obtain ⟨b2, g2⟩ : ∃ z, z = h0.size := ⟨_, rfl⟩
 rw [← g2] at A2 D2 st2
 have n7 : o0 ≠ b2 := Nat.ne_of_lt (Nat.lt_of_lt_of_le E_o0.lt (Nat.le_of_eq g2.symm))
 have n8 : o4 ≠ b2 := Nat.ne_of_lt (Nat.lt_of_lt_of_le V_a.lt (Nat.le_of_eq g2.symm))
 have g9 : n0 ≤ b2 := Nat.le_trans Z0 (Nat.le_of_eq g2.symm)
 have gs10 : hS.size ≤ b2 := Nat.le_trans xS.1 (Nat.le_of_eq g2.symm)
 have z11 : n0 ≤ h2.size := Nat.le_trans Z0 E2.1
 have F2_size : Fld Z h2 b2 s_14 "size" "I" (.int (0 : Int32)) := D2 (Or.inl (hW hw 214 rfl)) (ty := .int) (by decide)
 have F2_modCount : Fld Z h2 b2 s_14 s_12 "I" (.int (0 : Int32)) := D2 (Or.inl (hW hw 216 rfl)) (ty := .int) (by decide)
 have F2_comparator : Fld Z h2 b2 s_14 s_22 s_23 .null := D2 (Or.inr (hW hw 218 rfl)) (ty := (.object s_32)) (by decide)
 have F2_root : Fld Z h2 b2 s_14 "root" s_24 .null := D2 (Or.inl (hW hw 390 rfl)) (ty := (.object s_35)) (by decide)
 refine gob st2 ?_
 replace X2 := castX X2 (rfl : _ = 1) (rfl : _ = 9)
 show gO (tF T2 m 8 (la8 o0 p1 0 p3 o4) [(.ref b2), (.ref o0)])
 refine go (XS.dup X2.here hx rfl (D 4) rfl rfl) ?_
 obtain ⟨_, T12, Lc12, X12, hQ12, st12⟩ := clB X2 (X2.specialBack hx (y := M_11) rfl hown (mvT hZ (u 203)) (mvT hZ (u 204)) (mvT hZ (u 205)) (by decide) (backOf (W := 2) (rm29 l Z a0 hw [] b2 h2 n0 z11 A2 F2_size F2_modCount F2_comparator F2_root g9) hZ (u 205) (u 202) (by decide) (by decide)) (g := (mkF m 9 (la8 o0 p1 0 p3 o4) [(.ref b2), (.ref b2), (.ref o0)])) rfl (by rw [hml]; rfl) (Steps.refl _) (a := b2) (argsL := []) (rest := [(.ref b2), (.ref o0)]) (lenOf pd_0 rfl) rfl (wk rfl rfl) (D 5) (fun _ _ => ⟨rfl, e2, lD rfl, lD rfl⟩)) (k := 1) (n := 9) rfl rfl
 obtain ⟨rfl, Nq12, K12, F13, F14, F15, F16⟩ := hQ12
 have N12 := Fr.app N0 Nq12
 have z17 : n0 ≤ T12.heap.size := Nat.le_trans z11 K12.1
 refine gob (fun _ k => st12.trans k) ?_
 have c18 := ((F_waiters_o0.ext E2).keep K12 (ninS n7 nin0))
 have c19 := ((E_o0.ext E2).keep K12)
 obtain ⟨T20, h20, X20, e20, W20, st20⟩ := putF X12 hx hZ hown (host := "") (Or.inl (hW hw 219 rfl)) Via.refl (rfl : T12.heap = _) c18 c19 (Or.inr ⟨(u 220), rfl, hnm⟩) (u 194) (ty := (.object s_7)) (by decide) rfl rfl (g := (mkF m 12 (la8 o0 p1 0 p3 o4) [(.ref b2), (.ref o0)])) rfl rfl (D 6)
 refine gob st20 ?_
 have z21 : n0 ≤ h20.size := Nat.le_trans z17 (Keep.of_wr W20).1
 have N20 := Fr.snoc X20 N12 (Nat.le_trans nS gS)
 have Fw20 := c18.same W20
 show gO (tF T20 m 15 (la8 o0 p1 0 p3 o4) [])
 refine gaN X20 hx (D 7) rfl rfl ?_
 obtain ⟨T22, h22, X22, e22, E22, A22, D22, -, st22⟩ := newO X20 hx hZ hown (u 200) (u 201) (u 202) e20 (g := (mkF m 16 (la8 o0 p1 0 p3 o4) [(.ref o0)])) rfl (D 8) (by decide) (by decide)
 obtain ⟨b22, g22⟩ : ∃ z, z = h20.size := ⟨_, rfl⟩
 rw [← g22] at A22 D22 st22
 have c23 := (((IC.ext E2).keep K12 (geS g9 geN)).wr W20 (Nat.le_trans nS gS))
 have c28 := (c19.wr W20)
 have n29 : o0 ≠ b22 := Nat.ne_of_lt (Nat.lt_of_lt_of_le c28.lt (Nat.le_of_eq g22.symm))
 have c30 := (((V_a.ext E2).keep K12 (ninS n8 nin0)).other W20 (Ne.symm n04))
 have n31 : o4 ≠ b22 := Nat.ne_of_lt (Nat.lt_of_lt_of_le c30.lt (Nat.le_of_eq g22.symm))
 have c32 := ((A2.keep K12).wr W20)
 have n33 : b2 ≠ b22 := Nat.ne_of_lt (Nat.lt_of_lt_of_le c32.lt (Nat.le_of_eq g22.symm))
 have g34 : n0 ≤ b22 := Nat.le_trans z21 (Nat.le_of_eq g22.symm)
 have xs35 := (own_extW (own_extK (own_extE xS E2) K12 (allS gs10 all0)) W20 gS)
 have gs36 : hS.size ≤ b22 := Nat.le_trans xs35.1 (Nat.le_of_eq g22.symm)
 have z37 : n0 ≤ h22.size := Nat.le_trans z21 E22.1
 have F22_size : Fld Z h22 b22 s_14 "size" "I" (.int (0 : Int32)) := D22 (Or.inl (hW hw 214 rfl)) (ty := .int) (by decide)
 have F22_modCount : Fld Z h22 b22 s_14 s_12 "I" (.int (0 : Int32)) := D22 (Or.inl (hW hw 216 rfl)) (ty := .int) (by decide)
 have F22_comparator : Fld Z h22 b22 s_14 s_22 s_23 .null := D22 (Or.inr (hW hw 218 rfl)) (ty := (.object s_32)) (by decide)
 have F22_root : Fld Z h22 b22 s_14 "root" s_24 .null := D22 (Or.inl (hW hw 390 rfl)) (ty := (.object s_35)) (by decide)
 refine gob st22 ?_
 replace X22 := castX X22 (rfl : _ = 2) (rfl : _ = 18)
 show gO (tF T22 m 19 (la8 o0 p1 0 p3 o4) [(.ref b22), (.ref o0)])
 refine go (XS.dup X22.here hx rfl (D 9) rfl rfl) ?_
 obtain ⟨_, T38, Lc38, X38, hQ38, st38⟩ := clB X22 (X22.specialBack hx (y := M_11) rfl hown (mvT hZ (u 203)) (mvT hZ (u 204)) (mvT hZ (u 205)) (by decide) (backOf (W := 2) (rm29 l Z a0 hw [] b22 h22 n0 z37 A22 F22_size F22_modCount F22_comparator F22_root g34) hZ (u 205) (u 202) (by decide) (by decide)) (g := (mkF m 20 (la8 o0 p1 0 p3 o4) [(.ref b22), (.ref b22), (.ref o0)])) rfl (by rw [hml]; rfl) (Steps.refl _) (a := b22) (argsL := []) (rest := [(.ref b22), (.ref o0)]) (lenOf pd_0 rfl) rfl (wk rfl rfl) (D 10) (fun _ _ => ⟨rfl, e22, lD rfl, lD rfl⟩)) (k := 2) (n := 18) rfl rfl
 obtain ⟨rfl, Nq38, K38, F39, F40, F41, F42⟩ := hQ38
 have N38 := Fr.app N20 Nq38
 have z43 : n0 ≤ T38.heap.size := Nat.le_trans z37 K38.1
 refine gob (fun _ k => st38.trans k) ?_
 have c44 := (((fo ((F_queued_o0.ext E2).keep K12 (ninS n7 nin0)) W20 (Or.inr (hW hw 222 rfl)) (Or.inr (hW hw 220 rfl)) (.object s_7) (.object s_7)).ext E22).keep K38 (ninS n29 nin0))
 have c45 := ((c28.ext E22).keep K38)
 obtain ⟨T46, h46, X46, e46, W46, st46⟩ := putF X38 hx hZ hown (host := "") (Or.inl (hW hw 221 rfl)) Via.refl (rfl : T38.heap = _) c44 c45 (Or.inr ⟨(u 222), rfl, hnm⟩) (u 194) (ty := (.object s_7)) (by decide) rfl rfl (g := (mkF m 23 (la8 o0 p1 0 p3 o4) [(.ref b22), (.ref o0)])) rfl rfl (D 11)
 refine gob st46 ?_
 have z47 : n0 ≤ h46.size := Nat.le_trans z43 (Keep.of_wr W46).1
 have N46 := Fr.snoc X46 N38 (Nat.le_trans nS gS)
 have Fw46 := c44.same W46
 show gO (tF T46 m 26 (la8 o0 p1 0 p3 o4) [])
 refine gaN X46 hx (D 12) rfl rfl ?_
 obtain ⟨T48, h48, X48, e48, E48, A48, D48, -, st48⟩ := newO X46 hx hZ hown (u 223) (u 7) (u 8) e46 (g := (mkF m 27 (la8 o0 p1 0 p3 o4) [(.ref o0)])) rfl (D 13) (by decide) (by decide)
 obtain ⟨b48, g48⟩ : ∃ z, z = h46.size := ⟨_, rfl⟩
 rw [← g48] at A48 D48 st48
 have c49 := (((c23.ext E22).keep K38 (geS g34 geN)).wr W46 (Nat.le_trans nS gS))
 have c54 := (c45.wr W46)
 have n55 : o0 ≠ b48 := Nat.ne_of_lt (Nat.lt_of_lt_of_le c54.lt (Nat.le_of_eq g48.symm))
 have c56 := (((c30.ext E22).keep K38 (ninS n31 nin0)).other W46 (Ne.symm n04))
 have n57 : o4 ≠ b48 := Nat.ne_of_lt (Nat.lt_of_lt_of_le c56.lt (Nat.le_of_eq g48.symm))
 have c58 := (((c32.ext E22).keep K38).wr W46)
 have n59 : b2 ≠ b48 := Nat.ne_of_lt (Nat.lt_of_lt_of_le c58.lt (Nat.le_of_eq g48.symm))
 have c60 := ((A22.keep K38).wr W46)
 have n61 : b22 ≠ b48 := Nat.ne_of_lt (Nat.lt_of_lt_of_le c60.lt (Nat.le_of_eq g48.symm))
 have g62 : n0 ≤ b48 := Nat.le_trans z47 (Nat.le_of_eq g48.symm)
 have xs63 := (own_extW (own_extK (own_extE xs35 E22) K38 (allS gs36 all0)) W46 gS)
 have gs64 : hS.size ≤ b48 := Nat.le_trans xs63.1 (Nat.le_of_eq g48.symm)
 have z65 : n0 ≤ h48.size := Nat.le_trans z47 E48.1
 have F48_modCount : Fld Z h48 b48 s_9 s_12 "I" (.int (0 : Int32)) := D48 (Or.inl (hW hw 28 rfl)) (ty := .int) (by decide)
 have F48_elementData : Fld Z h48 b48 s_1 s_8 s_3 .null := D48 (Or.inl (hW hw 31 rfl)) (ty := (.array (.object s_0))) (by decide)
 have F48_size : Fld Z h48 b48 s_1 "size" "I" (.int (0 : Int32)) := D48 (Or.inl (hW hw 53 rfl)) (ty := .int) (by decide)
 refine gob st48 ?_
 replace X48 := castX X48 (rfl : _ = 3) (rfl : _ = 21)
 show gO (tF T48 m 30 (la8 o0 p1 0 p3 o4) [(.ref b48), (.ref o0)])
 refine go (XS.dup X48.here hx rfl (D 14) rfl rfl) ?_
 have c67 := (c49.ext E48)
 obtain ⟨_, T66, Lc66, X66, hQ66, st66⟩ := clB X48 (X48.specialBack hx (y := M_3) rfl hown (mvT hZ (u 224)) (mvT hZ (u 10)) (mvT hZ (u 11)) (by decide) (backOf (W := 2) (rm2 l Z a0 hw [] b48 wD h48 n0 z65 A48 F48_modCount F48_elementData F48_size g62 (own_WD c67)) hZ (u 11) (u 8) (by decide) (by decide)) (g := (mkF m 31 (la8 o0 p1 0 p3 o4) [(.ref b48), (.ref b48), (.ref o0)])) rfl (by rw [hml]; rfl) (Steps.refl _) (a := b48) (argsL := []) (rest := [(.ref b48), (.ref o0)]) (lenOf pd_0 rfl) rfl (wk rfl rfl) (D 15) (fun _ _ => ⟨rfl, e48, lD rfl, lD rfl⟩)) (k := 3) (n := 21) rfl rfl
 obtain ⟨rfl, Nq66, K66, F68, F69, F70⟩ := hQ66
 have N66 := Fr.app N46 Nq66
 have z71 : n0 ≤ T66.heap.size := Nat.le_trans z65 K66.1
 refine gob (fun _ k => st66.trans k) ?_
 have c72 := (((fo (((fo ((F_suspecting_o0.ext E2).keep K12 (ninS n7 nin0)) W20 (Or.inr (hW hw 226 rfl)) (Or.inr (hW hw 220 rfl)) (.object s_2) (.object s_7)).ext E22).keep K38 (ninS n29 nin0)) W46 (Or.inr (hW hw 226 rfl)) (Or.inr (hW hw 222 rfl)) (.object s_2) (.object s_7)).ext E48).keep K66 (ninS n55 nin0))
 have c73 := ((c54.ext E48).keep K66)
 obtain ⟨T74, h74, X74, e74, W74, st74⟩ := putF X66 hx hZ hown (host := "") (Or.inl (hW hw 225 rfl)) Via.refl (rfl : T66.heap = _) c72 c73 (Or.inr ⟨(u 226), rfl, hnm⟩) (u 194) (ty := (.object s_2)) (by decide) rfl rfl (g := (mkF m 34 (la8 o0 p1 0 p3 o4) [(.ref b48), (.ref o0)])) rfl rfl (D 16)
 refine gob st74 ?_
 have z75 : n0 ≤ h74.size := Nat.le_trans z71 (Keep.of_wr W74).1
 have N74 := Fr.snoc X74 N66 (Nat.le_trans nS gS)
 show gO (tF T74 m 37 (la8 o0 p1 0 p3 o4) [])
 refine gaN X74 hx (D 17) rfl rfl ?_
 obtain ⟨T76, h76, X76, e76, E76, A76, D76, -, st76⟩ := newO X74 hx hZ hown (u 223) (u 7) (u 8) e74 (g := (mkF m 38 (la8 o0 p1 0 p3 o4) [(.ref o0)])) rfl (D 18) (by decide) (by decide)
 obtain ⟨b76, g76⟩ : ∃ z, z = h74.size := ⟨_, rfl⟩
 rw [← g76] at A76 D76 st76
 have c77 := ((c67.keep K66 (geS g62 geN)).wr W74 (Nat.le_trans nS gS))
 have c82 := (c73.wr W74)
 have n83 : o0 ≠ b76 := Nat.ne_of_lt (Nat.lt_of_lt_of_le c82.lt (Nat.le_of_eq g76.symm))
 have c84 := (((c56.ext E48).keep K66 (ninS n57 nin0)).other W74 (Ne.symm n04))
 have n85 : o4 ≠ b76 := Nat.ne_of_lt (Nat.lt_of_lt_of_le c84.lt (Nat.le_of_eq g76.symm))
 have c86 := (((c58.ext E48).keep K66).wr W74)
 have n87 : b2 ≠ b76 := Nat.ne_of_lt (Nat.lt_of_lt_of_le c86.lt (Nat.le_of_eq g76.symm))
 have c88 := (((c60.ext E48).keep K66).wr W74)
 have n89 : b22 ≠ b76 := Nat.ne_of_lt (Nat.lt_of_lt_of_le c88.lt (Nat.le_of_eq g76.symm))
 have g92 : n0 ≤ b76 := Nat.le_trans z75 (Nat.le_of_eq g76.symm)
 have xs93 := (own_extW (own_extK (own_extE xs63 E48) K66 (allS gs64 all0)) W74 gS)
 have gs94 : hS.size ≤ b76 := Nat.le_trans xs93.1 (Nat.le_of_eq g76.symm)
 have z95 : n0 ≤ h76.size := Nat.le_trans z75 E76.1
 have F76_modCount : Fld Z h76 b76 s_9 s_12 "I" (.int (0 : Int32)) := D76 (Or.inl (hW hw 28 rfl)) (ty := .int) (by decide)
 have F76_elementData : Fld Z h76 b76 s_1 s_8 s_3 .null := D76 (Or.inl (hW hw 31 rfl)) (ty := (.array (.object s_0))) (by decide)
 have F76_size : Fld Z h76 b76 s_1 "size" "I" (.int (0 : Int32)) := D76 (Or.inl (hW hw 53 rfl)) (ty := .int) (by decide)
 refine gob st76 ?_
 replace X76 := castX X76 (rfl : _ = 4) (rfl : _ = 24)
 show gO (tF T76 m 41 (la8 o0 p1 0 p3 o4) [(.ref b76), (.ref o0)])
 refine go (XS.dup X76.here hx rfl (D 19) rfl rfl) ?_
 have c97 := (c77.ext E76)
 obtain ⟨_, T96, Lc96, X96, hQ96, st96⟩ := clB X76 (X76.specialBack hx (y := M_3) rfl hown (mvT hZ (u 224)) (mvT hZ (u 10)) (mvT hZ (u 11)) (by decide) (backOf (W := 2) (rm2 l Z a0 hw [] b76 wD h76 n0 z95 A76 F76_modCount F76_elementData F76_size g92 (own_WD c97)) hZ (u 11) (u 8) (by decide) (by decide)) (g := (mkF m 42 (la8 o0 p1 0 p3 o4) [(.ref b76), (.ref b76), (.ref o0)])) rfl (by rw [hml]; rfl) (Steps.refl _) (a := b76) (argsL := []) (rest := [(.ref b76), (.ref o0)]) (lenOf pd_0 rfl) rfl (wk rfl rfl) (D 20) (fun _ _ => ⟨rfl, e76, lD rfl, lD rfl⟩)) (k := 4) (n := 24) rfl rfl
 obtain ⟨rfl, Nq96, K96, F98, F99, F100⟩ := hQ96
 have N96 := Fr.app N74 Nq96
 have z101 : n0 ≤ T96.heap.size := Nat.le_trans z95 K96.1
 refine gob (fun _ k => st96.trans k) ?_
 have c102 := (((fo (((fo (((fo ((F_learnedMidRound_o0.ext E2).keep K12 (ninS n7 nin0)) W20 (Or.inr (hW hw 228 rfl)) (Or.inr (hW hw 220 rfl)) (.object s_2) (.object s_7)).ext E22).keep K38 (ninS n29 nin0)) W46 (Or.inr (hW hw 228 rfl)) (Or.inr (hW hw 222 rfl)) (.object s_2) (.object s_7)).ext E48).keep K66 (ninS n55 nin0)) W74 (Or.inr (hW hw 228 rfl)) (Or.inr (hW hw 226 rfl)) (.object s_2) (.object s_2)).ext E76).keep K96 (ninS n83 nin0))
 have c103 := ((c82.ext E76).keep K96)
 obtain ⟨T104, h104, X104, e104, W104, st104⟩ := putF X96 hx hZ hown (host := "") (Or.inl (hW hw 227 rfl)) Via.refl (rfl : T96.heap = _) c102 c103 (Or.inr ⟨(u 228), rfl, hnm⟩) (u 194) (ty := (.object s_2)) (by decide) rfl rfl (g := (mkF m 45 (la8 o0 p1 0 p3 o4) [(.ref b76), (.ref o0)])) rfl rfl (D 21)
 refine gob st104 ?_
 have z105 : n0 ≤ h104.size := Nat.le_trans z101 (Keep.of_wr W104).1
 have N104 := Fr.snoc X104 N96 (Nat.le_trans nS gS)
 have Fw104 := c102.same W104
 show gO (tF T104 m 48 (la8 o0 p1 0 p3 o4) [])
 refine gaN X104 hx (D 22) rfl rfl ?_
 refine giN X104 hx (D 23) rfl ?_
 have c106 := (fo (((fo (((fo (((fo ((F_nodes_o0.ext E2).keep K12 (ninS n7 nin0)) W20 (Or.inr (hW hw 230 rfl)) (Or.inr (hW hw 220 rfl)) .int (.object s_7)).ext E22).keep K38 (ninS n29 nin0)) W46 (Or.inr (hW hw 230 rfl)) (Or.inr (hW hw 222 rfl)) .int (.object s_7)).ext E48).keep K66 (ninS n55 nin0)) W74 (Or.inr (hW hw 230 rfl)) (Or.inr (hW hw 226 rfl)) .int (.object s_2)).ext E76).keep K96 (ninS n83 nin0)) W104 (Or.inr (hW hw 230 rfl)) (Or.inr (hW hw 228 rfl)) .int (.object s_2))
 have c107 := (c103.wr W104)
 obtain ⟨T108, h108, X108, e108, W108, st108⟩ := putF X104 hx hZ hown (host := "") (Or.inl (hW hw 229 rfl)) Via.refl e104 c106 c107 (Or.inr ⟨(u 230), rfl, hnm⟩) (u 194) (ty := .int) (by decide) rfl rfl (g := (mkF m 50 (la8 o0 p1 0 p3 o4) [(.int p1), (.ref o0)])) rfl rfl (D 24)
 refine gob st108 ?_
 have z109 : n0 ≤ h108.size := Nat.le_trans z105 (Keep.of_wr W108).1
 have N108 := Fr.snoc X108 N104 (Nat.le_trans nS gS)
 have Fw108 := c106.same W108
 show gO (tF T108 m 53 (la8 o0 p1 0 p3 o4) [])
 refine gaN X108 hx (D 25) rfl rfl ?_
 refine giN X108 hx (D 26) rfl ?_
 have c110 := (fo (fo (((fo (((fo (((fo ((F_tokens_o0.ext E2).keep K12 (ninS n7 nin0)) W20 (Or.inr (hW hw 232 rfl)) (Or.inr (hW hw 220 rfl)) .int (.object s_7)).ext E22).keep K38 (ninS n29 nin0)) W46 (Or.inr (hW hw 232 rfl)) (Or.inr (hW hw 222 rfl)) .int (.object s_7)).ext E48).keep K66 (ninS n55 nin0)) W74 (Or.inr (hW hw 232 rfl)) (Or.inr (hW hw 226 rfl)) .int (.object s_2)).ext E76).keep K96 (ninS n83 nin0)) W104 (Or.inr (hW hw 232 rfl)) (Or.inr (hW hw 228 rfl)) .int (.object s_2)) W108 (Or.inr (hW hw 232 rfl)) (Or.inr (hW hw 230 rfl)) .int .int)
 have c111 := (c107.wr W108)
 obtain ⟨T112, h112, X112, e112, W112, st112⟩ := putF X108 hx hZ hown (host := "") (Or.inl (hW hw 231 rfl)) Via.refl e108 c110 c111 (Or.inr ⟨(u 232), rfl, hnm⟩) (u 194) (ty := .int) (by decide) rfl rfl (g := (mkF m 55 (la8 o0 p1 0 p3 o4) [(.int 0), (.ref o0)])) rfl rfl (D 27)
 refine gob st112 ?_
 have z113 : n0 ≤ h112.size := Nat.le_trans z109 (Keep.of_wr W112).1
 have N112 := Fr.snoc X112 N108 (Nat.le_trans nS gS)
 have Fw112 := c110.same W112
 show gO (tF T112 m 58 (la8 o0 p1 0 p3 o4) [])
 refine gaN X112 hx (D 28) rfl rfl ?_
 refine giN X112 hx (D 29) rfl ?_
 have c114 := (fo (fo (fo (((fo (((fo (((fo ((F_self_o0.ext E2).keep K12 (ninS n7 nin0)) W20 (Or.inr (hW hw 234 rfl)) (Or.inr (hW hw 220 rfl)) .int (.object s_7)).ext E22).keep K38 (ninS n29 nin0)) W46 (Or.inr (hW hw 234 rfl)) (Or.inr (hW hw 222 rfl)) .int (.object s_7)).ext E48).keep K66 (ninS n55 nin0)) W74 (Or.inr (hW hw 234 rfl)) (Or.inr (hW hw 226 rfl)) .int (.object s_2)).ext E76).keep K96 (ninS n83 nin0)) W104 (Or.inr (hW hw 234 rfl)) (Or.inr (hW hw 228 rfl)) .int (.object s_2)) W108 (Or.inr (hW hw 234 rfl)) (Or.inr (hW hw 230 rfl)) .int .int) W112 (Or.inr (hW hw 234 rfl)) (Or.inr (hW hw 232 rfl)) .int .int)
 have c115 := (c111.wr W112)
 obtain ⟨T116, h116, X116, e116, W116, st116⟩ := putF X112 hx hZ hown (host := "") (Or.inl (hW hw 233 rfl)) Via.refl e112 c114 c115 (Or.inr ⟨(u 234), rfl, hnm⟩) (u 194) (ty := .int) (by decide) rfl rfl (g := (mkF m 60 (la8 o0 p1 0 p3 o4) [(.int p3), (.ref o0)])) rfl rfl (D 30)
 refine gob st116 ?_
 have z117 : n0 ≤ h116.size := Nat.le_trans z113 (Keep.of_wr W116).1
 have N116 := Fr.snoc X116 N112 (Nat.le_trans nS gS)
 have Fw116 := c114.same W116
 show gO (tF T116 m 63 (la8 o0 p1 0 p3 o4) [])
 refine gaN X116 hx (D 31) rfl rfl ?_
 refine gaM X116 hx (D 32) rfl rfl ?_
 have c119 := ((((((c84.ext E76).keep K96 (ninS n85 nin0)).other W104 (Ne.symm n04)).other W108 (Ne.symm n04)).other W112 (Ne.symm n04)).other W116 (Ne.symm n04))
 have c120 := (((((((((((((((E_o4.ext E2).keep K12).wr W20).ext E22).keep K38).wr W46).ext E48).keep K66).wr W74).ext E76).keep K96).wr W104).wr W108).wr W112).wr W116)
 obtain ⟨T118, h118, X118, e118, E118, A118, B118, st118⟩ := cloneH X116 hx hZ hown (u 235) (u 236) (u 240) (u 238) (u 239) (u 241) e116 (Arv.arh c119) c120 (g := (mkF m 66 (la8 o0 p1 0 p3 o4) [(.ref o4), (.ref o0)])) rfl (by rw [hml]; rfl) rfl (D 33) (by decide) (W := 1) (cap := 5) (wk rfl rfl) (by decide) (by decide) (by decide) (by decide)
 obtain ⟨b118, g118⟩ : ∃ z, z = h116.size := ⟨_, rfl⟩
 rw [← g118] at A118 B118 st118
 have c126 := (c115.wr W116)
 have n127 : o0 ≠ b118 := Nat.ne_of_lt (Nat.lt_of_lt_of_le c126.lt (Nat.le_of_eq g118.symm))
 have c129 := ((((((c86.ext E76).keep K96).wr W104).wr W108).wr W112).wr W116)
 have n130 : b2 ≠ b118 := Nat.ne_of_lt (Nat.lt_of_lt_of_le c129.lt (Nat.le_of_eq g118.symm))
 have c131 := ((((((c88.ext E76).keep K96).wr W104).wr W108).wr W112).wr W116)
 have n132 : b22 ≠ b118 := Nat.ne_of_lt (Nat.lt_of_lt_of_le c131.lt (Nat.le_of_eq g118.symm))
 have c135 := (((((A76.keep K96).wr W104).wr W108).wr W112).wr W116)
 have n136 : b76 ≠ b118 := Nat.ne_of_lt (Nat.lt_of_lt_of_le c135.lt (Nat.le_of_eq g118.symm))
 have xs138 := (own_extW (own_extW (own_extW (own_extW (own_extK (own_extE xs93 E76) K96 (allS gs94 all0)) W104 gS) W108 gS) W112 gS) W116 gS)
 have gs139 : hS.size ≤ b118 := Nat.le_trans xs138.1 (Nat.le_of_eq g118.symm)
 have z140 : n0 ≤ h118.size := Nat.le_trans z117 E118.1
 have V118 : Arv Z h118 b118 k_a .boolean (5 : Int32) [(.int x_0), (.int x_1), (.int x_2), (.int x_3), (.int x_4)] (.int 0) := A118
 refine gob st118 ?_
 replace X118 := castX X118 (rfl : _ = 5) (rfl : _ = 29)
 show gO (tF T118 m 69 (la8 o0 p1 0 p3 o4) [(.ref b118), (.ref o0)])
 obtain ⟨T141, X141, e141, st141⟩ := castY X118 hx hZ hown (u 242) e118 (Ins.self B118) (g := (mkF m 69 (la8 o0 p1 0 p3 o4) [(.ref b118), (.ref o0)])) rfl rfl (D 34)
 refine gob st141 ?_
 have c142 := ((fo (fo (fo (fo (((fo (((fo (((fo ((F_crashed_o0.ext E2).keep K12 (ninS n7 nin0)) W20 (Or.inr (hW hw 245 rfl)) (Or.inr (hW hw 220 rfl)) (.array .boolean) (.object s_7)).ext E22).keep K38 (ninS n29 nin0)) W46 (Or.inr (hW hw 245 rfl)) (Or.inr (hW hw 222 rfl)) (.array .boolean) (.object s_7)).ext E48).keep K66 (ninS n55 nin0)) W74 (Or.inr (hW hw 245 rfl)) (Or.inr (hW hw 226 rfl)) (.array .boolean) (.object s_2)).ext E76).keep K96 (ninS n83 nin0)) W104 (Or.inr (hW hw 245 rfl)) (Or.inr (hW hw 228 rfl)) (.array .boolean) (.object s_2)) W108 (Or.inr (hW hw 245 rfl)) (Or.inr (hW hw 230 rfl)) (.array .boolean) .int) W112 (Or.inr (hW hw 245 rfl)) (Or.inr (hW hw 232 rfl)) (.array .boolean) .int) W116 (Or.inr (hW hw 245 rfl)) (Or.inr (hW hw 234 rfl)) (.array .boolean) .int).ext E118)
 have c143 := (c126.ext E118)
 obtain ⟨T144, h144, X144, e144, W144, st144⟩ := putF X141 hx hZ hown (host := "") (Or.inl (hW hw 244 rfl)) Via.refl e141 c142 c143 (Or.inr ⟨(u 245), rfl, hnm⟩) (u 194) (ty := (.array .boolean)) (by decide) rfl rfl (g := (mkF m 72 (la8 o0 p1 0 p3 o4) [(.ref b118), (.ref o0)])) rfl rfl (D 35)
 refine gob st144 ?_
 have z145 : n0 ≤ h144.size := Nat.le_trans z140 (Keep.of_wr W144).1
 have N144 := Fr.snoc X144 N116 (Nat.le_trans nS gS)
 have Fw144 := c142.same W144
 show gO (tF T144 m 75 (la8 o0 p1 0 p3 o4) [])
 refine gaN X144 hx (D 36) rfl rfl ?_
 refine giN X144 hx (D 37) rfl ?_
 refine giC X144 hx (D 38) ?_
 refine go (XS.iadd X144.here hx rfl (D 39) rfl) ?_
 have hi1 := own_inc4 (i := p1) (by omega) hn.2
 have hng : ¬ ((p1 + (1 : Int32)) < 0) := own_nn (by omega)
 have hcp : (p1 + (1 : Int32)).toNatClampNeg ≤ 5 := by have := nat_of hng; omega
 have hnn : 0 ≤ (p1 + (1 : Int32)).toInt := by omega
 obtain ⟨T146, h146, k146, X146, e146, E146, A146, B146, st146⟩ := newPE X144 hx hZ (hW hw 246 rfl) e144 (g := (mkF m 79 (la8 o0 p1 0 p3 o4) [(.int (p1 + (1 : Int32))), (.ref o0)])) rfl (D 40) rfl hng (cap := 5) hcp (by decide) (by decide) (by decide) (ad := "[J") (by decide)
 obtain ⟨b146, g146⟩ : ∃ z, z = h144.size := ⟨_, rfl⟩
 rw [← g146] at A146 B146 st146
 have c152 := (c143.wr W144)
 have n153 : o0 ≠ b146 := Nat.ne_of_lt (Nat.lt_of_lt_of_le c152.lt (Nat.le_of_eq g146.symm))
 have c156 := ((c129.ext E118).wr W144)
 have n157 : b2 ≠ b146 := Nat.ne_of_lt (Nat.lt_of_lt_of_le c156.lt (Nat.le_of_eq g146.symm))
 have c158 := ((c131.ext E118).wr W144)
 have n159 : b22 ≠ b146 := Nat.ne_of_lt (Nat.lt_of_lt_of_le c158.lt (Nat.le_of_eq g146.symm))
 have c162 := ((c135.ext E118).wr W144)
 have n163 : b76 ≠ b146 := Nat.ne_of_lt (Nat.lt_of_lt_of_le c162.lt (Nat.le_of_eq g146.symm))
 have c164 := (V118.other W144 (Ne.symm n127))
 have n165 : b118 ≠ b146 := Nat.ne_of_lt (Nat.lt_of_lt_of_le c164.lt (Nat.le_of_eq g146.symm))
 have g166 : n0 ≤ b146 := Nat.le_trans z145 (Nat.le_of_eq g146.symm)
 have xs167 := (own_extW (own_extE xs138 E118) W144 gS)
 have gs168 : hS.size ≤ b146 := Nat.le_trans xs167.1 (Nat.le_of_eq g146.symm)
 have z169 : n0 ≤ h146.size := Nat.le_trans z145 E146.1
 have V146 : Arv Z h146 b146 k146 .long (p1 + (1 : Int32)) [] (.long 0) := Arv.new A146 hng
 refine gob st146 ?_
 replace X146 := castX X146 (rfl : _ = 6) (rfl : _ = 34)
 show gO (tF T146 m 81 (la8 o0 p1 0 p3 o4) [(.ref b146), (.ref o0)])
 have c170 := ((fo ((fo (fo (fo (fo (((fo (((fo (((fo ((F_visitedAt_o0.ext E2).keep K12 (ninS n7 nin0)) W20 (Or.inr (hW hw 248 rfl)) (Or.inr (hW hw 220 rfl)) (.array .long) (.object s_7)).ext E22).keep K38 (ninS n29 nin0)) W46 (Or.inr (hW hw 248 rfl)) (Or.inr (hW hw 222 rfl)) (.array .long) (.object s_7)).ext E48).keep K66 (ninS n55 nin0)) W74 (Or.inr (hW hw 248 rfl)) (Or.inr (hW hw 226 rfl)) (.array .long) (.object s_2)).ext E76).keep K96 (ninS n83 nin0)) W104 (Or.inr (hW hw 248 rfl)) (Or.inr (hW hw 228 rfl)) (.array .long) (.object s_2)) W108 (Or.inr (hW hw 248 rfl)) (Or.inr (hW hw 230 rfl)) (.array .long) .int) W112 (Or.inr (hW hw 248 rfl)) (Or.inr (hW hw 232 rfl)) (.array .long) .int) W116 (Or.inr (hW hw 248 rfl)) (Or.inr (hW hw 234 rfl)) (.array .long) .int).ext E118) W144 (Or.inr (hW hw 248 rfl)) (Or.inr (hW hw 245 rfl)) (.array .long) (.array .boolean)).ext E146)
 have c171 := (c152.ext E146)
 obtain ⟨T172, h172, X172, e172, W172, st172⟩ := putF X146 hx hZ hown (host := "") (Or.inl (hW hw 247 rfl)) Via.refl e146 c170 c171 (Or.inr ⟨(u 248), rfl, hnm⟩) (u 194) (ty := (.array .long)) (by decide) rfl rfl (g := (mkF m 81 (la8 o0 p1 0 p3 o4) [(.ref b146), (.ref o0)])) rfl rfl (D 41)
 refine gob st172 ?_
 have z173 : n0 ≤ h172.size := Nat.le_trans z169 (Keep.of_wr W172).1
 have N172 := Fr.snoc X172 N144 (Nat.le_trans nS gS)
 have Fw172 := c170.same W172
 show gO (tF T172 m 84 (la8 o0 p1 0 p3 o4) [])
 have c175 := (V146.other W172 (Ne.symm n153))
 have V174 := Lo.of c175
 refine gaN X172 hx (D 42) rfl rfl ?_
 obtain ⟨T176, X176, e176, st176⟩ := getF X172 hx hZ hown (host := "") (Or.inl (hW hw 247 rfl)) Via.refl e172 Fw172 (g := (mkF m 85 (la8 o0 p1 0 p3 o4) [(.ref o0)])) rfl rfl (D 43)
 refine gob st176 ?_
 refine gob (X176.ldc2Long hx hown (mvT hZ (u 249)) (g := (mkF m 88 (la8 o0 p1 0 p3 o4) [(.ref b146)])) rfl (D 44)) ?_
 obtain ⟨_, T177, Lc177, X177, hQ177, st177⟩ := clS X176 (Jvm.LawKit.callS X176 hx (y := M_63) hown (mvT hZ (u 250)) (mvT hZ (u 251)) (mvT hZ (u 122)) (mvT hZ (u 252)) (by decide) (backOf (W := 0) (rm31 l Z a0 hw [] b146 (-1 : Int64) (p1 + (1 : Int32)) (fun _ => 0) h172 n0 z173 V174 hnn g166) hZ (u 252) (u 122) (by decide) (by decide)) (g := (mkF m 91 (la8 o0 p1 0 p3 o4) [(.long (-1)), (.ref b146)])) rfl (by rw [hml]; rfl) (argsL := [(.ref b146), (.long (-1))]) (rest := []) (lenOf pd_24 rfl) rfl (wk rfl rfl) (D 45) (fun _ _ => ⟨rfl, e176, lD rfl, lD rfl⟩)) (k := 6) (n := 34) rfl rfl
 obtain ⟨rfl, Nq177, K177, I177⟩ := hQ177
 have N177 := Fr.app N172 Nq177
 have z178 : n0 ≤ T177.heap.size := Nat.le_trans z173 K177.1
 refine gob st177 ?_
 refine gaN X177 hx (D 46) rfl rfl ?_
 refine giN X177 hx (D 47) rfl ?_
 refine giC X177 hx (D 48) ?_
 refine go (XS.iadd X177.here hx rfl (D 49) rfl) ?_
 obtain ⟨T179, h179, k179, X179, e179, E179, A179, B179, O179, st179⟩ := newRE X177 hx hZ hown (u 253) (u 254) (rfl : T177.heap = _) (g := (mkF m 98 (la8 o0 p1 0 p3 o4) [(.int 1), (.ref o0)])) rfl (D 50) rfl (by decide) (cap := 1) (by decide) (by decide) (by decide) (by decide) (ad := s_46) (by first | rfl | decide +kernel)
 obtain ⟨b179, g179⟩ : ∃ z, z = T177.heap.size := ⟨_, rfl⟩
 rw [← g179] at A179 B179 st179
 have c185 := ((c171.wr W172).keep K177)
 have n186 : o0 ≠ b179 := Nat.ne_of_lt (Nat.lt_of_lt_of_le c185.lt (Nat.le_of_eq g179.symm))
 have c189 := (((c156.ext E146).wr W172).keep K177)
 have n190 : b2 ≠ b179 := Nat.ne_of_lt (Nat.lt_of_lt_of_le c189.lt (Nat.le_of_eq g179.symm))
 have c191 := (((c158.ext E146).wr W172).keep K177)
 have n192 : b22 ≠ b179 := Nat.ne_of_lt (Nat.lt_of_lt_of_le c191.lt (Nat.le_of_eq g179.symm))
 have c195 := (((c162.ext E146).wr W172).keep K177)
 have n196 : b76 ≠ b179 := Nat.ne_of_lt (Nat.lt_of_lt_of_le c195.lt (Nat.le_of_eq g179.symm))
 have c197 := (((c164.ext E146).other W172 (Ne.symm n127)).keep K177 (ninS n165 nin0))
 have n198 : b118 ≠ b179 := Nat.ne_of_lt (Nat.lt_of_lt_of_le c197.lt (Nat.le_of_eq g179.symm))
 have c199 := ((B146.wr W172).keep K177)
 have n200 : b146 ≠ b179 := Nat.ne_of_lt (Nat.lt_of_lt_of_le c199.lt (Nat.le_of_eq g179.symm))
 have g201 : n0 ≤ b179 := Nat.le_trans z178 (Nat.le_of_eq g179.symm)
 have xs202 := (own_extK (own_extW (own_extE xs167 E146) W172 gS) K177 (allS gs168 all0))
 have gs203 : hS.size ≤ b179 := Nat.le_trans xs202.1 (Nat.le_of_eq g179.symm)
 have z204 : n0 ≤ h179.size := Nat.le_trans z178 E179.1
 have V179 : Arv Z h179 b179 k179 (.object s_15) (1 : Int32) [.null] .null := (Arv.new A179 (by decide)).pad (pad_rep [] .null 1)
 refine gob st179 ?_
 replace X179 := castX X179 (rfl : _ = 7) (rfl : _ = 35)
 show gO (tF T179 m 101 (la8 o0 p1 0 p3 o4) [(.ref b179), (.ref o0)])
 have c205 := (((fo ((fo ((fo (fo (fo (fo (((fo (((fo (((fo ((F_latest_o0.ext E2).keep K12 (ninS n7 nin0)) W20 (Or.inr (hW hw 256 rfl)) (Or.inr (hW hw 220 rfl)) (.array (.object s_15)) (.object s_7)).ext E22).keep K38 (ninS n29 nin0)) W46 (Or.inr (hW hw 256 rfl)) (Or.inr (hW hw 222 rfl)) (.array (.object s_15)) (.object s_7)).ext E48).keep K66 (ninS n55 nin0)) W74 (Or.inr (hW hw 256 rfl)) (Or.inr (hW hw 226 rfl)) (.array (.object s_15)) (.object s_2)).ext E76).keep K96 (ninS n83 nin0)) W104 (Or.inr (hW hw 256 rfl)) (Or.inr (hW hw 228 rfl)) (.array (.object s_15)) (.object s_2)) W108 (Or.inr (hW hw 256 rfl)) (Or.inr (hW hw 230 rfl)) (.array (.object s_15)) .int) W112 (Or.inr (hW hw 256 rfl)) (Or.inr (hW hw 232 rfl)) (.array (.object s_15)) .int) W116 (Or.inr (hW hw 256 rfl)) (Or.inr (hW hw 234 rfl)) (.array (.object s_15)) .int).ext E118) W144 (Or.inr (hW hw 256 rfl)) (Or.inr (hW hw 245 rfl)) (.array (.object s_15)) (.array .boolean)).ext E146) W172 (Or.inr (hW hw 256 rfl)) (Or.inr (hW hw 248 rfl)) (.array (.object s_15)) (.array .long)).keep K177 (ninS n153 nin0)).ext E179)
 have c206 := (c185.ext E179)
 obtain ⟨T207, h207, X207, e207, W207, st207⟩ := putF X179 hx hZ hown (host := "") (Or.inl (hW hw 255 rfl)) Via.refl e179 c205 c206 (Or.inr ⟨(u 256), rfl, hnm⟩) (u 194) (ty := (.array (.object s_15))) (by decide) rfl rfl (g := (mkF m 101 (la8 o0 p1 0 p3 o4) [(.ref b179), (.ref o0)])) rfl rfl (D 51)
 refine gob st207 ?_
 have z208 : n0 ≤ h207.size := Nat.le_trans z204 (Keep.of_wr W207).1
 have N207 := Fr.snoc X207 N177 (Nat.le_trans nS gS)
 have Fw207 := c205.same W207
 show gO (tF T207 m 104 (la8 o0 p1 0 p3 o4) [])
 refine gaN X207 hx (D 52) rfl rfl ?_
 obtain ⟨T209, X209, e209, st209⟩ := getF X207 hx hZ hown (host := "") (Or.inl (hW hw 255 rfl)) Via.refl e207 Fw207 (g := (mkF m 105 (la8 o0 p1 0 p3 o4) [(.ref o0)])) rfl rfl (D 53)
 refine gob st209 ?_
 obtain ⟨_, T210, Lc210, X210, hQ210, st210⟩ := clS X209 (Jvm.LawKit.callS X209 hx (y := M_14) hown (mvT hZ (u 257)) (mvT hZ (u 258)) (mvT hZ (u 195)) (mvT hZ (u 259)) (by decide) (backOf (W := 1) (rm32 l Z a0 hw []  h207 n0 z208 ) hZ (u 259) (u 195) (by decide) (by decide)) (g := (mkF m 108 (la8 o0 p1 0 p3 o4) [(.ref b179)])) rfl (by rw [hml]; rfl) (argsL := []) (rest := [(.ref b179)]) (lenOf pd_25 rfl) rfl (wk rfl rfl) (D 54) (fun _ _ => ⟨rfl, e209, lD rfl, lD rfl⟩)) (k := 8) (n := 39) rfl rfl
 obtain ⟨b211, rfl, Nq210, K210, hz212, F213, F214, F215, F216, F217⟩ := hQ210
 have N210 := Fr.app N207 Nq210
 have c224 := (c206.wr W207)
 have c228 := ((c189.ext E179).wr W207)
 have c230 := ((c191.ext E179).wr W207)
 have c234 := ((c195.ext E179).wr W207)
 have c236 := ((c197.ext E179).other W207 (Ne.symm n127))
 have xs242 := (own_extW (own_extE xs202 E179) W207 gS)
 have z244 : n0 ≤ T210.heap.size := Nat.le_trans z208 K210.1
 refine gob st210 ?_
 have c246 := ((V179.other W207 (Ne.symm n186)).keep K210 nin0)
 obtain ⟨_, T245, Lc245, X245, hQ245, st245⟩ := clS X210 (Jvm.LawKit.callS X210 hx (y := M_64) hown (mvT hZ (u 274)) (mvT hZ (u 275)) (mvT hZ (u 122)) (mvT hZ (u 276)) (by decide) (backOf (W := 0) (rm34 l Z a0 hw [] b179 b211 k179 T210.heap n0 z244 c246 O179 F213 g201) hZ (u 276) (u 122) (by decide) (by decide)) (g := (mkF m 111 (la8 o0 p1 0 p3 o4) [(.ref b211), (.ref b179)])) rfl (by rw [hml]; rfl) (argsL := [(.ref b179), (.ref b211)]) (rest := []) (lenOf pd_26 rfl) rfl (wk rfl rfl) (D 55) (fun _ _ => ⟨rfl, (rfl : T210.heap = _), lD rfl, lD rfl⟩)) (k := 8) (n := 39) rfl rfl
 obtain ⟨rfl, Nq245, K245, F247⟩ := hQ245
 have N245 := Fr.app N210 Nq245
 refine gob st245 ?_
 refine goV X245 hx hlk Bd.returns (D 56) ?_ (by decide) (by decide)
 show Q28 Z o0 p1 p3 o4 w_c f_ wE wL wD wA kD kA hS k_a x_0 x_1 x_2 x_3 x_4 h0 n0 (none) T245.heap _
 have c250 := ((c236.keep K210 nin0).keep K245 (ninS n198 nin0))
 have V249 := Bo.of c250
 have xs251 := (own_extK (own_extK xs242 K210 all0) K245 (allS gs203 all0))
 have c252 := ((c224.keep K210).keep K245)
 have c253 := ((c228.keep K210).keep K245)
 have c254 := ((c230.keep K210).keep K245)
 have c255 := ((c234.keep K210).keep K245)
 have c256 := (((fo (((fo ((fo ((fo (fo Fw108 W112 (Or.inr (hW hw 230 rfl)) (Or.inr (hW hw 232 rfl)) .int .int) W116 (Or.inr (hW hw 230 rfl)) (Or.inr (hW hw 234 rfl)) .int .int).ext E118) W144 (Or.inr (hW hw 230 rfl)) (Or.inr (hW hw 245 rfl)) .int (.array .boolean)).ext E146) W172 (Or.inr (hW hw 230 rfl)) (Or.inr (hW hw 248 rfl)) .int (.array .long)).keep K177 (ninS n153 nin0)).ext E179) W207 (Or.inr (hW hw 230 rfl)) (Or.inr (hW hw 256 rfl)) .int (.array (.object s_15))).keep K210 nin0).keep K245 (ninS n186 nin0))
 have c257 := (((fo (((fo ((fo ((fo Fw112 W116 (Or.inr (hW hw 232 rfl)) (Or.inr (hW hw 234 rfl)) .int .int).ext E118) W144 (Or.inr (hW hw 232 rfl)) (Or.inr (hW hw 245 rfl)) .int (.array .boolean)).ext E146) W172 (Or.inr (hW hw 232 rfl)) (Or.inr (hW hw 248 rfl)) .int (.array .long)).keep K177 (ninS n153 nin0)).ext E179) W207 (Or.inr (hW hw 232 rfl)) (Or.inr (hW hw 256 rfl)) .int (.array (.object s_15))).keep K210 nin0).keep K245 (ninS n186 nin0))
 have c258 := (((fo (((fo ((fo (Fw116.ext E118) W144 (Or.inr (hW hw 234 rfl)) (Or.inr (hW hw 245 rfl)) .int (.array .boolean)).ext E146) W172 (Or.inr (hW hw 234 rfl)) (Or.inr (hW hw 248 rfl)) .int (.array .long)).keep K177 (ninS n153 nin0)).ext E179) W207 (Or.inr (hW hw 234 rfl)) (Or.inr (hW hw 256 rfl)) .int (.array (.object s_15))).keep K210 nin0).keep K245 (ninS n186 nin0))
 have c259 := (((fo (((fo (Fw144.ext E146) W172 (Or.inr (hW hw 245 rfl)) (Or.inr (hW hw 248 rfl)) (.array .boolean) (.array .long)).keep K177 (ninS n153 nin0)).ext E179) W207 (Or.inr (hW hw 245 rfl)) (Or.inr (hW hw 256 rfl)) (.array .boolean) (.array (.object s_15))).keep K210 nin0).keep K245 (ninS n186 nin0))
 have c260 := (((fo ((Fw172.keep K177 (ninS n153 nin0)).ext E179) W207 (Or.inr (hW hw 248 rfl)) (Or.inr (hW hw 256 rfl)) (.array .long) (.array (.object s_15))).keep K210 nin0).keep K245 (ninS n186 nin0))
 have c261 := (((fo (((fo ((fo ((fo (fo (fo (fo (((fo (((fo ((Fw20.ext E22).keep K38 (ninS n29 nin0)) W46 (Or.inr (hW hw 220 rfl)) (Or.inr (hW hw 222 rfl)) (.object s_7) (.object s_7)).ext E48).keep K66 (ninS n55 nin0)) W74 (Or.inr (hW hw 220 rfl)) (Or.inr (hW hw 226 rfl)) (.object s_7) (.object s_2)).ext E76).keep K96 (ninS n83 nin0)) W104 (Or.inr (hW hw 220 rfl)) (Or.inr (hW hw 228 rfl)) (.object s_7) (.object s_2)) W108 (Or.inr (hW hw 220 rfl)) (Or.inr (hW hw 230 rfl)) (.object s_7) .int) W112 (Or.inr (hW hw 220 rfl)) (Or.inr (hW hw 232 rfl)) (.object s_7) .int) W116 (Or.inr (hW hw 220 rfl)) (Or.inr (hW hw 234 rfl)) (.object s_7) .int).ext E118) W144 (Or.inr (hW hw 220 rfl)) (Or.inr (hW hw 245 rfl)) (.object s_7) (.array .boolean)).ext E146) W172 (Or.inr (hW hw 220 rfl)) (Or.inr (hW hw 248 rfl)) (.object s_7) (.array .long)).keep K177 (ninS n153 nin0)).ext E179) W207 (Or.inr (hW hw 220 rfl)) (Or.inr (hW hw 256 rfl)) (.object s_7) (.array (.object s_15))).keep K210 nin0).keep K245 (ninS n186 nin0))
 have c262 := (((fo (((fo ((fo ((fo (fo (fo (fo (((fo ((Fw46.ext E48).keep K66 (ninS n55 nin0)) W74 (Or.inr (hW hw 222 rfl)) (Or.inr (hW hw 226 rfl)) (.object s_7) (.object s_2)).ext E76).keep K96 (ninS n83 nin0)) W104 (Or.inr (hW hw 222 rfl)) (Or.inr (hW hw 228 rfl)) (.object s_7) (.object s_2)) W108 (Or.inr (hW hw 222 rfl)) (Or.inr (hW hw 230 rfl)) (.object s_7) .int) W112 (Or.inr (hW hw 222 rfl)) (Or.inr (hW hw 232 rfl)) (.object s_7) .int) W116 (Or.inr (hW hw 222 rfl)) (Or.inr (hW hw 234 rfl)) (.object s_7) .int).ext E118) W144 (Or.inr (hW hw 222 rfl)) (Or.inr (hW hw 245 rfl)) (.object s_7) (.array .boolean)).ext E146) W172 (Or.inr (hW hw 222 rfl)) (Or.inr (hW hw 248 rfl)) (.object s_7) (.array .long)).keep K177 (ninS n153 nin0)).ext E179) W207 (Or.inr (hW hw 222 rfl)) (Or.inr (hW hw 256 rfl)) (.object s_7) (.array (.object s_15))).keep K210 nin0).keep K245 (ninS n186 nin0))
 have c263 := (((fo (((fo ((fo ((fo (fo (fo Fw104 W108 (Or.inr (hW hw 228 rfl)) (Or.inr (hW hw 230 rfl)) (.object s_2) .int) W112 (Or.inr (hW hw 228 rfl)) (Or.inr (hW hw 232 rfl)) (.object s_2) .int) W116 (Or.inr (hW hw 228 rfl)) (Or.inr (hW hw 234 rfl)) (.object s_2) .int).ext E118) W144 (Or.inr (hW hw 228 rfl)) (Or.inr (hW hw 245 rfl)) (.object s_2) (.array .boolean)).ext E146) W172 (Or.inr (hW hw 228 rfl)) (Or.inr (hW hw 248 rfl)) (.object s_2) (.array .long)).keep K177 (ninS n153 nin0)).ext E179) W207 (Or.inr (hW hw 228 rfl)) (Or.inr (hW hw 256 rfl)) (.object s_2) (.array (.object s_15))).keep K210 nin0).keep K245 (ninS n186 nin0))
 have c264 := (((fo (((fo ((fo ((fo (fo (fo (fo (((fo (((fo (((fo ((F_visits_o0.ext E2).keep K12 (ninS n7 nin0)) W20 (Or.inl (hW hw 334 rfl)) (Or.inr (hW hw 220 rfl)) .long (.object s_7)).ext E22).keep K38 (ninS n29 nin0)) W46 (Or.inl (hW hw 334 rfl)) (Or.inr (hW hw 222 rfl)) .long (.object s_7)).ext E48).keep K66 (ninS n55 nin0)) W74 (Or.inl (hW hw 334 rfl)) (Or.inr (hW hw 226 rfl)) .long (.object s_2)).ext E76).keep K96 (ninS n83 nin0)) W104 (Or.inl (hW hw 334 rfl)) (Or.inr (hW hw 228 rfl)) .long (.object s_2)) W108 (Or.inl (hW hw 334 rfl)) (Or.inr (hW hw 230 rfl)) .long .int) W112 (Or.inl (hW hw 334 rfl)) (Or.inr (hW hw 232 rfl)) .long .int) W116 (Or.inl (hW hw 334 rfl)) (Or.inr (hW hw 234 rfl)) .long .int).ext E118) W144 (Or.inl (hW hw 334 rfl)) (Or.inr (hW hw 245 rfl)) .long (.array .boolean)).ext E146) W172 (Or.inl (hW hw 334 rfl)) (Or.inr (hW hw 248 rfl)) .long (.array .long)).keep K177 (ninS n153 nin0)).ext E179) W207 (Or.inl (hW hw 334 rfl)) (Or.inr (hW hw 256 rfl)) .long (.array (.object s_15))).keep K210 nin0).keep K245 (ninS n186 nin0))
 have c265 := (((fo (((fo ((fo ((fo (fo (fo (fo (((fo (((fo (((fo ((F_upToDateFrom_o0.ext E2).keep K12 (ninS n7 nin0)) W20 (Or.inl (hW hw 485 rfl)) (Or.inr (hW hw 220 rfl)) .long (.object s_7)).ext E22).keep K38 (ninS n29 nin0)) W46 (Or.inl (hW hw 485 rfl)) (Or.inr (hW hw 222 rfl)) .long (.object s_7)).ext E48).keep K66 (ninS n55 nin0)) W74 (Or.inl (hW hw 485 rfl)) (Or.inr (hW hw 226 rfl)) .long (.object s_2)).ext E76).keep K96 (ninS n83 nin0)) W104 (Or.inl (hW hw 485 rfl)) (Or.inr (hW hw 228 rfl)) .long (.object s_2)) W108 (Or.inl (hW hw 485 rfl)) (Or.inr (hW hw 230 rfl)) .long .int) W112 (Or.inl (hW hw 485 rfl)) (Or.inr (hW hw 232 rfl)) .long .int) W116 (Or.inl (hW hw 485 rfl)) (Or.inr (hW hw 234 rfl)) .long .int).ext E118) W144 (Or.inl (hW hw 485 rfl)) (Or.inr (hW hw 245 rfl)) .long (.array .boolean)).ext E146) W172 (Or.inl (hW hw 485 rfl)) (Or.inr (hW hw 248 rfl)) .long (.array .long)).keep K177 (ninS n153 nin0)).ext E179) W207 (Or.inl (hW hw 485 rfl)) (Or.inr (hW hw 256 rfl)) .long (.array (.object s_15))).keep K210 nin0).keep K245 (ninS n186 nin0))
 have c266 := (((fo (((fo ((fo ((fo (fo (fo (fo (((fo (((fo (((fo ((F_onItsWay_o0.ext E2).keep K12 (ninS n7 nin0)) W20 (Or.inl (hW hw 284 rfl)) (Or.inr (hW hw 220 rfl)) .boolean (.object s_7)).ext E22).keep K38 (ninS n29 nin0)) W46 (Or.inl (hW hw 284 rfl)) (Or.inr (hW hw 222 rfl)) .boolean (.object s_7)).ext E48).keep K66 (ninS n55 nin0)) W74 (Or.inl (hW hw 284 rfl)) (Or.inr (hW hw 226 rfl)) .boolean (.object s_2)).ext E76).keep K96 (ninS n83 nin0)) W104 (Or.inl (hW hw 284 rfl)) (Or.inr (hW hw 228 rfl)) .boolean (.object s_2)) W108 (Or.inl (hW hw 284 rfl)) (Or.inr (hW hw 230 rfl)) .boolean .int) W112 (Or.inl (hW hw 284 rfl)) (Or.inr (hW hw 232 rfl)) .boolean .int) W116 (Or.inl (hW hw 284 rfl)) (Or.inr (hW hw 234 rfl)) .boolean .int).ext E118) W144 (Or.inl (hW hw 284 rfl)) (Or.inr (hW hw 245 rfl)) .boolean (.array .boolean)).ext E146) W172 (Or.inl (hW hw 284 rfl)) (Or.inr (hW hw 248 rfl)) .boolean (.array .long)).keep K177 (ninS n153 nin0)).ext E179) W207 (Or.inl (hW hw 284 rfl)) (Or.inr (hW hw 256 rfl)) .boolean (.array (.object s_15))).keep K210 nin0).keep K245 (ninS n186 nin0))
 have c267 := ((((((((((((((((((((((F15.other W20 (Or.inl (Ne.symm n7))).ext E22).keep K38 (ninS n33 nin0)).other W46 (Or.inl (Ne.symm n7))).ext E48).keep K66 (ninS n59 nin0)).other W74 (Or.inl (Ne.symm n7))).ext E76).keep K96 (ninS n87 nin0)).other W104 (Or.inl (Ne.symm n7))).other W108 (Or.inl (Ne.symm n7))).other W112 (Or.inl (Ne.symm n7))).other W116 (Or.inl (Ne.symm n7))).ext E118).other W144 (Or.inl (Ne.symm n7))).ext E146).other W172 (Or.inl (Ne.symm n7))).keep K177 (ninS n157 nin0)).ext E179).other W207 (Or.inl (Ne.symm n7))).keep K210 nin0).keep K245 (ninS n190 nin0))
 have c268 := ((((((((((((((((((((((F16.other W20 (Or.inl (Ne.symm n7))).ext E22).keep K38 (ninS n33 nin0)).other W46 (Or.inl (Ne.symm n7))).ext E48).keep K66 (ninS n59 nin0)).other W74 (Or.inl (Ne.symm n7))).ext E76).keep K96 (ninS n87 nin0)).other W104 (Or.inl (Ne.symm n7))).other W108 (Or.inl (Ne.symm n7))).other W112 (Or.inl (Ne.symm n7))).other W116 (Or.inl (Ne.symm n7))).ext E118).other W144 (Or.inl (Ne.symm n7))).ext E146).other W172 (Or.inl (Ne.symm n7))).keep K177 (ninS n157 nin0)).ext E179).other W207 (Or.inl (Ne.symm n7))).keep K210 nin0).keep K245 (ninS n190 nin0))
 have c269 := (((((((((((((((((((F41.other W46 (Or.inl (Ne.symm n29))).ext E48).keep K66 (ninS n61 nin0)).other W74 (Or.inl (Ne.symm n29))).ext E76).keep K96 (ninS n89 nin0)).other W104 (Or.inl (Ne.symm n29))).other W108 (Or.inl (Ne.symm n29))).other W112 (Or.inl (Ne.symm n29))).other W116 (Or.inl (Ne.symm n29))).ext E118).other W144 (Or.inl (Ne.symm n29))).ext E146).other W172 (Or.inl (Ne.symm n29))).keep K177 (ninS n159 nin0)).ext E179).other W207 (Or.inl (Ne.symm n29))).keep K210 nin0).keep K245 (ninS n192 nin0))
 have c270 := (((((((((((((((((((F42.other W46 (Or.inl (Ne.symm n29))).ext E48).keep K66 (ninS n61 nin0)).other W74 (Or.inl (Ne.symm n29))).ext E76).keep K96 (ninS n89 nin0)).other W104 (Or.inl (Ne.symm n29))).other W108 (Or.inl (Ne.symm n29))).other W112 (Or.inl (Ne.symm n29))).other W116 (Or.inl (Ne.symm n29))).ext E118).other W144 (Or.inl (Ne.symm n29))).ext E146).other W172 (Or.inl (Ne.symm n29))).keep K177 (ninS n159 nin0)).ext E179).other W207 (Or.inl (Ne.symm n29))).keep K210 nin0).keep K245 (ninS n192 nin0))
 have c271 := (((((((((((((F100.other W104 (Or.inl (Ne.symm n83))).other W108 (Or.inl (Ne.symm n83))).other W112 (Or.inl (Ne.symm n83))).other W116 (Or.inl (Ne.symm n83))).ext E118).other W144 (Or.inl (Ne.symm n83))).ext E146).other W172 (Or.inl (Ne.symm n83))).keep K177 (ninS n163 nin0)).ext E179).other W207 (Or.inl (Ne.symm n83))).keep K210 nin0).keep K245 (ninS n196 nin0))
 have c272 := (((((((((((((F98.other W104 (Or.inl (Ne.symm n83))).other W108 (Or.inl (Ne.symm n83))).other W112 (Or.inl (Ne.symm n83))).other W116 (Or.inl (Ne.symm n83))).ext E118).other W144 (Or.inl (Ne.symm n83))).ext E146).other W172 (Or.inl (Ne.symm n83))).keep K177 (ninS n163 nin0)).ext E179).other W207 (Or.inl (Ne.symm n83))).keep K210 nin0).keep K245 (ninS n196 nin0))
 have c273 := (((((((((((((F99.other W104 (Or.inl (Ne.symm n83))).other W108 (Or.inl (Ne.symm n83))).other W112 (Or.inl (Ne.symm n83))).other W116 (Or.inl (Ne.symm n83))).ext E118).other W144 (Or.inl (Ne.symm n83))).ext E146).other W172 (Or.inl (Ne.symm n83))).keep K177 (ninS n163 nin0)).ext E179).other W207 (Or.inl (Ne.symm n83))).keep K210 nin0).keep K245 (ninS n196 nin0))
 have c274 := ((((I177.ext E179).other W207 (Ne.symm n153)).keep K210 nin0).keep K245 (ninS n200 nin0))
 exact ⟨rfl, N245, ⟨b118, b146, b2, b22, b76, 0, wD, xs251, gS, gs139, gs168, gs94, n127, n153, n83, n165, (Ne.symm n136), (Ne.symm n163), (Ne.symm n7), n130, n157, n87, (Ne.symm n29), n132, n159, n89, c252, c253, c254, c255, c256, c257, c258, c259, c260, c261, c262, c263, c264, c265, c266, c267, c268, c269, c270, c271, c272, c273, V249, c274⟩⟩
def t_66 : List (Nat × Instr × Nat) := [(0, .aload_n 0, 1), (1, .getfield 45, 3), (4, .iload_n 1, 1), (5, .iconst 1, 1), (6, .bastore, 1), (7, .aload_n 0, 1), (8, .getfield 76, 3), (11, .ifCond .eq 20, 3), (31, .aload_n 0, 1), (32, .aload_n 0, 1), (33, .getfield 125, 3), (36, .putfield 134, 3), (39, .return_, 1)]
theorem q_66 : ∀ i : Fin 13, decode c_66 (gt t_66 i.1).1 = .ok ((gt t_66 i.1).2.1, (gt t_66 i.1).2.2) := by decide +kernel
def Q66 (Z : State) (o0 : Addr) (p1 : Int32) (hS : Heap) (n_ : Int32) (sf_ : Int32) (vi_ : Int64) (up_ : Int64) (g_ : Nat → Int32) (ff_ : Nat → Int64) (h0 : Heap) (n0 : Nat) (v : Option Value) (h : Heap) (L : List Loc) : Prop := v = none ∧ Fr n0 L ∧ Cen Z hS h o0 n_ sf_ vi_ vi_ (fun i => if i = (p1).toNatClampNeg then (1 : Int32) else g_ i) ff_
set_option maxRecDepth 65536 in
set_option maxHeartbeats 40000000 in
theorem rm66 (o0 : Addr) (p1 : Int32) (hS : Heap) (n_ : Int32) (sf_ : Int32) (vi_ : Int64) (up_ : Int64) (g_ : Nat → Int32) (ff_ : Nat → Int64) (h0 : Heap) (n0 : Nat) (Z0 : n0 ≤ h0.size) (hp : 1 ≤ p1.toInt ∧ p1.toInt ≤ 4) (CE : Cen Z hS h0 o0 n_ sf_ vi_ up_ g_ ff_) (nS : n0 ≤ hS.size) (hn : 1 ≤ n_.toInt ∧ n_.toInt ≤ 4) :
  Mt hw l M_66 (Jvm.Cond.code M_66 c_66 2 none) ws R_0_0_0_0 #[(.ref o0), (.int p1)] h0 (Q66 Z o0 p1 hS n_ sf_ vi_ up_ g_ ff_ h0 n0) := by
 refine ent s_5 rfl hisR fun p e s m below meth c s₁ Bd hx hby hml hown hnm hlk hZ X0 e0 => ?_
 have D := fun i => hb hby (q_66 i)
 have u := hU hw
 have N0 := Fr.nil n0
 rw [ef_44_0]
 obtain ⟨wcr, wvi, ww, wq, wl, mc, ed, xS, gs_c, gs_wcr, gs_wvi, gs_wl, ne_c_wcr, ne_c_wvi, ne_c_wl, ne_wcr_wvi, ne_wcr_wl, ne_wvi_wl, ne_ww_c, ne_ww_wcr, ne_ww_wvi, ne_ww_wl, ne_wq_c, ne_wq_wcr, ne_wq_wvi, ne_wq_wl, E_c, E_ww, E_wq, E_wl, C_nodes, C_tokens, C_self, C_crashed, C_visitedAt, C_waiters, C_queued, C_learnedMidRound, C_visits, C_upToDateFrom, C_onItsWay, W_comparator, W_root, Q_comparator, Q_root, L_size, L_modCount, L_elementData, T_b, T_l⟩ := CE
 have h5 := own_idx5 (i := p1) (by omega) hp.2
 show gO (tF s₁ m 0 #[.val (.ref o0), .val (.int p1)] [])
 refine gaN X0 hx (D 0) rfl rfl ?_
 obtain ⟨T1, X1, e1, st1⟩ := getF X0 hx hZ hown (host := "") (Or.inl (hW hw 244 rfl)) Via.refl e0 C_crashed (g := (mkF m 1 #[.val (.ref o0), .val (.int p1)] [(.ref o0)])) rfl rfl (D 1)
 refine gob st1 ?_
 refine giN X1 hx (D 2) rfl ?_
 refine giC X1 hx (D 3) ?_
 obtain ⟨cl2, Ar2, S2, H2⟩ := id T_b
 obtain ⟨T3, h3, X3, e3, W3, st3⟩ := stZ X1 hx hZ e1 Ar2 (j := p1) (fun q => q.elim h5.1 (fun q => by rw [S2] at q; exact absurd h5.2 (Nat.not_lt_of_le q))) (g := (mkF m 6 #[.val (.ref o0), .val (.int p1)] [(.int 1), (.int p1), (.ref wcr)])) rfl rfl (D 4)
 refine gob st3 ?_
 have N3 := Fr.snoc X3 N0 (Nat.le_trans nS gs_wcr)
 have V3 := own_boset Ar2 S2 H2 W3 (rfl : _ = (1 : Int32)) h5.2
 show gO (tF T3 m 7 #[.val (.ref o0), .val (.int p1)] [])
 refine gaN X3 hx (D 5) rfl rfl ?_
 have c5 := (C_onItsWay.other W3 (Or.inl ne_c_wcr))
 obtain ⟨T6, X6, e6, st6⟩ := getF X3 hx hZ hown (host := "") (Or.inl (hW hw 283 rfl)) Via.refl e3 c5 (g := (mkF m 8 #[.val (.ref o0), .val (.int p1)] [(.ref o0)])) rfl rfl (D 6)
 refine gob st6 ?_
 refine go (XS.ifYes X6.here hx rfl (pc0 := 11) (pc' := 31) rfl (D 7) rfl ((if0 _ _).trans (teq (by decide : (0 : Int32) = (0 : Int32))).1) (by decide) (by decide)) ?_
 refine gaN X6 hx (D 8) rfl rfl ?_
 refine gaN X6 hx (D 9) rfl rfl ?_
 have c7 := (C_visits.other W3 (Or.inl ne_c_wcr))
 obtain ⟨T8, X8, e8, st8⟩ := getF X6 hx hZ hown (host := "") (Or.inl (hW hw 333 rfl)) Via.refl e6 c7 (g := (mkF m 33 #[.val (.ref o0), .val (.int p1)] [(.ref o0), (.ref o0)])) rfl rfl (D 10)
 refine gob st8 ?_
 have c9 := (C_upToDateFrom.other W3 (Or.inl ne_c_wcr))
 have c10 := (E_c.wr W3)
 obtain ⟨T11, h11, X11, e11, W11, st11⟩ := putF X8 hx hZ hown (host := "") (Or.inl (hW hw 484 rfl)) Via.refl e8 c9 c10 (Or.inl (hW hw 485 rfl)) (u 194) (ty := .long) (by decide) rfl rfl (g := (mkF m 36 #[.val (.ref o0), .val (.int p1)] [(.long vi_), (.ref o0)])) rfl rfl (D 11)
 refine gob st11 ?_
 have N11 := Fr.snoc X11 N3 (Nat.le_trans nS gs_c)
 have Fw11 := c9.same W11
 show gO (tF T11 m 39 #[.val (.ref o0), .val (.int p1)] [])
 refine goV X11 hx hlk Bd.returns (D 12) ?_ (by decide) (by decide)
 show Q66 Z o0 p1 hS n_ sf_ vi_ up_ g_ ff_ h0 n0 (none) T11.heap _
 rw [e11]
 have xs13 := (own_extW (own_extW xS W3 gs_wcr) W11 gs_c)
 have c14 := (c10.wr W11)
 have c15 := ((E_ww.wr W3).wr W11)
 have c16 := ((E_wq.wr W3).wr W11)
 have c17 := ((E_wl.wr W3).wr W11)
 have c18 := (fo (C_nodes.other W3 (Or.inl ne_c_wcr)) W11 (Or.inr (hW hw 230 rfl)) (Or.inl (hW hw 485 rfl)) .int .long)
 have c19 := (fo (C_tokens.other W3 (Or.inl ne_c_wcr)) W11 (Or.inr (hW hw 232 rfl)) (Or.inl (hW hw 485 rfl)) .int .long)
 have c20 := (fo (C_self.other W3 (Or.inl ne_c_wcr)) W11 (Or.inr (hW hw 234 rfl)) (Or.inl (hW hw 485 rfl)) .int .long)
 have c21 := (fo (C_crashed.other W3 (Or.inl ne_c_wcr)) W11 (Or.inr (hW hw 245 rfl)) (Or.inl (hW hw 485 rfl)) (.array .boolean) .long)
 have c22 := (fo (C_visitedAt.other W3 (Or.inl ne_c_wcr)) W11 (Or.inr (hW hw 248 rfl)) (Or.inl (hW hw 485 rfl)) (.array .long) .long)
 have c23 := (fo (C_waiters.other W3 (Or.inl ne_c_wcr)) W11 (Or.inr (hW hw 220 rfl)) (Or.inl (hW hw 485 rfl)) (.object s_7) .long)
 have c24 := (fo (C_queued.other W3 (Or.inl ne_c_wcr)) W11 (Or.inr (hW hw 222 rfl)) (Or.inl (hW hw 485 rfl)) (.object s_7) .long)
 have c25 := (fo (C_learnedMidRound.other W3 (Or.inl ne_c_wcr)) W11 (Or.inr (hW hw 228 rfl)) (Or.inl (hW hw 485 rfl)) (.object s_2) .long)
 have c26 := (fo c7 W11 (Or.inl (hW hw 334 rfl)) (Or.inl (hW hw 485 rfl)) .long .long)
 have c27 := (fo c5 W11 (Or.inl (hW hw 284 rfl)) (Or.inl (hW hw 485 rfl)) .boolean .long)
 have c28 := ((W_comparator.other W3 (Or.inl ne_ww_wcr)).other W11 (Or.inl ne_ww_c))
 have c29 := ((W_root.other W3 (Or.inl ne_ww_wcr)).other W11 (Or.inl ne_ww_c))
 have c30 := ((Q_comparator.other W3 (Or.inl ne_wq_wcr)).other W11 (Or.inl ne_wq_c))
 have c31 := ((Q_root.other W3 (Or.inl ne_wq_wcr)).other W11 (Or.inl ne_wq_c))
 have c32 := ((L_size.other W3 (Or.inl (Ne.symm ne_wcr_wl))).other W11 (Or.inl (Ne.symm ne_c_wl)))
 have c33 := ((L_modCount.other W3 (Or.inl (Ne.symm ne_wcr_wl))).other W11 (Or.inl (Ne.symm ne_c_wl)))
 have c34 := ((L_elementData.other W3 (Or.inl (Ne.symm ne_wcr_wl))).other W11 (Or.inl (Ne.symm ne_c_wl)))
 have c35 := (V3.other W11 (Ne.symm ne_c_wcr))
 have c36 := ((T_l.other W3 (Ne.symm ne_wcr_wvi)).other W11 (Ne.symm ne_c_wvi))
 exact ⟨rfl, N11, ⟨wcr, wvi, ww, wq, wl, mc, ed, xs13, gs_c, gs_wcr, gs_wvi, gs_wl, ne_c_wcr, ne_c_wvi, ne_c_wl, ne_wcr_wvi, ne_wcr_wl, ne_wvi_wl, ne_ww_c, ne_ww_wcr, ne_ww_wvi, ne_ww_wl, ne_wq_c, ne_wq_wcr, ne_wq_wvi, ne_wq_wl, c14, c15, c16, c17, c18, c19, c20, c21, c22, c23, c24, c25, c26, Fw11, c27, c28, c29, c30, c31, c32, c33, c34, c35, c36⟩⟩
def t_57 : List (Nat × Instr × Nat) := [(0, .aload_n 0, 1), (1, .getfield 48, 3), (4, .iload_n 1, 1), (5, .laload, 1), (6, .lconst 0, 1), (7, .lcmp, 1), (8, .ifCond .lt 21, 3), (11, .aload_n 0, 1), (12, .getfield 48, 3), (15, .iload_n 1, 1), (16, .laload, 1), (17, .aload_n 0, 1), (18, .getfield 134, 3), (21, .lcmp, 1), (22, .ifCond .lt 7, 3), (25, .iconst 1, 1), (26, .goto 4, 3), (29, .iconst 0, 1), (30, .ireturn, 1)]
theorem q_57 : ∀ i : Fin 19, decode c_57 (gt t_57 i.1).1 = .ok ((gt t_57 i.1).2.1, (gt t_57 i.1).2.2) := by decide +kernel
def Q57 (Z : State) (o0 : Addr) (p1 : Int32) (hS : Heap) (n_ : Int32) (sf_ : Int32) (vi_ : Int64) (up_ : Int64) (g_ : Nat → Int32) (ff_ : Nat → Int64) (h0 : Heap) (n0 : Nat) (v : Option Value) (h : Heap) (L : List Loc) : Prop := ∃ r : Int32, v = some (.int r) ∧ ((r = 1 ∧ (¬ ((ff_ (p1).toNatClampNeg) < 0) ∧ ¬ ((ff_ (p1).toNatClampNeg) < up_))) ∨ (r = 0 ∧ ¬ (¬ ((ff_ (p1).toNatClampNeg) < 0) ∧ ¬ ((ff_ (p1).toNatClampNeg) < up_)))) ∧ Fr n0 L ∧ h = h0
set_option maxRecDepth 65536 in
set_option maxHeartbeats 40000000 in
theorem rm57 (o0 : Addr) (p1 : Int32) (hS : Heap) (n_ : Int32) (sf_ : Int32) (vi_ : Int64) (up_ : Int64) (g_ : Nat → Int32) (ff_ : Nat → Int64) (h0 : Heap) (n0 : Nat) (Z0 : n0 ≤ h0.size) (CE : Cen Z hS h0 o0 n_ sf_ vi_ up_ g_ ff_) (nS : n0 ≤ hS.size) (hn : 1 ≤ n_.toInt ∧ n_.toInt ≤ 4) (hp : 1 ≤ p1.toInt ∧ p1.toInt ≤ n_.toInt) :
  Mt hw l M_67 (Jvm.Cond.code M_67 c_57 2 (some .boolean)) ws R_0_0_0_0 #[(.ref o0), (.int p1)] h0 (Q57 Z o0 p1 hS n_ sf_ vi_ up_ g_ ff_ h0 n0) := by
 refine ent s_5 rfl hisR fun p e s m below meth c s₁ Bd hx hby hml hown hnm hlk hZ X0 e0 => ?_
 have D := fun i => hb hby (q_57 i)
 have u := hU hw
 have N0 := Fr.nil n0
 rw [ef_44_0]
 obtain ⟨wcr, wvi, ww, wq, wl, mc, ed, xS, gs_c, gs_wcr, gs_wvi, gs_wl, ne_c_wcr, ne_c_wvi, ne_c_wl, ne_wcr_wvi, ne_wcr_wl, ne_wvi_wl, ne_ww_c, ne_ww_wcr, ne_ww_wvi, ne_ww_wl, ne_wq_c, ne_wq_wcr, ne_wq_wvi, ne_wq_wl, E_c, E_ww, E_wq, E_wl, C_nodes, C_tokens, C_self, C_crashed, C_visitedAt, C_waiters, C_queued, C_learnedMidRound, C_visits, C_upToDateFrom, C_onItsWay, W_comparator, W_root, Q_comparator, Q_root, L_size, L_modCount, L_elementData, T_b, T_l⟩ := CE
 have hs1 := own_inc4 (i := n_) (by omega) hn.2
 have hI := own_idx (i := p1) (n := (n_ + (1 : Int32))) (by omega) (by omega)
 show gO (tF s₁ m 0 #[.val (.ref o0), .val (.int p1)] [])
 refine gaN X0 hx (D 0) rfl rfl ?_
 obtain ⟨T1, X1, e1, st1⟩ := getF X0 hx hZ hown (host := "") (Or.inl (hW hw 247 rfl)) Via.refl e0 C_visitedAt (g := (mkF m 1 #[.val (.ref o0), .val (.int p1)] [(.ref o0)])) rfl rfl (D 1)
 refine gob st1 ?_
 refine giN X1 hx (D 2) rfl ?_
 obtain ⟨cl2, Ar2, S2, Nn2, H2⟩ := id T_l
 refine gob (X1.laload hx (j := p1) (v := (.long (ff_ (p1).toNatClampNeg))) (by rw [e1]; exact Ar2.1) (State.isArrayOf_alike hZ.alike Ar2.2.1) Ar2.2.2 (inb_of S2 hI.1) (H2 _ hI.2) (g := (mkF m 5 #[.val (.ref o0), .val (.int p1)] [(.int p1), (.ref wvi)])) rfl rfl (D 3)) ?_
 refine go (XS.lconst X1.here hx rfl (D 4)) ?_
 refine go (XS.lcmp X1.here hx rfl (D 5) rfl) ?_
 show gO (tF T1 m 8 #[.val (.ref o0), .val (.int p1)] [(.int (lcmpW (ff_ (p1).toNatClampNeg) (0 : Int64)))])
 by_cases hc8_3 : (ff_ (p1).toNatClampNeg) < (0 : Int64)
 ·skip
  refine go (XS.ifYes X1.here hx rfl (pc0 := 8) (pc' := 29) rfl (D 6) rfl ((if0 _ _).trans (tlt ((lw_lt _ _).mpr hc8_3)).1) (by decide) (by decide)) ?_
  refine giC X1 hx (D 17) ?_
  refine goZ X1 hx hlk (t := .boolean) Bd.returns (by simp) (D 18) (z' := (0 : Int32)) rfl ?_ (by decide) (by decide)
  show Q57 Z o0 p1 hS n_ sf_ vi_ up_ g_ ff_ h0 n0 (some (.int (0 : Int32))) T1.heap _
  rw [e1]
  exact ⟨_, rfl, Or.inr ⟨rfl, fun q => q.1 hc8_3⟩, N0, rfl⟩
 ·skip
  refine go (XS.ifNo X1.here hx rfl (D 6) rfl ((if0 _ _).trans (flt (mt (lw_lt _ _).mp hc8_3)).1)) ?_
  refine gaN X1 hx (D 7) rfl rfl ?_
  obtain ⟨T4, X4, e4, st4⟩ := getF X1 hx hZ hown (host := "") (Or.inl (hW hw 247 rfl)) Via.refl e1 C_visitedAt (g := (mkF m 12 #[.val (.ref o0), .val (.int p1)] [(.ref o0)])) rfl rfl (D 8)
  refine gob st4 ?_
  refine giN X4 hx (D 9) rfl ?_
  obtain ⟨cl5, Ar5, S5, Nn5, H5⟩ := id T_l
  refine gob (X4.laload hx (j := p1) (v := (.long (ff_ (p1).toNatClampNeg))) (by rw [e4]; exact Ar5.1) (State.isArrayOf_alike hZ.alike Ar5.2.1) Ar5.2.2 (inb_of S5 hI.1) (H5 _ hI.2) (g := (mkF m 16 #[.val (.ref o0), .val (.int p1)] [(.int p1), (.ref wvi)])) rfl rfl (D 10)) ?_
  refine gaN X4 hx (D 11) rfl rfl ?_
  obtain ⟨T6, X6, e6, st6⟩ := getF X4 hx hZ hown (host := "") (Or.inl (hW hw 484 rfl)) Via.refl e4 C_upToDateFrom (g := (mkF m 18 #[.val (.ref o0), .val (.int p1)] [(.ref o0), (.long (ff_ (p1).toNatClampNeg))])) rfl rfl (D 12)
  refine gob st6 ?_
  show gO (tF T6 m 21 #[.val (.ref o0), .val (.int p1)] [(.long up_), (.long (ff_ (p1).toNatClampNeg))])
  refine go (XS.lcmp X6.here hx rfl (D 13) rfl) ?_
  show gO (tF T6 m 22 #[.val (.ref o0), .val (.int p1)] [(.int (lcmpW (ff_ (p1).toNatClampNeg) up_))])
  by_cases hc22_7 : (ff_ (p1).toNatClampNeg) < up_
  ·skip
   refine go (XS.ifYes X6.here hx rfl (pc0 := 22) (pc' := 29) rfl (D 14) rfl ((if0 _ _).trans (tlt ((lw_lt _ _).mpr hc22_7)).1) (by decide) (by decide)) ?_
   refine giC X6 hx (D 17) ?_
   refine goZ X6 hx hlk (t := .boolean) Bd.returns (by simp) (D 18) (z' := (0 : Int32)) rfl ?_ (by decide) (by decide)
   show Q57 Z o0 p1 hS n_ sf_ vi_ up_ g_ ff_ h0 n0 (some (.int (0 : Int32))) T6.heap _
   rw [e6]
   exact ⟨_, rfl, Or.inr ⟨rfl, fun q => q.2 hc22_7⟩, N0, rfl⟩
  ·skip
   refine go (XS.ifNo X6.here hx rfl (D 14) rfl ((if0 _ _).trans (flt (mt (lw_lt _ _).mp hc22_7)).1)) ?_
   refine giC X6 hx (D 15) ?_
   refine go (XS.goto X6.here hx rfl (pc0 := 26) (pc' := 30) rfl (D 16) (by decide) (by decide)) ?_
   refine goZ X6 hx hlk (t := .boolean) Bd.returns (by simp) (D 18) (z' := (1 : Int32)) rfl ?_ (by decide) (by decide)
   show Q57 Z o0 p1 hS n_ sf_ vi_ up_ g_ ff_ h0 n0 (some (.int (1 : Int32))) T6.heap _
   rw [e6]
   exact ⟨_, rfl, Or.inl ⟨rfl, hc8_3, hc22_7⟩, N0, rfl⟩
def t_55 : List (Nat × Instr × Nat) := [(0, .iconst 1, 1), (1, .istore_n 1, 1), (2, .iload_n 1, 1), (3, .aload_n 0, 1), (4, .getfield 29, 3), (7, .if_icmp .gt 36, 3), (10, .iload_n 1, 1), (11, .aload_n 0, 1), (12, .getfield 36, 3), (15, .if_icmp .eq 22, 3), (18, .aload_n 0, 1), (19, .getfield 45, 3), (22, .iload_n 1, 1), (23, .baload, 1), (24, .ifCond .ne 13, 3), (27, .aload_n 0, 1), (28, .iload_n 1, 1), (29, .invokevirtual 80, 3), (32, .ifCond .ne 5, 3), (35, .iconst 0, 1), (36, .ireturn, 1), (37, .iinc 1 1, 3), (40, .goto (-38), 3), (43, .iconst 1, 1), (44, .ireturn, 1)]
theorem q_55 : ∀ i : Fin 25, decode c_55 (gt t_55 i.1).1 = .ok ((gt t_55 i.1).2.1, (gt t_55 i.1).2.2) := by decide +kernel
theorem pd_27 : parseMethodDescriptor "(I)Z" = some ⟨[.int], some .boolean⟩ := by decide +kernel
def Q55 (Z : State) (o0 : Addr) (hS : Heap) (n_ : Int32) (sf_ : Int32) (vi_ : Int64) (up_ : Int64) (g_ : Nat → Int32) (ff_ : Nat → Int64) (h0 : Heap) (n0 : Nat) (v : Option Value) (h : Heap) (L : List Loc) : Prop := ∃ r : Int32, v = some (.int r) ∧ ((r = 1 ∧ ∀ m : Int32, 1 ≤ m.toInt → m.toInt ≤ n_.toInt → okm sf_ up_ g_ ff_ m) ∨ (r = 0 ∧ ∃ m : Int32, 1 ≤ m.toInt ∧ m.toInt ≤ n_.toInt ∧ ¬ (okm sf_ up_ g_ ff_ m))) ∧ Fr n0 L ∧ h = h0
set_option maxRecDepth 65536 in
set_option maxHeartbeats 40000000 in
theorem rm55 (o0 : Addr) (hS : Heap) (n_ : Int32) (sf_ : Int32) (vi_ : Int64) (up_ : Int64) (g_ : Nat → Int32) (ff_ : Nat → Int64) (h0 : Heap) (n0 : Nat) (Z0 : n0 ≤ h0.size) (CE : Cen Z hS h0 o0 n_ sf_ vi_ up_ g_ ff_) (nS : n0 ≤ hS.size) (hn : 1 ≤ n_.toInt ∧ n_.toInt ≤ 4) :
  Mt hw l M_68 (Jvm.Cond.code M_68 c_55 2 (some .boolean)) ws R_1_0_0_13 #[(.ref o0)] h0 (Q55 Z o0 hS n_ sf_ vi_ up_ g_ ff_ h0 n0) := by
 refine ent s_5 rfl hisR fun p e s m below meth c s₁ Bd hx hby hml hown hnm hlk hZ X0 e0 => ?_
 have D := fun i => hb hby (q_55 i)
 have u := hU hw
 have N0 := Fr.nil n0
 rw [ef_16_0]
 obtain ⟨wcr, wvi, ww, wq, wl, mc, ed, xS, gs_c, gs_wcr, gs_wvi, gs_wl, ne_c_wcr, ne_c_wvi, ne_c_wl, ne_wcr_wvi, ne_wcr_wl, ne_wvi_wl, ne_ww_c, ne_ww_wcr, ne_ww_wvi, ne_ww_wl, ne_wq_c, ne_wq_wcr, ne_wq_wvi, ne_wq_wl, E_c, E_ww, E_wq, E_wl, C_nodes, C_tokens, C_self, C_crashed, C_visitedAt, C_waiters, C_queued, C_learnedMidRound, C_visits, C_upToDateFrom, C_onItsWay, W_comparator, W_root, Q_comparator, Q_root, L_size, L_modCount, L_elementData, T_b, T_l⟩ := id CE
 show gO (tF s₁ m 0 #[.val (.ref o0), .unset] [])
 refine giC X0 hx (D 0) ?_
 refine go (XS.istoreN X0.here hx rfl (D 1) rfl (l' := #[.val (.ref o0), .val (.int 1)]) rfl) ?_
 have loop : ∀ (k : Nat) (i_ : Int32) (T_ : State) (lc_ : List Loc), i_.toInt + k = n_.toInt + 1 → 1 ≤ i_.toInt → (∀ m : Int32, 1 ≤ m.toInt → m.toInt < i_.toInt → okm sf_ up_ g_ ff_ m) → Stand p l e R_1_0_0_13 s m #[(.ref o0)] below meth c T_ lc_ 0 0 → T_.heap = h0 → Fr n0 lc_ → Go p e below s (Q55 Z o0 hS n_ sf_ vi_ up_ g_ ff_ h0 n0) 0 0 (T_.setTop (mkF m 2 #[.val (.ref o0), .val (.int i_)] [])) := by
  intro k
  induction k with
  | zero =>
   intro i_ T_ lc_ hk h1 hall X_ e_ N_
   have hd7 : n_ < i_ := by rw [Int32.lt_iff_toInt_lt]; omega
   show gO (tF T_ m 2 #[.val (.ref o0), .val (.int i_)] [])
   refine giN X_ hx (D 2) rfl ?_
   refine gaN X_ hx (D 3) rfl rfl ?_
   obtain ⟨T1, X1, e1, st1⟩ := getF X_ hx hZ hown (host := "") (Or.inl (hW hw 229 rfl)) Via.refl e_ C_nodes (g := (mkF m 4 #[.val (.ref o0), .val (.int i_)] [(.ref o0), (.int i_)])) rfl rfl (D 4)
   refine gob st1 ?_
   refine go (XS.icmpYes X1.here hx rfl (pc0 := 7) (pc' := 43) rfl (D 5) rfl (tlt (hd7 : n_ < i_)).2.2.1 (by decide) (by decide)) ?_
   refine giC X1 hx (D 23) ?_
   refine goZ X1 hx hlk (t := .boolean) Bd.returns (by simp) (D 24) (z' := (1 : Int32)) rfl ?_ (by decide) (by decide)
   show Q55 Z o0 hS n_ sf_ vi_ up_ g_ ff_ h0 n0 (some (.int (1 : Int32))) T1.heap _
   rw [e1]
   exact ⟨_, rfl, Or.inl ⟨rfl, fun m q1 q2 => hall m q1 (by omega)⟩, N_, rfl⟩
  | succ k ih =>
   intro i_ T_ lc_ hk h1 hall X_ e_ N_
   have hd7 : ¬ (n_ < i_) := by rw [Int32.lt_iff_toInt_lt]; omega
   have h5 := own_idx5 (i := i_) (by omega) (by omega)
   have hs := own_inc4 (i := i_) (by omega) (by omega)
   show gO (tF T_ m 2 #[.val (.ref o0), .val (.int i_)] [])
   refine giN X_ hx (D 2) rfl ?_
   refine gaN X_ hx (D 3) rfl rfl ?_
   obtain ⟨T2, X2, e2, st2⟩ := getF X_ hx hZ hown (host := "") (Or.inl (hW hw 229 rfl)) Via.refl e_ C_nodes (g := (mkF m 4 #[.val (.ref o0), .val (.int i_)] [(.ref o0), (.int i_)])) rfl rfl (D 4)
   refine gob st2 ?_
   refine go (XS.icmpNo X2.here hx rfl (D 5) rfl (flt (hd7 : ¬ (n_ < i_))).2.2.1) ?_
   refine giN X2 hx (D 6) rfl ?_
   refine gaN X2 hx (D 7) rfl rfl ?_
   obtain ⟨T3, X3, e3, st3⟩ := getF X2 hx hZ hown (host := "") (Or.inl (hW hw 233 rfl)) Via.refl e2 C_self (g := (mkF m 12 #[.val (.ref o0), .val (.int i_)] [(.ref o0), (.int i_)])) rfl rfl (D 8)
   refine gob st3 ?_
   show gO (tF T3 m 15 #[.val (.ref o0), .val (.int i_)] [(.int sf_), (.int i_)])
   by_cases hc15_4 : i_ = sf_
   ·skip
    refine go (XS.icmpYes X3.here hx rfl (pc0 := 15) (pc' := 37) rfl (D 9) rfl (teq hc15_4).1 (by decide) (by decide)) ?_
    refine go (XS.iinc X3.here hx rfl (D 21) rfl (l' := #[.val (.ref o0), .val (.int (i_ + (1 : Int32)))]) rfl) ?_
    refine go (XS.goto X3.here hx rfl (pc0 := 40) (pc' := 2) rfl (D 22) (by decide) (by decide)) ?_
    exact ih (i_ + (1 : Int32)) _ _ (by omega) (by omega) (own_next hall (Or.inl hc15_4) hs) X3 e3 N_
   ·skip
    refine go (XS.icmpNo X3.here hx rfl (D 9) rfl (feq hc15_4).1) ?_
    refine gaN X3 hx (D 10) rfl rfl ?_
    obtain ⟨T5, X5, e5, st5⟩ := getF X3 hx hZ hown (host := "") (Or.inl (hW hw 244 rfl)) Via.refl e3 C_crashed (g := (mkF m 19 #[.val (.ref o0), .val (.int i_)] [(.ref o0)])) rfl rfl (D 11)
    refine gob st5 ?_
    refine giN X5 hx (D 12) rfl ?_
    obtain ⟨cl6, Ar6, S6, H6⟩ := id T_b
    refine gob (X5.baloadBooleans hx (j := i_) (v := (.int (g_ (i_).toNatClampNeg))) (by rw [e5]; exact Ar6.1) (State.isArrayOf_alike hZ.alike Ar6.2.1) Ar6.2.2 (fun q => q.elim h5.1 (fun q => by rw [S6] at q; exact absurd h5.2 (Nat.not_lt_of_le q))) (H6 _ h5.2) (g := (mkF m 23 #[.val (.ref o0), .val (.int i_)] [(.int i_), (.ref wcr)])) rfl rfl (D 13)) ?_
    show gO (tF T5 m 24 #[.val (.ref o0), .val (.int i_)] [(.int (g_ (i_).toNatClampNeg))])
    by_cases hc24_7 : (g_ (i_).toNatClampNeg) = (0 : Int32)
    ·skip
     refine go (XS.ifNo X5.here hx rfl (D 14) rfl ((if0 _ _).trans (teq hc24_7).2)) ?_
     refine gaN X5 hx (D 15) rfl rfl ?_
     refine giN X5 hx (D 16) rfl ?_
     obtain ⟨cq8, q8, q8'⟩ := E_c.cell
     obtain ⟨_, T8, Lc8, X8, hQ8, st8⟩ := clB X5 (X5.privateBack hx (y := M_67) hown (mvT hZ (u 454)) (mvT hZ (u 455)) (mvT hZ (own_selpriv (y := M_67) (u 194) (u 456) (u 455) (by decide))) (Cond.privateMethod_at (mvP hZ (u 456) (args := #[]))) (mvT hZ (u 457)) (by decide) (backOf (W := 0) (rm57 l Z a0 hw [] o0 i_ hS n_ sf_ vi_ up_ g_ ff_ h0 n0 Z0 CE nS hn ⟨h1, (by omega)⟩) hZ (u 457) (u 195) (by decide) (by decide)) (g := (mkF m 29 #[.val (.ref o0), .val (.int i_)] [(.int i_), (.ref o0)])) rfl (by rw [hml]; rfl) (Steps.refl _) (a := o0) (by rw [e5]; exact q8) q8' (argsL := [(.int i_)]) (rest := []) (lenOf pd_27 rfl) rfl (wk rfl rfl) (D 17) (fun _ _ => ⟨rfl, e5, lD rfl, lD rfl⟩)) (k := 0) (n := 0) rfl rfl
     obtain ⟨r8, rfl, hr8, Nq8, e8⟩ := hQ8
     have N8 := Fr.app N_ Nq8
     refine gob (fun _ k => st8.trans k) ?_
     show gO (tF T8 m 32 #[.val (.ref o0), .val (.int i_)] [(.int r8)])
     by_cases hc32_9 : r8 = (0 : Int32)
     ·skip
      refine go (XS.ifNo X8.here hx rfl (D 18) rfl ((if0 _ _).trans (teq hc32_9).2)) ?_
      refine giC X8 hx (D 19) ?_
      refine goZ X8 hx hlk (t := .boolean) Bd.returns (by simp) (D 20) (z' := (0 : Int32)) rfl ?_ (by decide) (by decide)
      show Q55 Z o0 hS n_ sf_ vi_ up_ g_ ff_ h0 n0 (some (.int (0 : Int32))) T8.heap _
      rw [e8]
      exact ⟨_, rfl, Or.inr ⟨rfl, i_, h1, by omega, fun q => q.elim hc15_4 (fun q => q.elim (fun q => q hc24_7) (fun q => hr8.elim (fun q' => absurd (q'.1.symm.trans hc32_9) (by decide)) (fun q' => q'.2 q)))⟩, N8, rfl⟩
     ·skip
      refine go (XS.ifYes X8.here hx rfl (pc0 := 32) (pc' := 37) rfl (D 18) rfl ((if0 _ _).trans (feq hc32_9).2) (by decide) (by decide)) ?_
      refine go (XS.iinc X8.here hx rfl (D 21) rfl (l' := #[.val (.ref o0), .val (.int (i_ + (1 : Int32)))]) rfl) ?_
      refine go (XS.goto X8.here hx rfl (pc0 := 40) (pc' := 2) rfl (D 22) (by decide) (by decide)) ?_
      exact ih (i_ + (1 : Int32)) _ _ (by omega) (by omega) (own_next hall (Or.inr (Or.inr (hr8.elim (fun q => q.2) (fun q => absurd q.1 hc32_9)))) hs) X8 e8 N8
    ·skip
     refine go (XS.ifYes X5.here hx rfl (pc0 := 24) (pc' := 37) rfl (D 14) rfl ((if0 _ _).trans (feq hc24_7).2) (by decide) (by decide)) ?_
     refine go (XS.iinc X5.here hx rfl (D 21) rfl (l' := #[.val (.ref o0), .val (.int (i_ + (1 : Int32)))]) rfl) ?_
     refine go (XS.goto X5.here hx rfl (pc0 := 40) (pc' := 2) rfl (D 22) (by decide) (by decide)) ?_
     exact ih (i_ + (1 : Int32)) _ _ (by omega) (by omega) (own_next hall (Or.inr (Or.inl hc24_7)) hs) X5 e5 N_
 exact loop n_.toInt.toNat (1 : Int32) _ _ (by have : (1 : Int32).toInt = 1 := (by decide); omega) (by decide) (fun m h1 h2 => absurd h2 (by have : (1 : Int32).toInt = 1 := (by decide); omega)) X0 e0 N0
def t_56 : List (Nat × Instr × Nat) := [(0, .iload_n 0, 1), (1, .iload_n 1, 1), (2, .if_icmp .gt 8, 3), (5, .iload_n 0, 1), (6, .iload_n 2, 1), (7, .if_icmp .ne 5, 3), (10, .iconst 1, 1), (11, .ireturn, 1), (12, .iload_n 3, 1), (13, .iload_n 0, 1), (14, .ishr, 1), (15, .iconst 1, 1), (16, .iand, 1), (17, .ifCond .eq 5, 3), (20, .iconst 1, 1), (21, .ireturn, 1), (22, .iconst (-1), 1), (23, .istore 8, 2), (25, .iload 4, 2), (27, .iload_n 0, 1), (28, .iconst 1, 1), (29, .isub, 1), (30, .ishr, 1), (31, .iconst 1, 1), (32, .iand, 1), (33, .ifCond .eq 18, 3), (36, .iload 4, 2), (38, .iconst 1, 1), (39, .iload_n 0, 1), (40, .iconst 1, 1), (41, .isub, 1), (42, .ishl, 1), (43, .iconst 1, 1), (44, .isub, 1), (45, .iand, 1), (46, .invokestatic 8, 3), (49, .istore 8, 2), (51, .iload 5, 2), (53, .iload_n 0, 1), (54, .iconst 1, 1), (55, .isub, 1), (56, .ishr, 1), (57, .iconst 1, 1), (58, .iand, 1), (59, .ifCond .eq 21, 3), (62, .iload 6, 2), (64, .iload 5, 2), (66, .iconst 1, 1), (67, .iload_n 0, 1), (68, .iconst 1, 1), (69, .isub, 1), (70, .ishl, 1), (71, .iconst 1, 1), (72, .isub, 1), (73, .iand, 1), (74, .invokestatic 8, 3), (77, .iadd, 1), (78, .istore 8, 2), (80, .iload 8, 2), (82, .ifCond .lt 14, 3), (85, .iload 8, 2), (87, .iload 7, 2), (89, .if_icmp .lt 7, 3), (92, .iconst 1, 1), (93, .goto 4, 3), (96, .iconst 0, 1), (97, .ireturn, 1)]
theorem q_56 : ∀ i : Fin 67, decode c_56 (gt t_56 i.1).1 = .ok ((gt t_56 i.1).2.1, (gt t_56 i.1).2.2) := by decide +kernel
theorem pd_28 : parseMethodDescriptor "(I)I" = some ⟨[.int], some .int⟩ := by decide +kernel
theorem ef_56 (m : MethodId) (x0 : Int32) (x1 : Int32) (x2 : Int32) (x3 : Int32) (x4 : Int32) (x5 : Int32) (x6 : Int32) (x7 : Int32) : entryFrame m #[(.int x0), (.int x1), (.int x2), (.int x3), (.int x4), (.int x5), (.int x6), (.int x7)] 9 = mkF m 0 #[.val (.int x0), .val (.int x1), .val (.int x2), .val (.int x3), .val (.int x4), .val (.int x5), .val (.int x6), .val (.int x7), .unset] [] := by first | (simp [entryFrame, mkF, argsToLocals, Value.category]; done) | rfl
def f_56 (p0 : Int32) (p1 : Int32) (p2 : Int32) (p3 : Int32) (p4 : Int32) (p5 : Int32) (p6 : Int32) (p7 : Int32) : Int32 := (if p1 < p0 then (1 : Int32) else (if p0 = p2 then (1 : Int32) else (if ((p3 >>> (p0 &&& 31)) &&& (1 : Int32)) = (0 : Int32) then (if ((p4 >>> ((p0 - (1 : Int32)) &&& 31)) &&& (1 : Int32)) = (0 : Int32) then (if ((p5 >>> ((p0 - (1 : Int32)) &&& 31)) &&& (1 : Int32)) = (0 : Int32) then (0 : Int32) else (if (p6 + (f_1 (p5 &&& (((1 : Int32) <<< ((p0 - (1 : Int32)) &&& 31)) - (1 : Int32))))) < (0 : Int32) then (0 : Int32) else (if (p6 + (f_1 (p5 &&& (((1 : Int32) <<< ((p0 - (1 : Int32)) &&& 31)) - (1 : Int32))))) < p7 then (0 : Int32) else (1 : Int32)))) else (if ((p5 >>> ((p0 - (1 : Int32)) &&& 31)) &&& (1 : Int32)) = (0 : Int32) then (if (f_1 (p4 &&& (((1 : Int32) <<< ((p0 - (1 : Int32)) &&& 31)) - (1 : Int32)))) < (0 : Int32) then (0 : Int32) else (if (f_1 (p4 &&& (((1 : Int32) <<< ((p0 - (1 : Int32)) &&& 31)) - (1 : Int32)))) < p7 then (0 : Int32) else (1 : Int32))) else (if (p6 + (f_1 (p5 &&& (((1 : Int32) <<< ((p0 - (1 : Int32)) &&& 31)) - (1 : Int32))))) < (0 : Int32) then (0 : Int32) else (if (p6 + (f_1 (p5 &&& (((1 : Int32) <<< ((p0 - (1 : Int32)) &&& 31)) - (1 : Int32))))) < p7 then (0 : Int32) else (1 : Int32))))) else (1 : Int32))))
def Q56 (Z : State) (p0 : Int32) (p1 : Int32) (p2 : Int32) (p3 : Int32) (p4 : Int32) (p5 : Int32) (p6 : Int32) (p7 : Int32) (h0 : Heap) (n0 : Nat) (v : Option Value) (h : Heap) (L : List Loc) : Prop := v = some (.int (f_56 p0 p1 p2 p3 p4 p5 p6 p7)) ∧ Fr n0 L ∧ h = h0
set_option maxRecDepth 65536 in
set_option maxHeartbeats 40000000 in
theorem rm56 (p0 : Int32) (p1 : Int32) (p2 : Int32) (p3 : Int32) (p4 : Int32) (p5 : Int32) (p6 : Int32) (p7 : Int32) (h0 : Heap) (n0 : Nat) (Z0 : n0 ≤ h0.size) :
  Mt hw l M_69 (Jvm.Cond.code M_69 c_56 9 (some .boolean)) ws R_1_0_0_13 #[(.int p0), (.int p1), (.int p2), (.int p3), (.int p4), (.int p5), (.int p6), (.int p7)] h0 (Q56 Z p0 p1 p2 p3 p4 p5 p6 p7 h0 n0) := by
 refine ent s_42 rfl hisR fun p e s m below meth c s₁ Bd hx hby hml hown hnm hlk hZ X0 e0 => ?_
 have D := fun i => hb hby (q_56 i)
 have u := hU hw
 have N0 := Fr.nil n0
 rw [ef_56]
 show gO (tF s₁ m 0 (la9 p0 p1 p2 p3 p4 p5 p6 p7) [])
 refine giN X0 hx (D 0) rfl ?_
 refine giN X0 hx (D 1) rfl ?_
 show gO (tF s₁ m 2 (la9 p0 p1 p2 p3 p4 p5 p6 p7) [(.int p1), (.int p0)])
 by_cases hc2_1 : p1 < p0
 ·skip
  refine go (XS.icmpYes X0.here hx rfl (pc0 := 2) (pc' := 10) rfl (D 2) rfl (tlt hc2_1).2.2.1 (by decide) (by decide)) ?_
  refine giC X0 hx (D 6) ?_
  refine goZ X0 hx hlk (t := .boolean) Bd.returns (by simp) (D 7) (z' := (1 : Int32)) rfl ?_ (by decide) (by decide)
  show Q56 Z p0 p1 p2 p3 p4 p5 p6 p7 h0 n0 (some (.int (1 : Int32))) s₁.heap _
  exact ⟨(congrArg (fun z => some (Value.int z)) (Eq.symm (if_pos hc2_1))), N0, e0⟩
 ·skip
  refine go (XS.icmpNo X0.here hx rfl (D 2) rfl (flt hc2_1).2.2.1) ?_
  refine giN X0 hx (D 3) rfl ?_
  refine giN X0 hx (D 4) rfl ?_
  show gO (tF s₁ m 7 (la9 p0 p1 p2 p3 p4 p5 p6 p7) [(.int p2), (.int p0)])
  by_cases hc7_2 : p0 = p2
  ·skip
   refine go (XS.icmpNo X0.here hx rfl (D 5) rfl (teq hc7_2).2) ?_
   refine giC X0 hx (D 6) ?_
   refine goZ X0 hx hlk (t := .boolean) Bd.returns (by simp) (D 7) (z' := (1 : Int32)) rfl ?_ (by decide) (by decide)
   show Q56 Z p0 p1 p2 p3 p4 p5 p6 p7 h0 n0 (some (.int (1 : Int32))) s₁.heap _
   exact ⟨(congrArg (fun z => some (Value.int z)) (Eq.symm ((if_neg hc2_1).trans (if_pos hc7_2)))), N0, e0⟩
  ·skip
   refine go (XS.icmpYes X0.here hx rfl (pc0 := 7) (pc' := 12) rfl (D 5) rfl (feq hc7_2).2 (by decide) (by decide)) ?_
   refine giN X0 hx (D 8) rfl ?_
   refine giN X0 hx (D 9) rfl ?_
   refine go (XS.ishr X0.here hx rfl (D 10) rfl) ?_
   refine giC X0 hx (D 11) ?_
   refine go (XS.iand X0.here hx rfl (D 12) rfl) ?_
   show gO (tF s₁ m 17 (la9 p0 p1 p2 p3 p4 p5 p6 p7) [(.int ((p3 >>> (p0 &&& 31)) &&& (1 : Int32)))])
   by_cases hc17_3 : ((p3 >>> (p0 &&& 31)) &&& (1 : Int32)) = (0 : Int32)
   ·skip
    refine go (XS.ifYes X0.here hx rfl (pc0 := 17) (pc' := 22) rfl (D 13) rfl ((if0 _ _).trans (teq hc17_3).1) (by decide) (by decide)) ?_
    refine giC X0 hx (D 16) ?_
    refine go (XS.istore X0.here hx rfl (D 17) rfl (l' := (la10 p0 p1 p2 p3 p4 p5 p6 p7 (-1))) rfl) ?_
    refine giM X0 hx (D 18) rfl ?_
    refine giN X0 hx (D 19) rfl ?_
    refine giC X0 hx (D 20) ?_
    refine go (XS.isub X0.here hx rfl (D 21) rfl) ?_
    refine go (XS.ishr X0.here hx rfl (D 22) rfl) ?_
    refine giC X0 hx (D 23) ?_
    show gO (tF s₁ m 32 (la10 p0 p1 p2 p3 p4 p5 p6 p7 (-1)) [(.int 1), (.int (p4 >>> ((p0 - (1 : Int32)) &&& 31)))])
    refine go (XS.iand X0.here hx rfl (D 24) rfl) ?_
    show gO (tF s₁ m 33 (la10 p0 p1 p2 p3 p4 p5 p6 p7 (-1)) [(.int ((p4 >>> ((p0 - (1 : Int32)) &&& 31)) &&& (1 : Int32)))])
    by_cases hc33_4 : ((p4 >>> ((p0 - (1 : Int32)) &&& 31)) &&& (1 : Int32)) = (0 : Int32)
    ·skip
     refine go (XS.ifYes X0.here hx rfl (pc0 := 33) (pc' := 51) rfl (D 25) rfl ((if0 _ _).trans (teq hc33_4).1) (by decide) (by decide)) ?_
     refine giM X0 hx (D 37) rfl ?_
     refine giN X0 hx (D 38) rfl ?_
     refine giC X0 hx (D 39) ?_
     refine go (XS.isub X0.here hx rfl (D 40) rfl) ?_
     refine go (XS.ishr X0.here hx rfl (D 41) rfl) ?_
     refine giC X0 hx (D 42) ?_
     refine go (XS.iand X0.here hx rfl (D 43) rfl) ?_
     show gO (tF s₁ m 59 (la10 p0 p1 p2 p3 p4 p5 p6 p7 (-1)) [(.int ((p5 >>> ((p0 - (1 : Int32)) &&& 31)) &&& (1 : Int32)))])
     by_cases hc59_5 : ((p5 >>> ((p0 - (1 : Int32)) &&& 31)) &&& (1 : Int32)) = (0 : Int32)
     ·skip
      refine go (XS.ifYes X0.here hx rfl (pc0 := 59) (pc' := 80) rfl (D 44) rfl ((if0 _ _).trans (teq hc59_5).1) (by decide) (by decide)) ?_
      refine giM X0 hx (D 58) rfl ?_
      refine go (XS.ifYes X0.here hx rfl (pc0 := 82) (pc' := 96) rfl (D 59) rfl ((if0 _ _).trans (tlt (by decide : (-1 : Int32) < (0 : Int32))).1) (by decide) (by decide)) ?_
      refine giC X0 hx (D 65) ?_
      refine goZ X0 hx hlk (t := .boolean) Bd.returns (by simp) (D 66) (z' := (0 : Int32)) rfl ?_ (by decide) (by decide)
      show Q56 Z p0 p1 p2 p3 p4 p5 p6 p7 h0 n0 (some (.int (0 : Int32))) s₁.heap _
      exact ⟨(congrArg (fun z => some (Value.int z)) (Eq.symm ((if_neg hc2_1).trans ((if_neg hc7_2).trans ((if_pos hc17_3).trans ((if_pos hc33_4).trans (if_pos hc59_5))))))), N0, e0⟩
     ·skip
      refine go (XS.ifNo X0.here hx rfl (D 44) rfl ((if0 _ _).trans (feq hc59_5).1)) ?_
      refine giM X0 hx (D 45) rfl ?_
      refine giM X0 hx (D 46) rfl ?_
      refine giC X0 hx (D 47) ?_
      refine giN X0 hx (D 48) rfl ?_
      show gO (tF s₁ m 68 (la10 p0 p1 p2 p3 p4 p5 p6 p7 (-1)) [(.int p0), (.int 1), (.int p5), (.int p6)])
      refine giC X0 hx (D 49) ?_
      refine go (XS.isub X0.here hx rfl (D 50) rfl) ?_
      refine go (XS.ishl X0.here hx rfl (D 51) rfl) ?_
      refine giC X0 hx (D 52) ?_
      refine go (XS.isub X0.here hx rfl (D 53) rfl) ?_
      refine go (XS.iand X0.here hx rfl (D 54) rfl) ?_
      obtain ⟨_, T6, Lc6, X6, hQ6, st6⟩ := clS X0 (Jvm.LawKit.callS X0 hx (y := M_0) hown (mvT hZ (u 1)) (mvT hZ (u 2)) (mvT hZ (u 3)) (mvT hZ (u 4)) (by decide) (backOf (W := 1) (rm1 l Z a0 hw [] (p5 &&& (((1 : Int32) <<< ((p0 - (1 : Int32)) &&& 31)) - (1 : Int32))) h0 n0 Z0 ) hZ (u 4) (u 3) (by decide) (by decide)) (g := (mkF m 74 (la10 p0 p1 p2 p3 p4 p5 p6 p7 (-1)) [(.int (p5 &&& (((1 : Int32) <<< ((p0 - (1 : Int32)) &&& 31)) - (1 : Int32)))), (.int p6)])) rfl (by rw [hml]; rfl) (argsL := [(.int (p5 &&& (((1 : Int32) <<< ((p0 - (1 : Int32)) &&& 31)) - (1 : Int32))))]) (rest := [(.int p6)]) (lenOf pd_28 rfl) rfl (wk rfl rfl) (D 55) (fun _ _ => ⟨rfl, e0, lD rfl, lD rfl⟩)) (k := 0) (n := 0) rfl rfl
      obtain ⟨rfl, Nq6, e6⟩ := hQ6
      have N6 := Fr.app N0 Nq6
      refine gob st6 ?_
      refine go (XS.iadd X6.here hx rfl (D 56) rfl) ?_
      refine go (XS.istore X6.here hx rfl (D 57) rfl (l' := (la10 p0 p1 p2 p3 p4 p5 p6 p7 (p6 + (f_1 (p5 &&& (((1 : Int32) <<< ((p0 - (1 : Int32)) &&& 31)) - (1 : Int32))))))) rfl) ?_
      show gO (tF T6 m 80 (la10 p0 p1 p2 p3 p4 p5 p6 p7 (p6 + (f_1 (p5 &&& (((1 : Int32) <<< ((p0 - (1 : Int32)) &&& 31)) - (1 : Int32)))))) [])
      refine giM X6 hx (D 58) rfl ?_
      show gO (tF T6 m 82 (la10 p0 p1 p2 p3 p4 p5 p6 p7 (p6 + (f_1 (p5 &&& (((1 : Int32) <<< ((p0 - (1 : Int32)) &&& 31)) - (1 : Int32)))))) [(.int (p6 + (f_1 (p5 &&& (((1 : Int32) <<< ((p0 - (1 : Int32)) &&& 31)) - (1 : Int32))))))])
      by_cases hc82_7 : (p6 + (f_1 (p5 &&& (((1 : Int32) <<< ((p0 - (1 : Int32)) &&& 31)) - (1 : Int32))))) < (0 : Int32)
      ·skip
       refine go (XS.ifYes X6.here hx rfl (pc0 := 82) (pc' := 96) rfl (D 59) rfl ((if0 _ _).trans (tlt hc82_7).1) (by decide) (by decide)) ?_
       refine giC X6 hx (D 65) ?_
       refine goZ X6 hx hlk (t := .boolean) Bd.returns (by simp) (D 66) (z' := (0 : Int32)) rfl ?_ (by decide) (by decide)
       show Q56 Z p0 p1 p2 p3 p4 p5 p6 p7 h0 n0 (some (.int (0 : Int32))) T6.heap _
       exact ⟨(congrArg (fun z => some (Value.int z)) (Eq.symm ((if_neg hc2_1).trans ((if_neg hc7_2).trans ((if_pos hc17_3).trans ((if_pos hc33_4).trans ((if_neg hc59_5).trans (if_pos hc82_7)))))))), N6, e6⟩
      ·skip
       refine go (XS.ifNo X6.here hx rfl (D 59) rfl ((if0 _ _).trans (flt hc82_7).1)) ?_
       refine giM X6 hx (D 60) rfl ?_
       refine giM X6 hx (D 61) rfl ?_
       show gO (tF T6 m 89 (la10 p0 p1 p2 p3 p4 p5 p6 p7 (p6 + (f_1 (p5 &&& (((1 : Int32) <<< ((p0 - (1 : Int32)) &&& 31)) - (1 : Int32)))))) [(.int p7), (.int (p6 + (f_1 (p5 &&& (((1 : Int32) <<< ((p0 - (1 : Int32)) &&& 31)) - (1 : Int32))))))])
       by_cases hc89_8 : (p6 + (f_1 (p5 &&& (((1 : Int32) <<< ((p0 - (1 : Int32)) &&& 31)) - (1 : Int32))))) < p7
       ·skip
        refine go (XS.icmpYes X6.here hx rfl (pc0 := 89) (pc' := 96) rfl (D 62) rfl (tlt hc89_8).1 (by decide) (by decide)) ?_
        refine giC X6 hx (D 65) ?_
        refine goZ X6 hx hlk (t := .boolean) Bd.returns (by simp) (D 66) (z' := (0 : Int32)) rfl ?_ (by decide) (by decide)
        show Q56 Z p0 p1 p2 p3 p4 p5 p6 p7 h0 n0 (some (.int (0 : Int32))) T6.heap _
        exact ⟨(congrArg (fun z => some (Value.int z)) (Eq.symm ((if_neg hc2_1).trans ((if_neg hc7_2).trans ((if_pos hc17_3).trans ((if_pos hc33_4).trans ((if_neg hc59_5).trans ((if_neg hc82_7).trans (if_pos hc89_8))))))))), N6, e6⟩
       ·skip
        refine go (XS.icmpNo X6.here hx rfl (D 62) rfl (flt hc89_8).1) ?_
        refine giC X6 hx (D 63) ?_
        refine go (XS.goto X6.here hx rfl (pc0 := 93) (pc' := 97) rfl (D 64) (by decide) (by decide)) ?_
        refine goZ X6 hx hlk (t := .boolean) Bd.returns (by simp) (D 66) (z' := (1 : Int32)) rfl ?_ (by decide) (by decide)
        show Q56 Z p0 p1 p2 p3 p4 p5 p6 p7 h0 n0 (some (.int (1 : Int32))) T6.heap _
        exact ⟨(congrArg (fun z => some (Value.int z)) (Eq.symm ((if_neg hc2_1).trans ((if_neg hc7_2).trans ((if_pos hc17_3).trans ((if_pos hc33_4).trans ((if_neg hc59_5).trans ((if_neg hc82_7).trans (if_neg hc89_8))))))))), N6, e6⟩
    ·skip
     refine go (XS.ifNo X0.here hx rfl (D 25) rfl ((if0 _ _).trans (feq hc33_4).1)) ?_
     refine giM X0 hx (D 26) rfl ?_
     refine giC X0 hx (D 27) ?_
     refine giN X0 hx (D 28) rfl ?_
     show gO (tF s₁ m 40 (la10 p0 p1 p2 p3 p4 p5 p6 p7 (-1)) [(.int p0), (.int 1), (.int p4)])
     refine giC X0 hx (D 29) ?_
     refine go (XS.isub X0.here hx rfl (D 30) rfl) ?_
     refine go (XS.ishl X0.here hx rfl (D 31) rfl) ?_
     refine giC X0 hx (D 32) ?_
     refine go (XS.isub X0.here hx rfl (D 33) rfl) ?_
     refine go (XS.iand X0.here hx rfl (D 34) rfl) ?_
     obtain ⟨_, T9, Lc9, X9, hQ9, st9⟩ := clS X0 (Jvm.LawKit.callS X0 hx (y := M_0) hown (mvT hZ (u 1)) (mvT hZ (u 2)) (mvT hZ (u 3)) (mvT hZ (u 4)) (by decide) (backOf (W := 0) (rm1 l Z a0 hw [] (p4 &&& (((1 : Int32) <<< ((p0 - (1 : Int32)) &&& 31)) - (1 : Int32))) h0 n0 Z0 ) hZ (u 4) (u 3) (by decide) (by decide)) (g := (mkF m 46 (la10 p0 p1 p2 p3 p4 p5 p6 p7 (-1)) [(.int (p4 &&& (((1 : Int32) <<< ((p0 - (1 : Int32)) &&& 31)) - (1 : Int32))))])) rfl (by rw [hml]; rfl) (argsL := [(.int (p4 &&& (((1 : Int32) <<< ((p0 - (1 : Int32)) &&& 31)) - (1 : Int32))))]) (rest := []) (lenOf pd_28 rfl) rfl (wk rfl rfl) (D 35) (fun _ _ => ⟨rfl, e0, lD rfl, lD rfl⟩)) (k := 0) (n := 0) rfl rfl
     obtain ⟨rfl, Nq9, e9⟩ := hQ9
     have N9 := Fr.app N0 Nq9
     refine gob st9 ?_
     refine go (XS.istore X9.here hx rfl (D 36) rfl (l' := (la10 p0 p1 p2 p3 p4 p5 p6 p7 (f_1 (p4 &&& (((1 : Int32) <<< ((p0 - (1 : Int32)) &&& 31)) - (1 : Int32)))))) rfl) ?_
     refine giM X9 hx (D 37) rfl ?_
     show gO (tF T9 m 53 (la10 p0 p1 p2 p3 p4 p5 p6 p7 (f_1 (p4 &&& (((1 : Int32) <<< ((p0 - (1 : Int32)) &&& 31)) - (1 : Int32))))) [(.int p5)])
     refine giN X9 hx (D 38) rfl ?_
     refine giC X9 hx (D 39) ?_
     refine go (XS.isub X9.here hx rfl (D 40) rfl) ?_
     refine go (XS.ishr X9.here hx rfl (D 41) rfl) ?_
     refine giC X9 hx (D 42) ?_
     refine go (XS.iand X9.here hx rfl (D 43) rfl) ?_
     show gO (tF T9 m 59 (la10 p0 p1 p2 p3 p4 p5 p6 p7 (f_1 (p4 &&& (((1 : Int32) <<< ((p0 - (1 : Int32)) &&& 31)) - (1 : Int32))))) [(.int ((p5 >>> ((p0 - (1 : Int32)) &&& 31)) &&& (1 : Int32)))])
     by_cases hc59_10 : ((p5 >>> ((p0 - (1 : Int32)) &&& 31)) &&& (1 : Int32)) = (0 : Int32)
     ·skip
      refine go (XS.ifYes X9.here hx rfl (pc0 := 59) (pc' := 80) rfl (D 44) rfl ((if0 _ _).trans (teq hc59_10).1) (by decide) (by decide)) ?_
      refine giM X9 hx (D 58) rfl ?_
      show gO (tF T9 m 82 (la10 p0 p1 p2 p3 p4 p5 p6 p7 (f_1 (p4 &&& (((1 : Int32) <<< ((p0 - (1 : Int32)) &&& 31)) - (1 : Int32))))) [(.int (f_1 (p4 &&& (((1 : Int32) <<< ((p0 - (1 : Int32)) &&& 31)) - (1 : Int32)))))])
      by_cases hc82_11 : (f_1 (p4 &&& (((1 : Int32) <<< ((p0 - (1 : Int32)) &&& 31)) - (1 : Int32)))) < (0 : Int32)
      ·skip
       refine go (XS.ifYes X9.here hx rfl (pc0 := 82) (pc' := 96) rfl (D 59) rfl ((if0 _ _).trans (tlt hc82_11).1) (by decide) (by decide)) ?_
       refine giC X9 hx (D 65) ?_
       refine goZ X9 hx hlk (t := .boolean) Bd.returns (by simp) (D 66) (z' := (0 : Int32)) rfl ?_ (by decide) (by decide)
       show Q56 Z p0 p1 p2 p3 p4 p5 p6 p7 h0 n0 (some (.int (0 : Int32))) T9.heap _
       exact ⟨(congrArg (fun z => some (Value.int z)) (Eq.symm ((if_neg hc2_1).trans ((if_neg hc7_2).trans ((if_pos hc17_3).trans ((if_neg hc33_4).trans ((if_pos hc59_10).trans (if_pos hc82_11)))))))), N9, e9⟩
      ·skip
       refine go (XS.ifNo X9.here hx rfl (D 59) rfl ((if0 _ _).trans (flt hc82_11).1)) ?_
       refine giM X9 hx (D 60) rfl ?_
       refine giM X9 hx (D 61) rfl ?_
       show gO (tF T9 m 89 (la10 p0 p1 p2 p3 p4 p5 p6 p7 (f_1 (p4 &&& (((1 : Int32) <<< ((p0 - (1 : Int32)) &&& 31)) - (1 : Int32))))) [(.int p7), (.int (f_1 (p4 &&& (((1 : Int32) <<< ((p0 - (1 : Int32)) &&& 31)) - (1 : Int32)))))])
       by_cases hc89_12 : (f_1 (p4 &&& (((1 : Int32) <<< ((p0 - (1 : Int32)) &&& 31)) - (1 : Int32)))) < p7
       ·skip
        refine go (XS.icmpYes X9.here hx rfl (pc0 := 89) (pc' := 96) rfl (D 62) rfl (tlt hc89_12).1 (by decide) (by decide)) ?_
        refine giC X9 hx (D 65) ?_
        refine goZ X9 hx hlk (t := .boolean) Bd.returns (by simp) (D 66) (z' := (0 : Int32)) rfl ?_ (by decide) (by decide)
        show Q56 Z p0 p1 p2 p3 p4 p5 p6 p7 h0 n0 (some (.int (0 : Int32))) T9.heap _
        exact ⟨(congrArg (fun z => some (Value.int z)) (Eq.symm ((if_neg hc2_1).trans ((if_neg hc7_2).trans ((if_pos hc17_3).trans ((if_neg hc33_4).trans ((if_pos hc59_10).trans ((if_neg hc82_11).trans (if_pos hc89_12))))))))), N9, e9⟩
       ·skip
        refine go (XS.icmpNo X9.here hx rfl (D 62) rfl (flt hc89_12).1) ?_
        refine giC X9 hx (D 63) ?_
        refine go (XS.goto X9.here hx rfl (pc0 := 93) (pc' := 97) rfl (D 64) (by decide) (by decide)) ?_
        refine goZ X9 hx hlk (t := .boolean) Bd.returns (by simp) (D 66) (z' := (1 : Int32)) rfl ?_ (by decide) (by decide)
        show Q56 Z p0 p1 p2 p3 p4 p5 p6 p7 h0 n0 (some (.int (1 : Int32))) T9.heap _
        exact ⟨(congrArg (fun z => some (Value.int z)) (Eq.symm ((if_neg hc2_1).trans ((if_neg hc7_2).trans ((if_pos hc17_3).trans ((if_neg hc33_4).trans ((if_pos hc59_10).trans ((if_neg hc82_11).trans (if_neg hc89_12))))))))), N9, e9⟩
     ·skip
      refine go (XS.ifNo X9.here hx rfl (D 44) rfl ((if0 _ _).trans (feq hc59_10).1)) ?_
      refine giM X9 hx (D 45) rfl ?_
      refine giM X9 hx (D 46) rfl ?_
      refine giC X9 hx (D 47) ?_
      show gO (tF T9 m 67 (la10 p0 p1 p2 p3 p4 p5 p6 p7 (f_1 (p4 &&& (((1 : Int32) <<< ((p0 - (1 : Int32)) &&& 31)) - (1 : Int32))))) [(.int 1), (.int p5), (.int p6)])
      refine giN X9 hx (D 48) rfl ?_
      refine giC X9 hx (D 49) ?_
      refine go (XS.isub X9.here hx rfl (D 50) rfl) ?_
      refine go (XS.ishl X9.here hx rfl (D 51) rfl) ?_
      refine giC X9 hx (D 52) ?_
      refine go (XS.isub X9.here hx rfl (D 53) rfl) ?_
      refine go (XS.iand X9.here hx rfl (D 54) rfl) ?_
      obtain ⟨_, T13, Lc13, X13, hQ13, st13⟩ := clS X9 (Jvm.LawKit.callS X9 hx (y := M_0) hown (mvT hZ (u 1)) (mvT hZ (u 2)) (mvT hZ (u 3)) (mvT hZ (u 4)) (by decide) (backOf (W := 1) (rm1 l Z a0 hw [] (p5 &&& (((1 : Int32) <<< ((p0 - (1 : Int32)) &&& 31)) - (1 : Int32))) h0 n0 Z0 ) hZ (u 4) (u 3) (by decide) (by decide)) (g := (mkF m 74 (la10 p0 p1 p2 p3 p4 p5 p6 p7 (f_1 (p4 &&& (((1 : Int32) <<< ((p0 - (1 : Int32)) &&& 31)) - (1 : Int32))))) [(.int (p5 &&& (((1 : Int32) <<< ((p0 - (1 : Int32)) &&& 31)) - (1 : Int32)))), (.int p6)])) rfl (by rw [hml]; rfl) (argsL := [(.int (p5 &&& (((1 : Int32) <<< ((p0 - (1 : Int32)) &&& 31)) - (1 : Int32))))]) (rest := [(.int p6)]) (lenOf pd_28 rfl) rfl (wk rfl rfl) (D 55) (fun _ _ => ⟨rfl, e9, lD rfl, lD rfl⟩)) (k := 0) (n := 0) rfl rfl
      obtain ⟨rfl, Nq13, e13⟩ := hQ13
      have N13 := Fr.app N9 Nq13
      refine gob st13 ?_
      refine go (XS.iadd X13.here hx rfl (D 56) rfl) ?_
      show gO (tF T13 m 78 (la10 p0 p1 p2 p3 p4 p5 p6 p7 (f_1 (p4 &&& (((1 : Int32) <<< ((p0 - (1 : Int32)) &&& 31)) - (1 : Int32))))) [(.int (p6 + (f_1 (p5 &&& (((1 : Int32) <<< ((p0 - (1 : Int32)) &&& 31)) - (1 : Int32))))))])
      refine go (XS.istore X13.here hx rfl (D 57) rfl (l' := (la10 p0 p1 p2 p3 p4 p5 p6 p7 (p6 + (f_1 (p5 &&& (((1 : Int32) <<< ((p0 - (1 : Int32)) &&& 31)) - (1 : Int32))))))) rfl) ?_
      refine giM X13 hx (D 58) rfl ?_
      show gO (tF T13 m 82 (la10 p0 p1 p2 p3 p4 p5 p6 p7 (p6 + (f_1 (p5 &&& (((1 : Int32) <<< ((p0 - (1 : Int32)) &&& 31)) - (1 : Int32)))))) [(.int (p6 + (f_1 (p5 &&& (((1 : Int32) <<< ((p0 - (1 : Int32)) &&& 31)) - (1 : Int32))))))])
      by_cases hc82_14 : (p6 + (f_1 (p5 &&& (((1 : Int32) <<< ((p0 - (1 : Int32)) &&& 31)) - (1 : Int32))))) < (0 : Int32)
      ·skip
       refine go (XS.ifYes X13.here hx rfl (pc0 := 82) (pc' := 96) rfl (D 59) rfl ((if0 _ _).trans (tlt hc82_14).1) (by decide) (by decide)) ?_
       refine giC X13 hx (D 65) ?_
       refine goZ X13 hx hlk (t := .boolean) Bd.returns (by simp) (D 66) (z' := (0 : Int32)) rfl ?_ (by decide) (by decide)
       show Q56 Z p0 p1 p2 p3 p4 p5 p6 p7 h0 n0 (some (.int (0 : Int32))) T13.heap _
       exact ⟨(congrArg (fun z => some (Value.int z)) (Eq.symm ((if_neg hc2_1).trans ((if_neg hc7_2).trans ((if_pos hc17_3).trans ((if_neg hc33_4).trans ((if_neg hc59_10).trans (if_pos hc82_14)))))))), N13, e13⟩
      ·skip
       refine go (XS.ifNo X13.here hx rfl (D 59) rfl ((if0 _ _).trans (flt hc82_14).1)) ?_
       refine giM X13 hx (D 60) rfl ?_
       refine giM X13 hx (D 61) rfl ?_
       show gO (tF T13 m 89 (la10 p0 p1 p2 p3 p4 p5 p6 p7 (p6 + (f_1 (p5 &&& (((1 : Int32) <<< ((p0 - (1 : Int32)) &&& 31)) - (1 : Int32)))))) [(.int p7), (.int (p6 + (f_1 (p5 &&& (((1 : Int32) <<< ((p0 - (1 : Int32)) &&& 31)) - (1 : Int32))))))])
       by_cases hc89_15 : (p6 + (f_1 (p5 &&& (((1 : Int32) <<< ((p0 - (1 : Int32)) &&& 31)) - (1 : Int32))))) < p7
       ·skip
        refine go (XS.icmpYes X13.here hx rfl (pc0 := 89) (pc' := 96) rfl (D 62) rfl (tlt hc89_15).1 (by decide) (by decide)) ?_
        refine giC X13 hx (D 65) ?_
        refine goZ X13 hx hlk (t := .boolean) Bd.returns (by simp) (D 66) (z' := (0 : Int32)) rfl ?_ (by decide) (by decide)
        show Q56 Z p0 p1 p2 p3 p4 p5 p6 p7 h0 n0 (some (.int (0 : Int32))) T13.heap _
        exact ⟨(congrArg (fun z => some (Value.int z)) (Eq.symm ((if_neg hc2_1).trans ((if_neg hc7_2).trans ((if_pos hc17_3).trans ((if_neg hc33_4).trans ((if_neg hc59_10).trans ((if_neg hc82_14).trans (if_pos hc89_15))))))))), N13, e13⟩
       ·skip
        refine go (XS.icmpNo X13.here hx rfl (D 62) rfl (flt hc89_15).1) ?_
        refine giC X13 hx (D 63) ?_
        refine go (XS.goto X13.here hx rfl (pc0 := 93) (pc' := 97) rfl (D 64) (by decide) (by decide)) ?_
        refine goZ X13 hx hlk (t := .boolean) Bd.returns (by simp) (D 66) (z' := (1 : Int32)) rfl ?_ (by decide) (by decide)
        show Q56 Z p0 p1 p2 p3 p4 p5 p6 p7 h0 n0 (some (.int (1 : Int32))) T13.heap _
        exact ⟨(congrArg (fun z => some (Value.int z)) (Eq.symm ((if_neg hc2_1).trans ((if_neg hc7_2).trans ((if_pos hc17_3).trans ((if_neg hc33_4).trans ((if_neg hc59_10).trans ((if_neg hc82_14).trans (if_neg hc89_15))))))))), N13, e13⟩
   ·skip
    refine go (XS.ifNo X0.here hx rfl (D 13) rfl ((if0 _ _).trans (feq hc17_3).1)) ?_
    refine giC X0 hx (D 14) ?_
    refine goZ X0 hx hlk (t := .boolean) Bd.returns (by simp) (D 15) (z' := (1 : Int32)) rfl ?_ (by decide) (by decide)
    show Q56 Z p0 p1 p2 p3 p4 p5 p6 p7 h0 n0 (some (.int (1 : Int32))) s₁.heap _
    exact ⟨(congrArg (fun z => some (Value.int z)) (Eq.symm ((if_neg hc2_1).trans ((if_neg hc7_2).trans (if_neg hc17_3))))), N0, e0⟩
def t_35 : List (Nat × Instr × Nat) := [(0, .aload_n 0, 1), (1, .iconst 0, 1), (2, .putfield 76, 3), (5, .aload_n 1, 1), (6, .invokevirtual 106, 3), (9, .invokeinterface 108 1, 5), (14, .astore_n 3, 1), (15, .aload_n 3, 1), (16, .invokeinterface 112 1, 5), (21, .ifCond .eq 28, 3), (24, .aload_n 3, 1), (25, .invokeinterface 118 1, 5), (30, .checkcast 85, 3), (33, .invokevirtual 121, 3), (36, .istore 4, 2), (38, .aload_n 0, 1), (39, .getfield 45, 3), (42, .iload 4, 2), (44, .iconst 1, 1), (45, .bastore, 1), (46, .goto (-31), 3), (49, .aload_n 0, 1), (50, .getfield 125, 3), (53, .lstore_n 3, 1), (54, .aload_n 1, 1), (55, .invokevirtual 129, 3), (58, .invokeinterface 108 1, 5), (63, .astore 5, 2), (65, .aload 5, 2), (67, .invokeinterface 112 1, 5), (72, .ifCond .eq 37, 3), (75, .aload 5, 2), (77, .invokeinterface 118 1, 5), (82, .checkcast 132, 3), (85, .astore 6, 2), (87, .aload_n 0, 1), (88, .aload_n 0, 1), (89, .getfield 134, 3), (92, .lload_n 3, 1), (93, .aload 6, 2), (95, .invokevirtual 137, 3), (98, .i2l, 1), (99, .ladd, 1), (100, .invokestatic 140, 3), (103, .putfield 134, 3), (106, .goto (-41), 3), (109, .aload_n 0, 1), (110, .dup, 1), (111, .getfield 125, 3), (114, .aload_n 1, 1), (115, .invokevirtual 146, 3), (118, .invokeinterface 149 1, 5), (123, .i2l, 1), (124, .ladd, 1), (125, .putfield 125, 3), (128, .iconst 0, 1), (129, .istore 5, 2), (131, .iload 5, 2), (133, .aload_n 1, 1), (134, .invokevirtual 146, 3), (137, .invokeinterface 149 1, 5), (142, .if_icmp .ge 70, 3), (145, .aload_n 1, 1), (146, .invokevirtual 146, 3), (149, .iload 5, 2), (151, .invokeinterface 152 2, 5), (156, .checkcast 85, 3), (159, .invokevirtual 121, 3), (162, .istore 6, 2), (164, .aload_n 0, 1), (165, .getfield 48, 3), (168, .iload 6, 2), (170, .lload_n 3, 1), (171, .iload 5, 2), (173, .i2l, 1), (174, .ladd, 1), (175, .lastore, 1), (176, .aload_n 0, 1), (177, .getfield 10, 3), (180, .iload 6, 2), (182, .invokestatic 84, 3), (185, .invokeinterface 156 2, 5), (190, .pop, 1), (191, .aload_n 0, 1), (192, .getfield 16, 3), (195, .iload 6, 2), (197, .invokestatic 84, 3), (200, .invokeinterface 156 2, 5), (205, .pop, 1), (206, .iinc 5 1, 3), (209, .goto (-78), 3), (212, .aload_n 0, 1), (213, .getfield 26, 3), (216, .invokeinterface 108 1, 5), (221, .astore 5, 2), (223, .aload 5, 2), (225, .invokeinterface 112 1, 5), (230, .ifCond .eq 46, 3), (276, .aload_n 0, 1), (277, .getfield 26, 3), (280, .invokeinterface 165 1, 5), (285, .aload_n 0, 1), (286, .aload_n 1, 1), (287, .invokevirtual 168, 3), (290, .aload_n 0, 1), (291, .getfield 10, 3), (294, .aload_n 0, 1), (295, .getfield 36, 3), (298, .invokestatic 84, 3), (301, .invokeinterface 156 2, 5), (306, .pop, 1), (307, .aload_n 0, 1), (308, .getfield 16, 3), (311, .aload_n 0, 1), (312, .getfield 36, 3), (315, .invokestatic 84, 3), (318, .invokeinterface 156 2, 5), (323, .pop, 1), (324, .aload_n 0, 1), (325, .aload_n 2, 1), (326, .invokevirtual 168, 3), (329, .return_, 1)]
theorem q_35 : ∀ i : Fin 122, decode c_35 (gt t_35 i.1).1 = .ok ((gt t_35 i.1).2.1, (gt t_35 i.1).2.2) := by decide +kernel
theorem pd_29 : parseMethodDescriptor "(Lcom/example/hot_potato/hotpotato/Message$Probe;)V" = some ⟨[(.object "com/example/hot_potato/hotpotato/Message$Probe")], none⟩ := by decide +kernel
theorem pd_30 : parseMethodDescriptor "()Ljava/lang/Object;" = some ⟨[], some (.object "java/lang/Object")⟩ := by decide +kernel
theorem pd_31 : parseMethodDescriptor "(JJ)J" = some ⟨[.long, .long], some .long⟩ := by decide +kernel
theorem ef_35 (m : MethodId) (x0 : Addr) (x1 : Addr) : entryFrame m #[(.ref x0), (.ref x1), (.ref x1)] 7 = mkF m 0 #[.val (.ref x0), .val (.ref x1), .val (.ref x1), .unset, .unset, .unset, .unset] [] := by first | (simp [entryFrame, mkF, argsToLocals, Value.category]; done) | rfl
def Q35 (Z : State) (o0 : Addr) (o1 : Addr) (w_c : Addr) (f_ : Nat → Addr) (wE : Addr) (wL : Addr) (wD : Addr) (wA : Addr) (kD : ClassId) (kA : ClassId) (hS : Heap) (n_ : Int32) (sf_ : Int32) (vi_ : Int64) (up_ : Int64) (g_ : Nat → Int32) (ff_ : Nat → Int64) (vs : List Addr) (cs : List Addr) (fs : List Addr) (ms : List Int32) (crs : List Int32) (ks : List Int32) (h0 : Heap) (n0 : Nat) (v : Option Value) (h : Heap) (L : List Loc) : Prop := v = none ∧ Fr n0 L ∧ ∃ (uj : Int64) (gj : Nat → Int32), isUp up_ vi_ ks uj ∧ isCr g_ crs gj ∧ Cen Z hS h o0 n_ sf_ (vi_ + ((Int32.ofNat vs.length).toInt64)) uj gj (updv vi_ (0 : Int32) ms ff_)
set_option maxRecDepth 65536 in
set_option maxHeartbeats 40000000 in
theorem rm35 (o0 : Addr) (o1 : Addr) (w_c : Addr) (f_ : Nat → Addr) (wE : Addr) (wL : Addr) (wD : Addr) (wA : Addr) (kD : ClassId) (kA : ClassId) (hS : Heap) (n_ : Int32) (sf_ : Int32) (vi_ : Int64) (up_ : Int64) (g_ : Nat → Int32) (ff_ : Nat → Int64) (vs : List Addr) (cs : List Addr) (fs : List Addr) (ms : List Int32) (crs : List Int32) (ks : List Int32) (h0 : Heap) (n0 : Nat) (Z0 : n0 ≤ h0.size) (WS : Wd Z hS n0 w_c f_ wE wL wD wA kD kA) (CE : Cen Z hS h0 o0 n_ sf_ vi_ up_ g_ ff_) (nS : n0 ≤ hS.size) (hn : 1 ≤ n_.toInt ∧ n_.toInt ≤ 4) (PS : Prb Z hS wE wL o1 vs cs fs) (hvs : vs = ms.map (fI f_)) (hcs : cs = crs.map (fI f_)) (FF : FL Z hS fs ks) (hcr : crs = [] ∨ ∃ y : Int32, crs = [y] ∧ 1 ≤ y.toInt ∧ y.toInt ≤ 4) (hms : ∀ m ∈ ms, 1 ≤ m.toInt ∧ m.toInt ≤ n_.toInt) (hlen : ms.length ≤ 4) (hsf : 1 ≤ sf_.toInt ∧ sf_.toInt ≤ 4) :
  Mt hw l M_70 (Jvm.Cond.code M_70 c_35 7 none) ws R_4_7_28_54 #[(.ref o0), (.ref o1), (.ref o1)] h0 (Q35 Z o0 o1 w_c f_ wE wL wD wA kD kA hS n_ sf_ vi_ up_ g_ ff_ vs cs fs ms crs ks h0 n0) := by
 refine ent s_5 rfl hisR fun p e s m below meth c s₁ Bd hx hby hml hown hnm hlk hZ X0 e0 => ?_
 have D := fun i => hb hby (q_35 i)
 have u := hU hw
 have N0 := Fr.nil n0
 rw [ef_35]
 obtain ⟨wcr, wvi, ww, wq, wl, mc, ed, xS, gs_c, gs_wcr, gs_wvi, gs_wl, ne_c_wcr, ne_c_wvi, ne_c_wl, ne_wcr_wvi, ne_wcr_wl, ne_wvi_wl, ne_ww_c, ne_ww_wcr, ne_ww_wvi, ne_ww_wl, ne_wq_c, ne_wq_wcr, ne_wq_wvi, ne_wq_wl, E_c, E_ww, E_wq, E_wl, C_nodes, C_tokens, C_self, C_crashed, C_visitedAt, C_waiters, C_queued, C_learnedMidRound, C_visits, C_upToDateFrom, C_onItsWay, W_comparator, W_root, Q_comparator, Q_root, L_size, L_modCount, L_elementData, T_b, T_l⟩ := CE
 have IC := WS.ext xS
 obtain ⟨pE, ⟨av, pV, iV⟩, ⟨ac, pC, iC⟩, ⟨af, pF, iF⟩, pW, pQ⟩ := PS
 have hvl : vs.length = ms.length := by rw [hvs, List.length_map]
 have hl4 := own_len4 (l := vs) (by rw [hvl]; exact hlen)
 have hs1 := own_inc4 (i := n_) (by omega) hn.2
 have slo : -128 ≤ sf_.toInt := by omega
 have shi : sf_.toInt ≤ 127 := by omega
 show gO (tF s₁ m 0 (la11 o0 o1 o1) [])
 refine gaN X0 hx (D 0) rfl rfl ?_
 refine giC X0 hx (D 1) ?_
 obtain ⟨T1, h1, X1, e1, W1, st1⟩ := putFN X0 hx hZ hown (u 283) Via.refl e0 C_onItsWay E_c (Or.inl (hW hw 284 rfl)) (u 194) (ty := .boolean) (v' := (.int (0 : Int32))) (by decide) rfl rfl (g := (mkF m 2 (la11 o0 o1 o1) [(.int 0), (.ref o0)])) rfl rfl (D 2)
 refine gob st1 ?_
 have z2 : n0 ≤ h1.size := Nat.le_trans Z0 (Keep.of_wr W1).1
 have N1 := Fr.snoc X1 N0 (Nat.le_trans nS gs_c)
 have Fw1 := C_onItsWay.same W1
 show gO (tF T1 m 5 (la11 o0 o1 o1) [])
 refine gaN X1 hx (D 3) rfl rfl ?_
 have xs4 := (own_extW xS W1 gs_c)
 obtain ⟨cq3, kq3, q3a, q3b, q3c⟩ := isOf hZ e1 (pE.ext xs4)
 obtain ⟨_, T3, Lc3, X3, hQ3, st3⟩ := clB X1 (X1.virtualBack hx (y := M_20) (z := M_20) hown (mvT hZ (u 285)) (mvT hZ (u 286)) (notFace_of_selects (args := #[]) (mvT hZ (u 288))) (mvT hZ (u 288)) (mvT hZ (u 287)) (by decide) (backOf (W := 0) (rm36 l Z a0 hw [] o1 ac h1 n0 z2 (pC.ext xs4)) hZ (u 289) (u 34) (by decide) (by decide)) q3a q3c (g := (mkF m 6 (la11 o0 o1 o1) [(.ref o1)])) rfl (by rw [hml]; rfl) (Steps.refl _) (argsL := []) (rest := []) (lenOf pd_8 rfl) rfl (wk rfl rfl) (D 4) (fun _ _ => ⟨rfl, e1, lD rfl, lD rfl⟩)) (k := 0) (n := 0) rfl rfl
 obtain ⟨rfl, Nq3, e3⟩ := hQ3
 have N3 := Fr.app N1 Nq3
 refine gob (fun _ k => st3.trans k) ?_
 have J54 : ∀  (T5 : State) (lj6 : List Loc) (hq7 : Heap) (gj : Nat → Int32), Stand p l e R_4_7_28_54 s m #[(.ref o0), (.ref o1), (.ref o1)] below meth c T5 lj6 1 4 → T5.heap = hq7 → Fr n0 lj6 → n0 ≤ hq7.size → Exa Z hq7 o0 s_5 → Exa Z hq7 ww s_14 → Exa Z hq7 wq s_14 → Exa Z hq7 wl s_1 → Fld Z hq7 o0 s_5 "nodes" "I" (.int n_) → Fld Z hq7 o0 s_5 "tokens" "I" (.int 0) → Fld Z hq7 o0 s_5 "self" "I" (.int sf_) → Fld Z hq7 o0 s_5 "crashed" "[Z" (.ref wcr) → Fld Z hq7 o0 s_5 "visitedAt" "[J" (.ref wvi) → Fld Z hq7 o0 s_5 "waiters" s_25 (.ref ww) → Fld Z hq7 o0 s_5 "queued" s_25 (.ref wq) → Fld Z hq7 o0 s_5 s_36 s_11 (.ref wl) → Fld Z hq7 o0 s_5 "visits" "J" (.long vi_) → Fld Z hq7 o0 s_5 s_37 "J" (.long up_) → Fld Z hq7 o0 s_5 "onItsWay" "Z" (.int 0) → Fld Z hq7 ww s_14 s_22 s_23 .null → Fld Z hq7 ww s_14 "root" s_24 .null → Fld Z hq7 wq s_14 s_22 s_23 .null → Fld Z hq7 wq s_14 "root" s_24 .null → Fld Z hq7 wl s_1 "size" "I" (.int 0) → Fld Z hq7 wl s_9 s_12 "I" (.int mc) → Fld Z hq7 wl s_1 s_8 s_3 (.ref ed) → Bo Z hq7 wcr gj → Lo Z hq7 wvi (n_ + (1 : Int32)) ff_ → Wd Z hq7 n0 w_c f_ wE wL wD wA kD kA → Ext hS hq7 → (isCr g_ crs gj) → Go p e below s (Q35 Z o0 o1 w_c f_ wE wL wD wA kD kA hS n_ sf_ vi_ up_ g_ ff_ vs cs fs ms crs ks h0 n0) 7 28 (T5.setTop (mkF m 54 (la12 o0 o1 o1 vi_) [])) := by
  intro T5 lj6 hq7 gj X8 e9 N10 z11 J12 J13 J14 J15 J16 J17 J18 J19 J20 J21 J22 J23 J24 J25 J26 J27 J28 J29 J30 J31 J32 J33 J34 J35 J36 xs37 hj38
  show gO (tF T5 m 54 (la12 o0 o1 o1 vi_) [])
  refine gaN X8 hx (D 24) rfl rfl ?_
  obtain ⟨cq39, kq39, q39a, q39b, q39c⟩ := isOf hZ e9 (pE.ext xs37)
  obtain ⟨_, T39, Lc39, X39, hQ39, st39⟩ := clB X8 (X8.virtualBack hx (y := M_21) (z := M_21) hown (mvT hZ (u 335)) (mvT hZ (u 336)) (notFace_of_selects (args := #[]) (mvT hZ (u 338))) (mvT hZ (u 338)) (mvT hZ (u 337)) (by decide) (backOf (W := 0) (rm41 l Z a0 hw [] o1 af hq7 n0 z11 (pF.ext xs37)) hZ (u 339) (u 34) (by decide) (by decide)) q39a q39c (g := (mkF m 55 (la12 o0 o1 o1 vi_) [(.ref o1)])) rfl (by rw [hml]; rfl) (Steps.refl _) (argsL := []) (rest := []) (lenOf pd_8 rfl) rfl (wk rfl rfl) (D 25) (fun _ _ => ⟨rfl, e9, lD rfl, lD rfl⟩)) (k := 1) (n := 4) rfl rfl
  obtain ⟨rfl, Nq39, e39⟩ := hQ39
  have N39 := Fr.app N10 Nq39
  refine gob (fun _ k => st39.trans k) ?_
  have J109 : ∀  (T40 : State) (lj41 : List Loc) (hq42 : Heap) (uj : Int64) (it : Addr) (sl : Slot), Stand p l e R_4_7_28_54 s m #[(.ref o0), (.ref o1), (.ref o1)] below meth c T40 lj41 2 8 → T40.heap = hq42 → Fr n0 lj41 → n0 ≤ hq42.size → Exa Z hq42 o0 s_5 → Exa Z hq42 ww s_14 → Exa Z hq42 wq s_14 → Exa Z hq42 wl s_1 → Fld Z hq42 o0 s_5 "nodes" "I" (.int n_) → Fld Z hq42 o0 s_5 "tokens" "I" (.int 0) → Fld Z hq42 o0 s_5 "self" "I" (.int sf_) → Fld Z hq42 o0 s_5 "crashed" "[Z" (.ref wcr) → Fld Z hq42 o0 s_5 "visitedAt" "[J" (.ref wvi) → Fld Z hq42 o0 s_5 "waiters" s_25 (.ref ww) → Fld Z hq42 o0 s_5 "queued" s_25 (.ref wq) → Fld Z hq42 o0 s_5 s_36 s_11 (.ref wl) → Fld Z hq42 o0 s_5 "visits" "J" (.long vi_) → Fld Z hq42 o0 s_5 s_37 "J" (.long uj) → Fld Z hq42 o0 s_5 "onItsWay" "Z" (.int 0) → Fld Z hq42 ww s_14 s_22 s_23 .null → Fld Z hq42 ww s_14 "root" s_24 .null → Fld Z hq42 wq s_14 s_22 s_23 .null → Fld Z hq42 wq s_14 "root" s_24 .null → Fld Z hq42 wl s_1 "size" "I" (.int 0) → Fld Z hq42 wl s_9 s_12 "I" (.int mc) → Fld Z hq42 wl s_1 s_8 s_3 (.ref ed) → Bo Z hq42 wcr gj → Lo Z hq42 wvi (n_ + (1 : Int32)) ff_ → Wd Z hq42 n0 w_c f_ wE wL wD wA kD kA → Ext hS hq42 → (isUp up_ vi_ ks uj) → (slok sl) → Go p e below s (Q35 Z o0 o1 w_c f_ wE wL wD wA kD kA hS n_ sf_ vi_ up_ g_ ff_ vs cs fs ms crs ks h0 n0) 7 28 (T40.setTop (mkF m 109 (la13 o0 o1 o1 vi_ it sl) [])) := by
   intro T40 lj41 hq42 uj it sl X43 e44 N45 z46 J47 J48 J49 J50 J51 J52 J53 J54 J55 J56 J57 J58 J59 J60 J61 J62 J63 J64 J65 J66 J67 J68 J69 J70 J71 xs72 hj73 hj74
   show gO (tF T40 m 109 (la13 o0 o1 o1 vi_ it sl) [])
   refine gaN X43 hx (D 46) rfl rfl ?_
   refine go (XS.dup X43.here hx rfl (D 47) rfl rfl) ?_
   obtain ⟨T75, X75, e75, st75⟩ := getF X43 hx hZ hown (host := "") (Or.inl (hW hw 333 rfl)) Via.refl e44 J59 (g := (mkF m 111 (la13 o0 o1 o1 vi_ it sl) [(.ref o0), (.ref o0)])) rfl rfl (D 48)
   refine gob st75 ?_
   refine gaN X75 hx (D 49) rfl rfl ?_
   obtain ⟨cq76, kq76, q76a, q76b, q76c⟩ := isOf hZ e75 (pE.ext xs72)
   obtain ⟨_, T76, Lc76, X76, hQ76, st76⟩ := clB X75 (X75.virtualBack hx (y := M_22) (z := M_22) hown (mvT hZ (u 340)) (mvT hZ (u 341)) (notFace_of_selects (args := #[]) (mvT hZ (u 343))) (mvT hZ (u 343)) (mvT hZ (u 342)) (by decide) (backOf (W := 3) (rm42 l Z a0 hw [] o1 av hq42 n0 z46 (pV.ext xs72)) hZ (u 344) (u 34) (by decide) (by decide)) q76a q76c (g := (mkF m 115 (la13 o0 o1 o1 vi_ it sl) [(.ref o1), (.long vi_), (.ref o0)])) rfl (by rw [hml]; rfl) (Steps.refl _) (argsL := []) (rest := [(.long vi_), (.ref o0)]) (lenOf pd_8 rfl) rfl (wk rfl rfl) (D 50) (fun _ _ => ⟨rfl, e75, lD rfl, lD rfl⟩)) (k := 2) (n := 8) rfl rfl
   obtain ⟨rfl, Nq76, e76⟩ := hQ76
   have N76 := Fr.app N45 Nq76
   refine gob (fun _ k => st76.trans k) ?_
   have il77 := (iV.ext xs72)
   obtain ⟨T77, L77, X77, e77, N77, st77⟩ : ∃ (T' : State) (L' : List Loc), Stand p l e R_4_7_28_54 s m #[(.ref o0), (.ref o1), (.ref o1)] below meth c T' L' 2 8 ∧ T'.heap = hq42 ∧ Fr n0 L' ∧ ∀ t, Steps p.tables e below (T'.setTop (mkF m 123 (la13 o0 o1 o1 vi_ it sl) [(.int (Int32.ofNat vs.length)), (.long vi_), (.ref o0)])) t → Steps p.tables e below (T76.setTop (mkF m 118 (la13 o0 o1 o1 vi_ it sl) [(.ref av), (.long vi_), (.ref o0)])) t := by
    rcases il77 with ⟨hl, ar, ka, q1, q2, q3, q4⟩ | ⟨e1, hes, q1, q2, q3⟩ | ⟨e1, e2, hes, hne, q1, q2, q3⟩
    ·skip
     obtain ⟨cq78, kq78, q78a, q78b, q78c⟩ := isOf hZ e76 q1
     obtain ⟨_, T78, Lc78, X78, hQ78, st78⟩ := clB X76 (X76.interfaceBack hx (xi := M_71) (y := M_46) hown (mvT hZ (u 345)) (mvT hZ (u 346)) (mvT hZ (u 347)) (mvT hZ (u 443)) (mvT hZ (u 306)) (mvT hZ (u 444)) (mvT hZ (u 445)) (mvT hZ (u 297)) (by decide) (backOf (W := 3) (rm38 l Z a0 hw [] av ar ka (Int32.ofNat vs.length) (vs.map Value.ref) hq42 n0 z46 q2 q4) hZ (u 308) (u 307) (by decide) (by decide)) q78a q78b q78c (g := (mkF m 118 (la13 o0 o1 o1 vi_ it sl) [(.ref av), (.long vi_), (.ref o0)])) rfl (by rw [hml]; rfl) (Steps.refl _) (argsL := []) (rest := [(.long vi_), (.ref o0)]) (lenOf pd_18 rfl) rfl (wk rfl rfl) (D 51) (fun _ _ => ⟨rfl, e76, lD rfl, lD rfl⟩)) (k := 2) (n := 8) rfl rfl
     obtain ⟨rfl, Nq78, e78⟩ := hQ78
     have N78 := Fr.app N76 Nq78
     exact ⟨_, _, X78, e78, N78, fun _ k => st78.trans k⟩
    ·skip
     have hz : (Int32.ofNat vs.length) = 1 := by rw [hes]; rfl
     rw [hz]
     obtain ⟨cq79, kq79, q79a, q79b, q79c⟩ := isOf hZ e76 q1
     obtain ⟨_, T79, Lc79, X79, hQ79, st79⟩ := clB X76 (X76.interfaceBack hx (xi := M_71) (y := M_47) hown (mvT hZ (u 345)) (mvT hZ (u 346)) (mvT hZ (u 347)) (mvT hZ (u 348)) (mvT hZ (u 349)) (mvT hZ (u 350)) (mvT hZ (u 351)) (mvT hZ (u 352)) (by decide) (backOf (W := 3) (rm43_1 l Z a0 hw [] av wE hq42 n0 z46 q3 (own_WE J71)) hZ (u 353) (u 147) (by decide) (by decide)) q79a q79b q79c (g := (mkF m 118 (la13 o0 o1 o1 vi_ it sl) [(.ref av), (.long vi_), (.ref o0)])) rfl (by rw [hml]; rfl) (Steps.refl _) (argsL := []) (rest := [(.long vi_), (.ref o0)]) (lenOf pd_18 rfl) rfl (wk rfl rfl) (D 51) (fun _ _ => ⟨rfl, e76, lD rfl, lD rfl⟩)) (k := 2) (n := 8) rfl rfl
     obtain ⟨rfl, Nq79, e79⟩ := hQ79
     have N79 := Fr.app N76 Nq79
     exact ⟨_, _, X79, e79, N79, fun _ k => st79.trans k⟩
    ·skip
     have hz : (Int32.ofNat vs.length) = 2 := by rw [hes]; rfl
     rw [hz]
     obtain ⟨cq80, kq80, q80a, q80b, q80c⟩ := isOf hZ e76 q1
     obtain ⟨_, T80, Lc80, X80, hQ80, st80⟩ := clB X76 (X76.interfaceBack hx (xi := M_71) (y := M_47) hown (mvT hZ (u 345)) (mvT hZ (u 346)) (mvT hZ (u 347)) (mvT hZ (u 348)) (mvT hZ (u 349)) (mvT hZ (u 350)) (mvT hZ (u 351)) (mvT hZ (u 352)) (by decide) (backOf (W := 3) (rm43_2 l Z a0 hw [] av e2 wE hq42 n0 z46 q3 hne (own_WE J71)) hZ (u 353) (u 147) (by decide) (by decide)) q80a q80b q80c (g := (mkF m 118 (la13 o0 o1 o1 vi_ it sl) [(.ref av), (.long vi_), (.ref o0)])) rfl (by rw [hml]; rfl) (Steps.refl _) (argsL := []) (rest := [(.long vi_), (.ref o0)]) (lenOf pd_18 rfl) rfl (wk rfl rfl) (D 51) (fun _ _ => ⟨rfl, e76, lD rfl, lD rfl⟩)) (k := 2) (n := 8) rfl rfl
     obtain ⟨rfl, Nq80, e80⟩ := hQ80
     have N80 := Fr.app N76 Nq80
     exact ⟨_, _, X80, e80, N80, fun _ k => st80.trans k⟩
   refine gob st77 ?_
   refine go (XS.i2l X77.here hx rfl (D 52) rfl) ?_
   refine go (XS.ladd X77.here hx rfl (D 53) rfl) ?_
   obtain ⟨T81, h81, X81, e81, W81, st81⟩ := putF X77 hx hZ hown (host := "") (Or.inl (hW hw 333 rfl)) Via.refl e77 J59 J47 (Or.inl (hW hw 334 rfl)) (u 194) (ty := .long) (by decide) rfl rfl (g := (mkF m 125 (la13 o0 o1 o1 vi_ it sl) [(.long (vi_ + ((Int32.ofNat vs.length).toInt64))), (.ref o0)])) rfl rfl (D 54)
   refine gob st81 ?_
   have z82 : n0 ≤ h81.size := Nat.le_trans z46 (Keep.of_wr W81).1
   have N81 := Fr.snoc X81 N77 (Nat.le_trans nS gs_c)
   have Fw81 := J59.same W81
   show gO (tF T81 m 128 (la13 o0 o1 o1 vi_ it sl) [])
   refine giC X81 hx (D 55) ?_
   refine go (XS.istore X81.here hx rfl (D 56) rfl (l' := (la14 o0 o1 o1 vi_ 0 sl)) rfl) ?_
   have loop : ∀ (rem : List Int32) (T83 : State) (lj84 : List Loc) (hq85 : Heap) (i_ : Int32) (pre : List Int32) (fj : Nat → Int64) (sl6 : Slot), Stand p l e R_4_7_28_54 s m #[(.ref o0), (.ref o1), (.ref o1)] below meth c T83 lj84 2 8 → T83.heap = hq85 → Fr n0 lj84 → n0 ≤ hq85.size → Exa Z hq85 o0 s_5 → Exa Z hq85 ww s_14 → Exa Z hq85 wq s_14 → Exa Z hq85 wl s_1 → Fld Z hq85 o0 s_5 "nodes" "I" (.int n_) → Fld Z hq85 o0 s_5 "tokens" "I" (.int 0) → Fld Z hq85 o0 s_5 "self" "I" (.int sf_) → Fld Z hq85 o0 s_5 "crashed" "[Z" (.ref wcr) → Fld Z hq85 o0 s_5 "visitedAt" "[J" (.ref wvi) → Fld Z hq85 o0 s_5 "waiters" s_25 (.ref ww) → Fld Z hq85 o0 s_5 "queued" s_25 (.ref wq) → Fld Z hq85 o0 s_5 s_36 s_11 (.ref wl) → Fld Z hq85 o0 s_5 "visits" "J" (.long (vi_ + ((Int32.ofNat vs.length).toInt64))) → Fld Z hq85 o0 s_5 s_37 "J" (.long uj) → Fld Z hq85 o0 s_5 "onItsWay" "Z" (.int 0) → Fld Z hq85 ww s_14 s_22 s_23 .null → Fld Z hq85 ww s_14 "root" s_24 .null → Fld Z hq85 wq s_14 s_22 s_23 .null → Fld Z hq85 wq s_14 "root" s_24 .null → Fld Z hq85 wl s_1 "size" "I" (.int 0) → Fld Z hq85 wl s_9 s_12 "I" (.int mc) → Fld Z hq85 wl s_1 s_8 s_3 (.ref ed) → Bo Z hq85 wcr gj → Lo Z hq85 wvi (n_ + (1 : Int32)) fj → Wd Z hq85 n0 w_c f_ wE wL wD wA kD kA → Ext hS hq85 → (ms = pre ++ rem) → (pre.length = i_.toNatClampNeg) → (0 ≤ i_.toInt) → (updv vi_ i_ rem fj = updv vi_ (0 : Int32) ms ff_) → (slok sl6) → Go p e below s (Q35 Z o0 o1 w_c f_ wE wL wD wA kD kA hS n_ sf_ vi_ up_ g_ ff_ vs cs fs ms crs ks h0 n0) 7 28 (T83.setTop (mkF m 131 (la14 o0 o1 o1 vi_ i_ sl6) [])) := by
    intro rem
    induction rem with
    | nil =>
     intro T83 lj84 hq85 i_ pre fj sl6 X86 e87 N88 z89 J90 J91 J92 J93 J94 J95 J96 J97 J98 J99 J100 J101 J102 J103 J104 J105 J106 J107 J108 J109 J110 J111 J112 J113 J114 xs115 hj116 hj117 hj118 hj119 hj120
     have hd142 : ¬ (i_ < (Int32.ofNat vs.length)) := by rw [Int32.lt_iff_toInt_lt, hl4.1, hvl, hj116, List.append_nil]; have := own_nat hj118; omega
     show gO (tF T83 m 131 (la14 o0 o1 o1 vi_ i_ sl6) [])
     refine giM X86 hx (D 57) rfl ?_
     refine gaN X86 hx (D 58) rfl rfl ?_
     obtain ⟨cq121, kq121, q121a, q121b, q121c⟩ := isOf hZ e87 (pE.ext xs115)
     obtain ⟨_, T121, Lc121, X121, hQ121, st121⟩ := clB X86 (X86.virtualBack hx (y := M_22) (z := M_22) hown (mvT hZ (u 340)) (mvT hZ (u 341)) (notFace_of_selects (args := #[]) (mvT hZ (u 343))) (mvT hZ (u 343)) (mvT hZ (u 342)) (by decide) (backOf (W := 1) (rm42 l Z a0 hw [] o1 av hq85 n0 z89 (pV.ext xs115)) hZ (u 344) (u 34) (by decide) (by decide)) q121a q121c (g := (mkF m 134 (la14 o0 o1 o1 vi_ i_ sl6) [(.ref o1), (.int i_)])) rfl (by rw [hml]; rfl) (Steps.refl _) (argsL := []) (rest := [(.int i_)]) (lenOf pd_8 rfl) rfl (wk rfl rfl) (D 59) (fun _ _ => ⟨rfl, e87, lD rfl, lD rfl⟩)) (k := 2) (n := 8) rfl rfl
     obtain ⟨rfl, Nq121, e121⟩ := hQ121
     have N121 := Fr.app N88 Nq121
     refine gob (fun _ k => st121.trans k) ?_
     have il122 := (iV.ext xs115)
     obtain ⟨T122, L122, X122, e122, N122, st122⟩ : ∃ (T' : State) (L' : List Loc), Stand p l e R_4_7_28_54 s m #[(.ref o0), (.ref o1), (.ref o1)] below meth c T' L' 2 8 ∧ T'.heap = hq85 ∧ Fr n0 L' ∧ ∀ t, Steps p.tables e below (T'.setTop (mkF m 142 (la14 o0 o1 o1 vi_ i_ sl6) [(.int (Int32.ofNat vs.length)), (.int i_)])) t → Steps p.tables e below (T121.setTop (mkF m 137 (la14 o0 o1 o1 vi_ i_ sl6) [(.ref av), (.int i_)])) t := by
      rcases il122 with ⟨hl, ar, ka, q1, q2, q3, q4⟩ | ⟨e1, hes, q1, q2, q3⟩ | ⟨e1, e2, hes, hne, q1, q2, q3⟩
      ·skip
       obtain ⟨cq123, kq123, q123a, q123b, q123c⟩ := isOf hZ e121 q1
       obtain ⟨_, T123, Lc123, X123, hQ123, st123⟩ := clB X121 (X121.interfaceBack hx (xi := M_71) (y := M_46) hown (mvT hZ (u 345)) (mvT hZ (u 346)) (mvT hZ (u 347)) (mvT hZ (u 443)) (mvT hZ (u 306)) (mvT hZ (u 444)) (mvT hZ (u 445)) (mvT hZ (u 297)) (by decide) (backOf (W := 1) (rm38 l Z a0 hw [] av ar ka (Int32.ofNat vs.length) (vs.map Value.ref) hq85 n0 z89 q2 q4) hZ (u 308) (u 307) (by decide) (by decide)) q123a q123b q123c (g := (mkF m 137 (la14 o0 o1 o1 vi_ i_ sl6) [(.ref av), (.int i_)])) rfl (by rw [hml]; rfl) (Steps.refl _) (argsL := []) (rest := [(.int i_)]) (lenOf pd_18 rfl) rfl (wk rfl rfl) (D 60) (fun _ _ => ⟨rfl, e121, lD rfl, lD rfl⟩)) (k := 2) (n := 8) rfl rfl
       obtain ⟨rfl, Nq123, e123⟩ := hQ123
       have N123 := Fr.app N121 Nq123
       exact ⟨_, _, X123, e123, N123, fun _ k => st123.trans k⟩
      ·skip
       have hz : (Int32.ofNat vs.length) = 1 := by rw [hes]; rfl
       rw [hz]
       obtain ⟨cq124, kq124, q124a, q124b, q124c⟩ := isOf hZ e121 q1
       obtain ⟨_, T124, Lc124, X124, hQ124, st124⟩ := clB X121 (X121.interfaceBack hx (xi := M_71) (y := M_47) hown (mvT hZ (u 345)) (mvT hZ (u 346)) (mvT hZ (u 347)) (mvT hZ (u 348)) (mvT hZ (u 349)) (mvT hZ (u 350)) (mvT hZ (u 351)) (mvT hZ (u 352)) (by decide) (backOf (W := 1) (rm43_1 l Z a0 hw [] av wE hq85 n0 z89 q3 (own_WE J114)) hZ (u 353) (u 147) (by decide) (by decide)) q124a q124b q124c (g := (mkF m 137 (la14 o0 o1 o1 vi_ i_ sl6) [(.ref av), (.int i_)])) rfl (by rw [hml]; rfl) (Steps.refl _) (argsL := []) (rest := [(.int i_)]) (lenOf pd_18 rfl) rfl (wk rfl rfl) (D 60) (fun _ _ => ⟨rfl, e121, lD rfl, lD rfl⟩)) (k := 2) (n := 8) rfl rfl
       obtain ⟨rfl, Nq124, e124⟩ := hQ124
       have N124 := Fr.app N121 Nq124
       exact ⟨_, _, X124, e124, N124, fun _ k => st124.trans k⟩
      ·skip
       have hz : (Int32.ofNat vs.length) = 2 := by rw [hes]; rfl
       rw [hz]
       obtain ⟨cq125, kq125, q125a, q125b, q125c⟩ := isOf hZ e121 q1
       obtain ⟨_, T125, Lc125, X125, hQ125, st125⟩ := clB X121 (X121.interfaceBack hx (xi := M_71) (y := M_47) hown (mvT hZ (u 345)) (mvT hZ (u 346)) (mvT hZ (u 347)) (mvT hZ (u 348)) (mvT hZ (u 349)) (mvT hZ (u 350)) (mvT hZ (u 351)) (mvT hZ (u 352)) (by decide) (backOf (W := 1) (rm43_2 l Z a0 hw [] av e2 wE hq85 n0 z89 q3 hne (own_WE J114)) hZ (u 353) (u 147) (by decide) (by decide)) q125a q125b q125c (g := (mkF m 137 (la14 o0 o1 o1 vi_ i_ sl6) [(.ref av), (.int i_)])) rfl (by rw [hml]; rfl) (Steps.refl _) (argsL := []) (rest := [(.int i_)]) (lenOf pd_18 rfl) rfl (wk rfl rfl) (D 60) (fun _ _ => ⟨rfl, e121, lD rfl, lD rfl⟩)) (k := 2) (n := 8) rfl rfl
       obtain ⟨rfl, Nq125, e125⟩ := hQ125
       have N125 := Fr.app N121 Nq125
       exact ⟨_, _, X125, e125, N125, fun _ k => st125.trans k⟩
     refine gob st122 ?_
     refine go (XS.icmpYes X122.here hx rfl (pc0 := 142) (pc' := 212) rfl (D 61) rfl (flt (hd142 : ¬ (i_ < (Int32.ofNat vs.length)))).2.1 (by decide) (by decide)) ?_
     refine gaN X122 hx (D 91) rfl rfl ?_
     obtain ⟨T126, X126, e126, st126⟩ := getF X122 hx hZ hown (host := "") (Or.inl (hW hw 227 rfl)) Via.refl e122 J101 (g := (mkF m 213 (la14 o0 o1 o1 vi_ i_ sl6) [(.ref o0)])) rfl rfl (D 92)
     refine gob st126 ?_
     obtain ⟨cq127, kq127, q127a, q127b, q127c⟩ := isOf hZ e126 J93
     obtain ⟨_, T127, Lc127, X127, hQ127, st127⟩ := clB X126 (X126.interfaceBack hx (xi := M_61) (y := M_57) hown (mvT hZ (u 290)) (mvT hZ (u 291)) (mvT hZ (u 292)) (mvT hZ (u 391)) (mvT hZ (u 392)) (mvT hZ (u 393)) (mvT hZ (u 394)) (mvT hZ (u 395)) (by decide) (backOf (W := 0) (rm48 l Z a0 hw [] wl mc hq85 n0 z89 J93 J110) hZ (u 396) (u 8) (by decide) (by decide)) q127a q127b q127c (g := (mkF m 216 (la14 o0 o1 o1 vi_ i_ sl6) [(.ref wl)])) rfl (by rw [hml]; rfl) (Steps.refl _) (argsL := []) (rest := []) (lenOf pd_23 rfl) rfl (wk rfl rfl) (D 93) (fun _ _ => ⟨rfl, e126, lD rfl, lD rfl⟩)) (k := 3) (n := 12) rfl rfl
     obtain ⟨b128, rfl, Nq127, K127, hz129, F130, F131, F132, F133, F134⟩ := hQ127
     have N127 := Fr.app N122 Nq127
     have z149 : n0 ≤ T127.heap.size := Nat.le_trans z89 K127.1
     refine gob (fun _ k => st127.trans k) ?_
     refine go (XS.astore X127.here hx rfl (D 94) rfl rfl (l' := (la13 o0 o1 o1 vi_ b128 sl6)) rfl) ?_
     show gO (tF T127 m 223 (la13 o0 o1 o1 vi_ b128 sl6) [])
     refine gaM X127 hx (D 95) rfl rfl ?_
     have c151 := (J109.keep K127 nin0)
     obtain ⟨cq150, kq150, q150a, q150b, q150c⟩ := isOf hZ (rfl : T127.heap = _) F130
     obtain ⟨_, T150, Lc150, X150, hQ150, st150⟩ := clB X127 (X127.interfaceBack hx (xi := M_62) (y := M_58) hown (mvT hZ (u 324)) (mvT hZ (u 325)) (mvT hZ (u 326)) (mvT hZ (u 412)) (mvT hZ (u 413)) (mvT hZ (u 414)) (mvT hZ (u 415)) (mvT hZ (u 416)) (by decide) (backOf (W := 0) (rm50 l Z a0 hw [] b128 wl T127.heap n0 z149 F134 F131 c151) hZ (u 417) (u 399) (by decide) (by decide)) q150a q150b q150c (g := (mkF m 225 (la13 o0 o1 o1 vi_ b128 sl6) [(.ref b128)])) rfl (by rw [hml]; rfl) (Steps.refl _) (argsL := []) (rest := []) (lenOf pd_7 rfl) rfl (wk rfl rfl) (D 96) (fun _ _ => ⟨rfl, (rfl : T127.heap = _), lD rfl, lD rfl⟩)) (k := 3) (n := 12) rfl rfl
     obtain ⟨rfl, Nq150, e150⟩ := hQ150
     have N150 := Fr.app N127 Nq150
     refine gob (fun _ k => st150.trans k) ?_
     refine go (XS.ifYes X150.here hx rfl (pc0 := 230) (pc' := 276) rfl (D 97) rfl ((if0 _ _).trans (teq (by decide : (0 : Int32) = (0 : Int32))).1) (by decide) (by decide)) ?_
     refine gaN X150 hx (D 98) rfl rfl ?_
     have c152 := (J101.keep K127 nin0)
     obtain ⟨T153, X153, e153, st153⟩ := getF X150 hx hZ hown (host := "") (Or.inl (hW hw 227 rfl)) Via.refl e150 c152 (g := (mkF m 277 (la13 o0 o1 o1 vi_ b128 sl6) [(.ref o0)])) rfl rfl (D 99)
     refine gob st153 ?_
     have c155 := (J93.keep K127)
     have c156 := (J110.keep K127 nin0)
     have c157 := (J111.keep K127 nin0)
     obtain ⟨cq154, kq154, q154a, q154b, q154c⟩ := isOf hZ e153 c155
     obtain ⟨_, T154, Lc154, X154, hQ154, st154⟩ := clB X153 (X153.interfaceBack hx (xi := M_72) (y := M_59) hown (mvT hZ (u 421)) (mvT hZ (u 422)) (mvT hZ (u 423)) (mvT hZ (u 424)) (mvT hZ (u 425)) (mvT hZ (u 426)) (mvT hZ (u 427)) (mvT hZ (u 395)) (by decide) (backOf (W := 0) (rm51 l Z a0 hw [] wl mc ed T127.heap n0 z149 c155 c151 c156 (Nat.le_trans nS gs_wl) c157) hZ (u 428) (u 8) (by decide) (by decide)) q154a q154b q154c (g := (mkF m 280 (la13 o0 o1 o1 vi_ b128 sl6) [(.ref wl)])) rfl (by rw [hml]; rfl) (Steps.refl _) (argsL := []) (rest := []) (lenOf pd_0 rfl) rfl (wk rfl rfl) (D 100) (fun _ _ => ⟨rfl, e153, lD rfl, lD rfl⟩)) (k := 3) (n := 12) rfl rfl
     obtain ⟨rfl, Nq154, K154, F158, F159, F160⟩ := hQ154
     have N154 := Fr.app N150 Nq154
     have z161 : n0 ≤ T154.heap.size := Nat.le_trans z149 K154.1
     refine gob (fun _ k => st154.trans k) ?_
     refine gaN X154 hx (D 101) rfl rfl ?_
     refine gaN X154 hx (D 102) rfl rfl ?_
     have c163 := ((J114.keep K127 geN).keep K154 (geS (Nat.le_trans nS gs_wl) geN))
     have c164 := ((J90.keep K127).keep K154)
     have xs165 := (own_extK (own_extK xs115 K127 all0) K154 (allS gs_wl all0))
     have c166 := ((J95.keep K127 nin0).keep K154 (ninS ne_c_wl nin0))
     obtain ⟨cq162, q162, q162'⟩ := c164.cell
     obtain ⟨_, T162, Lc162, X162, hQ162, st162⟩ := clB X154 (X154.privateBack hx (y := M_60) hown (mvT hZ (u 429)) (mvT hZ (u 430)) (mvT hZ (own_selpriv (y := M_60) (u 194) (u 431) (u 430) (by decide))) (Cond.privateMethod_at (mvP hZ (u 431) (args := #[]))) (mvT hZ (u 432)) (by decide) (backOf (W := 0) (rm52 l Z a0 hw [] o0 o1 w_c f_ wE wL wD wA kD kA T154.heap n0 z161 c163 c164 (pE.ext xs165) c166 (pW.ext xs165) (pQ.ext xs165)) hZ (u 432) (u 195) (by decide) (by decide)) (g := (mkF m 287 (la13 o0 o1 o1 vi_ b128 sl6) [(.ref o1), (.ref o0)])) rfl (by rw [hml]; rfl) (Steps.refl _) (a := o0) (by rw [(rfl : T154.heap = _)]; exact q162) q162' (argsL := [(.ref o1)]) (rest := []) (lenOf pd_29 rfl) rfl (wk rfl rfl) (D 103) (fun _ _ => ⟨rfl, (rfl : T154.heap = _), lD rfl, lD rfl⟩)) (k := 5) (n := 20) rfl rfl
     obtain ⟨b167, b168, rfl, Nq162, K162, hz169, hz170, hn171, F172, F173, F174, F175, F176, F177, F178, F179, F180, F181⟩ := hQ162
     have N162 := Fr.app N154 Nq162
     have c184 := ((J91.keep K127).keep K154)
     have c186 := ((J92.keep K127).keep K154)
     have c188 := (c155.keep K154)
     have c190 := ((J112.keep K127 nin0).keep K154 (ninS ne_wcr_wl nin0))
     have c192 := ((J113.keep K127 nin0).keep K154 (ninS ne_wvi_wl nin0))
     have z218 : n0 ≤ T162.heap.size := Nat.le_trans z161 K162.1
     refine gob (fun _ k => st162.trans k) ?_
     show gO (tF T162 m 290 (la13 o0 o1 o1 vi_ b128 sl6) [])
     refine gaN X162 hx (D 104) rfl rfl ?_
     have c219 := (((J99.keep K127 nin0).keep K154 (ninS ne_c_wl nin0)).keep K162 nin0)
     obtain ⟨T220, X220, e220, st220⟩ := getF X162 hx hZ hown (host := "") (Or.inl (hW hw 219 rfl)) Via.refl (rfl : T162.heap = _) c219 (g := (mkF m 291 (la13 o0 o1 o1 vi_ b128 sl6) [(.ref o0)])) rfl rfl (D 105)
     refine gob st220 ?_
     refine gaN X220 hx (D 106) rfl rfl ?_
     have c221 := (((J96.keep K127 nin0).keep K154 (ninS ne_c_wl nin0)).keep K162 nin0)
     obtain ⟨T222, X222, e222, st222⟩ := getF X220 hx hZ hown (host := "") (Or.inl (hW hw 233 rfl)) Via.refl e220 c221 (g := (mkF m 295 (la13 o0 o1 o1 vi_ b128 sl6) [(.ref o0), (.ref ww)])) rfl rfl (D 107)
     refine gob st222 ?_
     have c224 := (c163.keep K162 geN)
     obtain ⟨_, T223, Lc223, X223, hQ223, st223⟩ := clS X222 (Jvm.LawKit.callS X222 hx (y := M_31) hown (mvT hZ (u 371)) (mvT hZ (u 39)) (mvT hZ (u 40)) (mvT hZ (u 41)) (by decide) (backOf (W := 1) (rm7 l Z a0 hw [] sf_ w_c f_ wE wL wD wA kD kA T162.heap n0 z218 c224 slo shi) hZ (u 41) (u 40) (by decide) (by decide)) (g := (mkF m 298 (la13 o0 o1 o1 vi_ b128 sl6) [(.int sf_), (.ref ww)])) rfl (by rw [hml]; rfl) (argsL := [(.int sf_)]) (rest := [(.ref ww)]) (lenOf pd_16 rfl) rfl (wk rfl rfl) (D 108) (fun _ _ => ⟨rfl, e222, lD rfl, lD rfl⟩)) (k := 5) (n := 20) rfl rfl
     obtain ⟨rfl, Nq223, e223⟩ := hQ223
     have N223 := Fr.app N162 Nq223
     refine gob st223 ?_
     have c226 := (c184.keep K162)
     have c227 := (((J105.keep K127 nin0).keep K154 (ninS ne_ww_wl nin0)).keep K162 nin0)
     have c228 := (((J106.keep K127 nin0).keep K154 (ninS ne_ww_wl nin0)).keep K162 nin0)
     obtain ⟨cq225, kq225, q225a, q225b, q225c⟩ := isOf hZ e223 c226
     obtain ⟨_, T225, Lc225, X225, hQ225, st225⟩ := clB X223 (X223.interfaceBack hx (xi := M_73) (y := M_56) hown (mvT hZ (u 372)) (mvT hZ (u 373)) (mvT hZ (u 374)) (mvT hZ (u 375)) (mvT hZ (u 376)) (mvT hZ (u 377)) (mvT hZ (u 378)) (mvT hZ (u 379)) (by decide) (backOf (W := 0) (rm46 l Z a0 hw [] ww (fI f_ sf_) T162.heap n0 z218 c226 c227 c228 (own_Wint c224 slo shi).1) hZ (u 380) (u 202) (by decide) (by decide)) q225a q225b q225c (g := (mkF m 301 (la13 o0 o1 o1 vi_ b128 sl6) [(.ref (fI f_ sf_)), (.ref ww)])) rfl (by rw [hml]; rfl) (Steps.refl _) (argsL := [(.ref (fI f_ sf_))]) (rest := []) (lenOf pd_2 rfl) rfl (wk rfl rfl) (D 109) (fun _ _ => ⟨rfl, e223, lD rfl, lD rfl⟩)) (k := 5) (n := 20) rfl rfl
     obtain ⟨rfl, Nq225, e225⟩ := hQ225
     have N225 := Fr.app N223 Nq225
     refine gob (fun _ k => st225.trans k) ?_
     refine go (XS.pop X225.here hx rfl (D 110) rfl rfl) ?_
     refine gaN X225 hx (D 111) rfl rfl ?_
     have c229 := (((J100.keep K127 nin0).keep K154 (ninS ne_c_wl nin0)).keep K162 nin0)
     obtain ⟨T230, X230, e230, st230⟩ := getF X225 hx hZ hown (host := "") (Or.inl (hW hw 221 rfl)) Via.refl e225 c229 (g := (mkF m 308 (la13 o0 o1 o1 vi_ b128 sl6) [(.ref o0)])) rfl rfl (D 112)
     refine gob st230 ?_
     show gO (tF T230 m 311 (la13 o0 o1 o1 vi_ b128 sl6) [(.ref wq)])
     refine gaN X230 hx (D 113) rfl rfl ?_
     obtain ⟨T231, X231, e231, st231⟩ := getF X230 hx hZ hown (host := "") (Or.inl (hW hw 233 rfl)) Via.refl e230 c221 (g := (mkF m 312 (la13 o0 o1 o1 vi_ b128 sl6) [(.ref o0), (.ref wq)])) rfl rfl (D 114)
     refine gob st231 ?_
     obtain ⟨_, T232, Lc232, X232, hQ232, st232⟩ := clS X231 (Jvm.LawKit.callS X231 hx (y := M_31) hown (mvT hZ (u 371)) (mvT hZ (u 39)) (mvT hZ (u 40)) (mvT hZ (u 41)) (by decide) (backOf (W := 1) (rm7 l Z a0 hw [] sf_ w_c f_ wE wL wD wA kD kA T162.heap n0 z218 c224 slo shi) hZ (u 41) (u 40) (by decide) (by decide)) (g := (mkF m 315 (la13 o0 o1 o1 vi_ b128 sl6) [(.int sf_), (.ref wq)])) rfl (by rw [hml]; rfl) (argsL := [(.int sf_)]) (rest := [(.ref wq)]) (lenOf pd_16 rfl) rfl (wk rfl rfl) (D 115) (fun _ _ => ⟨rfl, e231, lD rfl, lD rfl⟩)) (k := 5) (n := 20) rfl rfl
     obtain ⟨rfl, Nq232, e232⟩ := hQ232
     have N232 := Fr.app N225 Nq232
     refine gob st232 ?_
     have c234 := (c186.keep K162)
     have c235 := (((J107.keep K127 nin0).keep K154 (ninS ne_wq_wl nin0)).keep K162 nin0)
     have c236 := (((J108.keep K127 nin0).keep K154 (ninS ne_wq_wl nin0)).keep K162 nin0)
     obtain ⟨cq233, kq233, q233a, q233b, q233c⟩ := isOf hZ e232 c234
     obtain ⟨_, T233, Lc233, X233, hQ233, st233⟩ := clB X232 (X232.interfaceBack hx (xi := M_73) (y := M_56) hown (mvT hZ (u 372)) (mvT hZ (u 373)) (mvT hZ (u 374)) (mvT hZ (u 375)) (mvT hZ (u 376)) (mvT hZ (u 377)) (mvT hZ (u 378)) (mvT hZ (u 379)) (by decide) (backOf (W := 0) (rm46 l Z a0 hw [] wq (fI f_ sf_) T162.heap n0 z218 c234 c235 c236 (own_Wint c224 slo shi).1) hZ (u 380) (u 202) (by decide) (by decide)) q233a q233b q233c (g := (mkF m 318 (la13 o0 o1 o1 vi_ b128 sl6) [(.ref (fI f_ sf_)), (.ref wq)])) rfl (by rw [hml]; rfl) (Steps.refl _) (argsL := [(.ref (fI f_ sf_))]) (rest := []) (lenOf pd_2 rfl) rfl (wk rfl rfl) (D 116) (fun _ _ => ⟨rfl, e232, lD rfl, lD rfl⟩)) (k := 5) (n := 20) rfl rfl
     obtain ⟨rfl, Nq233, e233⟩ := hQ233
     have N233 := Fr.app N232 Nq233
     refine gob (fun _ k => st233.trans k) ?_
     refine go (XS.pop X233.here hx rfl (D 117) rfl rfl) ?_
     refine gaN X233 hx (D 118) rfl rfl ?_
     refine gaN X233 hx (D 119) rfl rfl ?_
     have c238 := (c164.keep K162)
     have xs239 := (own_extK xs165 K162 all0)
     have c240 := (c166.keep K162 nin0)
     obtain ⟨cq237, q237, q237'⟩ := c238.cell
     obtain ⟨_, T237, Lc237, X237, hQ237, st237⟩ := clB X233 (X233.privateBack hx (y := M_60) hown (mvT hZ (u 429)) (mvT hZ (u 430)) (mvT hZ (own_selpriv (y := M_60) (u 194) (u 431) (u 430) (by decide))) (Cond.privateMethod_at (mvP hZ (u 431) (args := #[]))) (mvT hZ (u 432)) (by decide) (backOf (W := 0) (rm52 l Z a0 hw [] o0 o1 w_c f_ wE wL wD wA kD kA T162.heap n0 z218 c224 c238 (pE.ext xs239) c240 (pW.ext xs239) (pQ.ext xs239)) hZ (u 432) (u 195) (by decide) (by decide)) (g := (mkF m 326 (la13 o0 o1 o1 vi_ b128 sl6) [(.ref o1), (.ref o0)])) rfl (by rw [hml]; rfl) (Steps.refl _) (a := o0) (by rw [e233]; exact q237) q237' (argsL := [(.ref o1)]) (rest := []) (lenOf pd_29 rfl) rfl (wk rfl rfl) (D 120) (fun _ _ => ⟨rfl, e233, lD rfl, lD rfl⟩)) (k := 7) (n := 28) rfl rfl
     obtain ⟨b241, b242, rfl, Nq237, K237, hz243, hz244, hn245, F246, F247, F248, F249, F250, F251, F252, F253, F254, F255⟩ := hQ237
     have N237 := Fr.app N233 Nq237
     have c260 := (c188.keep K162)
     have c262 := (c190.keep K162 nin0)
     have c264 := (c192.keep K162 nin0)
     refine gob (fun _ k => st237.trans k) ?_
     refine goV X237 hx hlk Bd.returns (D 121) ?_ (by decide) (by decide)
     show Q35 Z o0 o1 w_c f_ wE wL wD wA kD kA hS n_ sf_ vi_ up_ g_ ff_ vs cs fs ms crs ks h0 n0 (none) T237.heap _
     have c295 := (c264.keep K237 nin0)
     have hF : fj = updv vi_ (0 : Int32) ms ff_ := hj119
     have V296 := c295
     rw [hF] at V296
     have xs297 := (own_extK xs239 K237 all0)
     have c298 := (c238.keep K237)
     have c299 := (c226.keep K237)
     have c300 := (c234.keep K237)
     have c301 := (c260.keep K237)
     have c302 := ((((J94.keep K127 nin0).keep K154 (ninS ne_c_wl nin0)).keep K162 nin0).keep K237 nin0)
     have c303 := (c240.keep K237 nin0)
     have c304 := (c221.keep K237 nin0)
     have c305 := ((((J97.keep K127 nin0).keep K154 (ninS ne_c_wl nin0)).keep K162 nin0).keep K237 nin0)
     have c306 := ((((J98.keep K127 nin0).keep K154 (ninS ne_c_wl nin0)).keep K162 nin0).keep K237 nin0)
     have c307 := (c219.keep K237 nin0)
     have c308 := (c229.keep K237 nin0)
     have c309 := (((c152.keep K154 (ninS ne_c_wl nin0)).keep K162 nin0).keep K237 nin0)
     have c310 := ((((J102.keep K127 nin0).keep K154 (ninS ne_c_wl nin0)).keep K162 nin0).keep K237 nin0)
     have c311 := ((((J103.keep K127 nin0).keep K154 (ninS ne_c_wl nin0)).keep K162 nin0).keep K237 nin0)
     have c312 := ((((J104.keep K127 nin0).keep K154 (ninS ne_c_wl nin0)).keep K162 nin0).keep K237 nin0)
     have c313 := (c227.keep K237 nin0)
     have c314 := (c228.keep K237 nin0)
     have c315 := (c235.keep K237 nin0)
     have c316 := (c236.keep K237 nin0)
     have c317 := ((F158.keep K162 nin0).keep K237 nin0)
     have c318 := ((F159.keep K162 nin0).keep K237 nin0)
     have c319 := ((F160.keep K162 nin0).keep K237 nin0)
     have c320 := (c262.keep K237 nin0)
     exact ⟨rfl, N237, uj, gj, hj73, hj38, ⟨wcr, wvi, ww, wq, wl, (mc + (1 : Int32)), ed, xs297, gs_c, gs_wcr, gs_wvi, gs_wl, ne_c_wcr, ne_c_wvi, ne_c_wl, ne_wcr_wvi, ne_wcr_wl, ne_wvi_wl, ne_ww_c, ne_ww_wcr, ne_ww_wvi, ne_ww_wl, ne_wq_c, ne_wq_wcr, ne_wq_wvi, ne_wq_wl, c298, c299, c300, c301, c302, c303, c304, c305, c306, c307, c308, c309, c310, c311, c312, c313, c314, c315, c316, c317, c318, c319, c320, V296⟩⟩
    | cons mv rem ih =>
     intro T83 lj84 hq85 i_ pre fj sl6 X86 e87 N88 z89 J90 J91 J92 J93 J94 J95 J96 J97 J98 J99 J100 J101 J102 J103 J104 J105 J106 J107 J108 J109 J110 J111 J112 J113 J114 xs115 hj116 hj117 hj118 hj119 hj120
     have hi0 := hj118
     have hml' : ms.length = pre.length + (rem.length + 1) := by rw [hj116]; simp
     have hin : i_.toNatClampNeg < vs.length := by rw [hvl]; omega
     have hlt : i_ < (Int32.ofNat vs.length) := by rw [Int32.lt_iff_toInt_lt, hl4.1]; have := own_nat hi0; omega
     have hm := hms mv (by rw [hj116]; simp)
     have mlo : -128 ≤ mv.toInt := by omega
     have mhi : mv.toInt ≤ 127 := by omega
     have hI := own_idx (i := mv) (n := (n_ + (1 : Int32))) (by omega) (by omega)
     have hel : el vs i_ = fI f_ mv := by rw [hvs, hj116]; exact own_elat hj117
     have hs := own_inc4 (i := i_) hi0 (by have := own_nat hi0; omega)
     show gO (tF T83 m 131 (la14 o0 o1 o1 vi_ i_ sl6) [])
     refine giM X86 hx (D 57) rfl ?_
     refine gaN X86 hx (D 58) rfl rfl ?_
     obtain ⟨cq321, kq321, q321a, q321b, q321c⟩ := isOf hZ e87 (pE.ext xs115)
     obtain ⟨_, T321, Lc321, X321, hQ321, st321⟩ := clB X86 (X86.virtualBack hx (y := M_22) (z := M_22) hown (mvT hZ (u 340)) (mvT hZ (u 341)) (notFace_of_selects (args := #[]) (mvT hZ (u 343))) (mvT hZ (u 343)) (mvT hZ (u 342)) (by decide) (backOf (W := 1) (rm42 l Z a0 hw [] o1 av hq85 n0 z89 (pV.ext xs115)) hZ (u 344) (u 34) (by decide) (by decide)) q321a q321c (g := (mkF m 134 (la14 o0 o1 o1 vi_ i_ sl6) [(.ref o1), (.int i_)])) rfl (by rw [hml]; rfl) (Steps.refl _) (argsL := []) (rest := [(.int i_)]) (lenOf pd_8 rfl) rfl (wk rfl rfl) (D 59) (fun _ _ => ⟨rfl, e87, lD rfl, lD rfl⟩)) (k := 2) (n := 8) rfl rfl
     obtain ⟨rfl, Nq321, e321⟩ := hQ321
     have N321 := Fr.app N88 Nq321
     refine gob (fun _ k => st321.trans k) ?_
     have il322 := (iV.ext xs115)
     obtain ⟨T322, L322, X322, e322, N322, st322⟩ : ∃ (T' : State) (L' : List Loc), Stand p l e R_4_7_28_54 s m #[(.ref o0), (.ref o1), (.ref o1)] below meth c T' L' 2 8 ∧ T'.heap = hq85 ∧ Fr n0 L' ∧ ∀ t, Steps p.tables e below (T'.setTop (mkF m 142 (la14 o0 o1 o1 vi_ i_ sl6) [(.int (Int32.ofNat vs.length)), (.int i_)])) t → Steps p.tables e below (T321.setTop (mkF m 137 (la14 o0 o1 o1 vi_ i_ sl6) [(.ref av), (.int i_)])) t := by
      rcases il322 with ⟨hl, ar, ka, q1, q2, q3, q4⟩ | ⟨e1, hes, q1, q2, q3⟩ | ⟨e1, e2, hes, hne, q1, q2, q3⟩
      ·skip
       obtain ⟨cq323, kq323, q323a, q323b, q323c⟩ := isOf hZ e321 q1
       obtain ⟨_, T323, Lc323, X323, hQ323, st323⟩ := clB X321 (X321.interfaceBack hx (xi := M_71) (y := M_46) hown (mvT hZ (u 345)) (mvT hZ (u 346)) (mvT hZ (u 347)) (mvT hZ (u 443)) (mvT hZ (u 306)) (mvT hZ (u 444)) (mvT hZ (u 445)) (mvT hZ (u 297)) (by decide) (backOf (W := 1) (rm38 l Z a0 hw [] av ar ka (Int32.ofNat vs.length) (vs.map Value.ref) hq85 n0 z89 q2 q4) hZ (u 308) (u 307) (by decide) (by decide)) q323a q323b q323c (g := (mkF m 137 (la14 o0 o1 o1 vi_ i_ sl6) [(.ref av), (.int i_)])) rfl (by rw [hml]; rfl) (Steps.refl _) (argsL := []) (rest := [(.int i_)]) (lenOf pd_18 rfl) rfl (wk rfl rfl) (D 60) (fun _ _ => ⟨rfl, e321, lD rfl, lD rfl⟩)) (k := 2) (n := 8) rfl rfl
       obtain ⟨rfl, Nq323, e323⟩ := hQ323
       have N323 := Fr.app N321 Nq323
       exact ⟨_, _, X323, e323, N323, fun _ k => st323.trans k⟩
      ·skip
       have hz : (Int32.ofNat vs.length) = 1 := by rw [hes]; rfl
       rw [hz]
       obtain ⟨cq324, kq324, q324a, q324b, q324c⟩ := isOf hZ e321 q1
       obtain ⟨_, T324, Lc324, X324, hQ324, st324⟩ := clB X321 (X321.interfaceBack hx (xi := M_71) (y := M_47) hown (mvT hZ (u 345)) (mvT hZ (u 346)) (mvT hZ (u 347)) (mvT hZ (u 348)) (mvT hZ (u 349)) (mvT hZ (u 350)) (mvT hZ (u 351)) (mvT hZ (u 352)) (by decide) (backOf (W := 1) (rm43_1 l Z a0 hw [] av wE hq85 n0 z89 q3 (own_WE J114)) hZ (u 353) (u 147) (by decide) (by decide)) q324a q324b q324c (g := (mkF m 137 (la14 o0 o1 o1 vi_ i_ sl6) [(.ref av), (.int i_)])) rfl (by rw [hml]; rfl) (Steps.refl _) (argsL := []) (rest := [(.int i_)]) (lenOf pd_18 rfl) rfl (wk rfl rfl) (D 60) (fun _ _ => ⟨rfl, e321, lD rfl, lD rfl⟩)) (k := 2) (n := 8) rfl rfl
       obtain ⟨rfl, Nq324, e324⟩ := hQ324
       have N324 := Fr.app N321 Nq324
       exact ⟨_, _, X324, e324, N324, fun _ k => st324.trans k⟩
      ·skip
       have hz : (Int32.ofNat vs.length) = 2 := by rw [hes]; rfl
       rw [hz]
       obtain ⟨cq325, kq325, q325a, q325b, q325c⟩ := isOf hZ e321 q1
       obtain ⟨_, T325, Lc325, X325, hQ325, st325⟩ := clB X321 (X321.interfaceBack hx (xi := M_71) (y := M_47) hown (mvT hZ (u 345)) (mvT hZ (u 346)) (mvT hZ (u 347)) (mvT hZ (u 348)) (mvT hZ (u 349)) (mvT hZ (u 350)) (mvT hZ (u 351)) (mvT hZ (u 352)) (by decide) (backOf (W := 1) (rm43_2 l Z a0 hw [] av e2 wE hq85 n0 z89 q3 hne (own_WE J114)) hZ (u 353) (u 147) (by decide) (by decide)) q325a q325b q325c (g := (mkF m 137 (la14 o0 o1 o1 vi_ i_ sl6) [(.ref av), (.int i_)])) rfl (by rw [hml]; rfl) (Steps.refl _) (argsL := []) (rest := [(.int i_)]) (lenOf pd_18 rfl) rfl (wk rfl rfl) (D 60) (fun _ _ => ⟨rfl, e321, lD rfl, lD rfl⟩)) (k := 2) (n := 8) rfl rfl
       obtain ⟨rfl, Nq325, e325⟩ := hQ325
       have N325 := Fr.app N321 Nq325
       exact ⟨_, _, X325, e325, N325, fun _ k => st325.trans k⟩
     refine gob st322 ?_
     refine go (XS.icmpNo X322.here hx rfl (D 61) rfl (tlt (hlt : i_ < (Int32.ofNat vs.length))).2.1) ?_
     refine gaN X322 hx (D 62) rfl rfl ?_
     obtain ⟨cq326, kq326, q326a, q326b, q326c⟩ := isOf hZ e322 (pE.ext xs115)
     obtain ⟨_, T326, Lc326, X326, hQ326, st326⟩ := clB X322 (X322.virtualBack hx (y := M_22) (z := M_22) hown (mvT hZ (u 340)) (mvT hZ (u 341)) (notFace_of_selects (args := #[]) (mvT hZ (u 343))) (mvT hZ (u 343)) (mvT hZ (u 342)) (by decide) (backOf (W := 0) (rm42 l Z a0 hw [] o1 av hq85 n0 z89 (pV.ext xs115)) hZ (u 344) (u 34) (by decide) (by decide)) q326a q326c (g := (mkF m 146 (la14 o0 o1 o1 vi_ i_ sl6) [(.ref o1)])) rfl (by rw [hml]; rfl) (Steps.refl _) (argsL := []) (rest := []) (lenOf pd_8 rfl) rfl (wk rfl rfl) (D 63) (fun _ _ => ⟨rfl, e322, lD rfl, lD rfl⟩)) (k := 2) (n := 8) rfl rfl
     obtain ⟨rfl, Nq326, e326⟩ := hQ326
     have N326 := Fr.app N322 Nq326
     refine gob (fun _ k => st326.trans k) ?_
     refine giM X326 hx (D 64) rfl ?_
     have il327 := (iV.ext xs115)
     obtain ⟨T327, L327, X327, e327, N327, st327⟩ : ∃ (T' : State) (L' : List Loc), Stand p l e R_4_7_28_54 s m #[(.ref o0), (.ref o1), (.ref o1)] below meth c T' L' 2 8 ∧ T'.heap = hq85 ∧ Fr n0 L' ∧ ∀ t, Steps p.tables e below (T'.setTop (mkF m 156 (la14 o0 o1 o1 vi_ i_ sl6) [(.ref (fI f_ mv))])) t → Steps p.tables e below (T326.setTop (mkF m 151 (la14 o0 o1 o1 vi_ i_ sl6) [(.int i_), (.ref av)])) t := by
      rcases il327 with ⟨hl, ar, ka, q1, q2, q3, q4⟩ | ⟨e1, hes, q1, q2, q3⟩ | ⟨e1, e2, hes, hne, q1, q2, q3⟩
      ·skip
       have hg0 : ¬ (i_ < 0) ∧ i_ < (Int32.ofNat vs.length) := ⟨own_nn hi0, hlt⟩
       have hg1 : (vs.map Value.ref).getD i_.toNatClampNeg .null = .ref (fI f_ mv) := by rw [own_elmap (by omega), hel]
       obtain ⟨cq328, kq328, q328a, q328b, q328c⟩ := isOf hZ e326 q1
       obtain ⟨_, T328, Lc328, X328, hQ328, st328⟩ := clB X326 (X326.interfaceBack hx (xi := M_54) (y := M_49) hown (mvT hZ (u 354)) (mvT hZ (u 355)) (mvT hZ (u 356)) (mvT hZ (u 514)) (mvT hZ (u 515)) (mvT hZ (u 516)) (mvT hZ (u 517)) (mvT hZ (u 297)) (by decide) (backOf (W := 0) (rm65 l Z a0 hw [] av i_ ar ka (Int32.ofNat vs.length) (vs.map Value.ref) (fI f_ mv) hq85 n0 z89 q2 q4 hg0 hg1) hZ (u 518) (u 307) (by decide) (by decide)) q328a q328b q328c (g := (mkF m 151 (la14 o0 o1 o1 vi_ i_ sl6) [(.int i_), (.ref av)])) rfl (by rw [hml]; rfl) (Steps.refl _) (argsL := [(.int i_)]) (rest := []) (lenOf pd_20 rfl) rfl (wk rfl rfl) (D 65) (fun _ _ => ⟨rfl, e326, lD rfl, lD rfl⟩)) (k := 2) (n := 8) rfl rfl
       obtain ⟨rfl, Nq328, e328⟩ := hQ328
       have N328 := Fr.app N326 Nq328
       exact ⟨_, _, X328, e328, N328, fun _ k => st328.trans k⟩
      ·skip
       have hi : i_ = 0 := by rw [hes] at hin; have hin' : i_.toNatClampNeg < 1 := hin; have := own_nat hi0; have e0 : (0 : Int32).toInt = 0 := (by decide); rw [← Int32.toInt_inj]; omega
       have he : e1 = fI f_ mv := by rw [← hel, hes, hi]; rfl
       rw [he] at q2
       obtain ⟨cq329, kq329, q329a, q329b, q329c⟩ := isOf hZ e326 q1
       obtain ⟨_, T329, Lc329, X329, hQ329, st329⟩ := clB X326 (X326.interfaceBack hx (xi := M_54) (y := M_48) hown (mvT hZ (u 354)) (mvT hZ (u 355)) (mvT hZ (u 356)) (mvT hZ (u 357)) (mvT hZ (u 358)) (mvT hZ (u 359)) (mvT hZ (u 360)) (mvT hZ (u 352)) (by decide) (backOf (W := 0) (rm44_0 l Z a0 hw [] av i_ (fI f_ mv) hq85 n0 z89 hi q2) hZ (u 361) (u 147) (by decide) (by decide)) q329a q329b q329c (g := (mkF m 151 (la14 o0 o1 o1 vi_ i_ sl6) [(.int i_), (.ref av)])) rfl (by rw [hml]; rfl) (Steps.refl _) (argsL := [(.int i_)]) (rest := []) (lenOf pd_20 rfl) rfl (wk rfl rfl) (D 65) (fun _ _ => ⟨rfl, e326, lD rfl, lD rfl⟩)) (k := 2) (n := 8) rfl rfl
       obtain ⟨rfl, Nq329, e329⟩ := hQ329
       have N329 := Fr.app N326 Nq329
       exact ⟨_, _, X329, e329, N329, fun _ k => st329.trans k⟩
      ·skip
       by_cases hi : i_ = (0 : Int32)
       ·skip
        have he : e1 = fI f_ mv := by rw [← hel, hes, hi]; rfl
        rw [he] at q2
        obtain ⟨cq330, kq330, q330a, q330b, q330c⟩ := isOf hZ e326 q1
        obtain ⟨_, T330, Lc330, X330, hQ330, st330⟩ := clB X326 (X326.interfaceBack hx (xi := M_54) (y := M_48) hown (mvT hZ (u 354)) (mvT hZ (u 355)) (mvT hZ (u 356)) (mvT hZ (u 357)) (mvT hZ (u 358)) (mvT hZ (u 359)) (mvT hZ (u 360)) (mvT hZ (u 352)) (by decide) (backOf (W := 0) (rm44_0 l Z a0 hw [] av i_ (fI f_ mv) hq85 n0 z89 hi q2) hZ (u 361) (u 147) (by decide) (by decide)) q330a q330b q330c (g := (mkF m 151 (la14 o0 o1 o1 vi_ i_ sl6) [(.int i_), (.ref av)])) rfl (by rw [hml]; rfl) (Steps.refl _) (argsL := [(.int i_)]) (rest := []) (lenOf pd_20 rfl) rfl (wk rfl rfl) (D 65) (fun _ _ => ⟨rfl, e326, lD rfl, lD rfl⟩)) (k := 2) (n := 8) rfl rfl
        obtain ⟨rfl, Nq330, e330⟩ := hQ330
        have N330 := Fr.app N326 Nq330
        exact ⟨_, _, X330, e330, N330, fun _ k => st330.trans k⟩
       ·skip
        have hj : i_ = (1 : Int32) := by rw [hes] at hin; have hin' : i_.toNatClampNeg < 2 := hin; have := own_nat hi0; have e0 : (0 : Int32).toInt = 0 := (by decide); have e1 : (1 : Int32).toInt = 1 := (by decide); rw [← Int32.toInt_inj] at hi ⊢; omega
        have he : e2 = fI f_ mv := by rw [← hel, hes, hj]; rfl
        rw [he] at q3 hne
        obtain ⟨cq331, kq331, q331a, q331b, q331c⟩ := isOf hZ e326 q1
        obtain ⟨_, T331, Lc331, X331, hQ331, st331⟩ := clB X326 (X326.interfaceBack hx (xi := M_54) (y := M_48) hown (mvT hZ (u 354)) (mvT hZ (u 355)) (mvT hZ (u 356)) (mvT hZ (u 357)) (mvT hZ (u 358)) (mvT hZ (u 359)) (mvT hZ (u 360)) (mvT hZ (u 352)) (by decide) (backOf (W := 0) (rm44_1 l Z a0 hw [] av i_ (fI f_ mv) wE hq85 n0 z89 q3 hne (own_WE J114) hi hj) hZ (u 361) (u 147) (by decide) (by decide)) q331a q331b q331c (g := (mkF m 151 (la14 o0 o1 o1 vi_ i_ sl6) [(.int i_), (.ref av)])) rfl (by rw [hml]; rfl) (Steps.refl _) (argsL := [(.int i_)]) (rest := []) (lenOf pd_20 rfl) rfl (wk rfl rfl) (D 65) (fun _ _ => ⟨rfl, e326, lD rfl, lD rfl⟩)) (k := 2) (n := 8) rfl rfl
        obtain ⟨rfl, Nq331, e331⟩ := hQ331
        have N331 := Fr.app N326 Nq331
        exact ⟨_, _, X331, e331, N331, fun _ k => st331.trans k⟩
     refine gob st327 ?_
     show gO (tF T327 m 156 (la14 o0 o1 o1 vi_ i_ sl6) [(.ref (fI f_ mv))])
     obtain ⟨T332, X332, e332, st332⟩ := castY X327 hx hZ hown (u 362) e327 (Ins.self (own_Wint J114 mlo mhi).1) (g := (mkF m 156 (la14 o0 o1 o1 vi_ i_ sl6) [(.ref (fI f_ mv))])) rfl rfl (D 66)
     refine gob st332 ?_
     obtain ⟨cq333, kq333, q333a, q333b, q333c⟩ := isOf hZ e332 (own_Wint J114 mlo mhi).1
     obtain ⟨_, T333, Lc333, X333, hQ333, st333⟩ := clB X332 (X332.virtualBack hx (y := M_23) (z := M_23) hown (mvT hZ (u 364)) (mvT hZ (u 365)) (notFace_of_selects (args := #[]) (mvT hZ (u 367))) (mvT hZ (u 367)) (mvT hZ (u 366)) (by decide) (backOf (W := 0) (rm45 l Z a0 hw [] (fI f_ mv) mv hq85 n0 z89 (own_Wint J114 mlo mhi).2) hZ (u 368) (u 40) (by decide) (by decide)) q333a q333c (g := (mkF m 159 (la14 o0 o1 o1 vi_ i_ sl6) [(.ref (fI f_ mv))])) rfl (by rw [hml]; rfl) (Steps.refl _) (argsL := []) (rest := []) (lenOf pd_18 rfl) rfl (wk rfl rfl) (D 67) (fun _ _ => ⟨rfl, e332, lD rfl, lD rfl⟩)) (k := 2) (n := 8) rfl rfl
     obtain ⟨rfl, Nq333, e333⟩ := hQ333
     have N333 := Fr.app N327 Nq333
     refine gob (fun _ k => st333.trans k) ?_
     refine go (XS.istore X333.here hx rfl (D 68) rfl (l' := (la15 o0 o1 o1 vi_ i_ mv)) (own_store6 hj120 rfl)) ?_
     refine gaN X333 hx (D 69) rfl rfl ?_
     obtain ⟨T334, X334, e334, st334⟩ := getF X333 hx hZ hown (host := "") (Or.inl (hW hw 247 rfl)) Via.refl e333 J98 (g := (mkF m 165 (la15 o0 o1 o1 vi_ i_ mv) [(.ref o0)])) rfl rfl (D 70)
     refine gob st334 ?_
     refine giM X334 hx (D 71) rfl ?_
     refine go (XS.lloadN X334.here hx rfl (D 72) rfl) ?_
     refine giM X334 hx (D 73) rfl ?_
     refine go (XS.i2l X334.here hx rfl (D 74) rfl) ?_
     show gO (tF T334 m 174 (la15 o0 o1 o1 vi_ i_ mv) [(.long (i_.toInt64)), (.long vi_), (.int mv), (.ref wvi)])
     refine go (XS.ladd X334.here hx rfl (D 75) rfl) ?_
     obtain ⟨cl335, Ar335, S335, Nn335, H335⟩ := id J113
     obtain ⟨T336, h336, X336, e336, W336, st336⟩ := stJ X334 hx hZ e334 Ar335 (j := mv) (inb_of S335 hI.1) (g := (mkF m 175 (la15 o0 o1 o1 vi_ i_ mv) [(.long (vi_ + (i_.toInt64))), (.int mv), (.ref wvi)])) rfl rfl (D 76)
     refine gob st336 ?_
     have z337 : n0 ≤ h336.size := Nat.le_trans z89 (Keep.of_wr W336).1
     have N336 := Fr.snoc X336 N333 (Nat.le_trans nS gs_wvi)
     have V336 := own_loset Ar335 S335 Nn335 H335 W336 hI.2
     show gO (tF T336 m 176 (la15 o0 o1 o1 vi_ i_ mv) [])
     refine gaN X336 hx (D 77) rfl rfl ?_
     have c338 := (J99.other W336 (Or.inl ne_c_wvi))
     obtain ⟨T339, X339, e339, st339⟩ := getF X336 hx hZ hown (host := "") (Or.inl (hW hw 219 rfl)) Via.refl e336 c338 (g := (mkF m 177 (la15 o0 o1 o1 vi_ i_ mv) [(.ref o0)])) rfl rfl (D 78)
     refine gob st339 ?_
     refine giM X339 hx (D 79) rfl ?_
     have c341 := (J114.wr W336 (Nat.le_trans nS gs_wvi))
     obtain ⟨_, T340, Lc340, X340, hQ340, st340⟩ := clS X339 (Jvm.LawKit.callS X339 hx (y := M_31) hown (mvT hZ (u 371)) (mvT hZ (u 39)) (mvT hZ (u 40)) (mvT hZ (u 41)) (by decide) (backOf (W := 1) (rm7 l Z a0 hw [] mv w_c f_ wE wL wD wA kD kA h336 n0 z337 c341 mlo mhi) hZ (u 41) (u 40) (by decide) (by decide)) (g := (mkF m 182 (la15 o0 o1 o1 vi_ i_ mv) [(.int mv), (.ref ww)])) rfl (by rw [hml]; rfl) (argsL := [(.int mv)]) (rest := [(.ref ww)]) (lenOf pd_16 rfl) rfl (wk rfl rfl) (D 80) (fun _ _ => ⟨rfl, e339, lD rfl, lD rfl⟩)) (k := 2) (n := 8) rfl rfl
     obtain ⟨rfl, Nq340, e340⟩ := hQ340
     have N340 := Fr.app N336 Nq340
     refine gob st340 ?_
     have c343 := (J91.wr W336)
     have c344 := (J105.other W336 (Or.inl ne_ww_wvi))
     have c345 := (J106.other W336 (Or.inl ne_ww_wvi))
     obtain ⟨cq342, kq342, q342a, q342b, q342c⟩ := isOf hZ e340 c343
     obtain ⟨_, T342, Lc342, X342, hQ342, st342⟩ := clB X340 (X340.interfaceBack hx (xi := M_73) (y := M_56) hown (mvT hZ (u 372)) (mvT hZ (u 373)) (mvT hZ (u 374)) (mvT hZ (u 375)) (mvT hZ (u 376)) (mvT hZ (u 377)) (mvT hZ (u 378)) (mvT hZ (u 379)) (by decide) (backOf (W := 0) (rm46 l Z a0 hw [] ww (fI f_ mv) h336 n0 z337 c343 c344 c345 (own_Wint c341 mlo mhi).1) hZ (u 380) (u 202) (by decide) (by decide)) q342a q342b q342c (g := (mkF m 185 (la15 o0 o1 o1 vi_ i_ mv) [(.ref (fI f_ mv)), (.ref ww)])) rfl (by rw [hml]; rfl) (Steps.refl _) (argsL := [(.ref (fI f_ mv))]) (rest := []) (lenOf pd_2 rfl) rfl (wk rfl rfl) (D 81) (fun _ _ => ⟨rfl, e340, lD rfl, lD rfl⟩)) (k := 2) (n := 8) rfl rfl
     obtain ⟨rfl, Nq342, e342⟩ := hQ342
     have N342 := Fr.app N340 Nq342
     refine gob (fun _ k => st342.trans k) ?_
     refine go (XS.pop X342.here hx rfl (D 82) rfl rfl) ?_
     refine gaN X342 hx (D 83) rfl rfl ?_
     have c346 := (J100.other W336 (Or.inl ne_c_wvi))
     obtain ⟨T347, X347, e347, st347⟩ := getF X342 hx hZ hown (host := "") (Or.inl (hW hw 221 rfl)) Via.refl e342 c346 (g := (mkF m 192 (la15 o0 o1 o1 vi_ i_ mv) [(.ref o0)])) rfl rfl (D 84)
     refine gob st347 ?_
     refine giM X347 hx (D 85) rfl ?_
     show gO (tF T347 m 197 (la15 o0 o1 o1 vi_ i_ mv) [(.int mv), (.ref wq)])
     obtain ⟨_, T348, Lc348, X348, hQ348, st348⟩ := clS X347 (Jvm.LawKit.callS X347 hx (y := M_31) hown (mvT hZ (u 371)) (mvT hZ (u 39)) (mvT hZ (u 40)) (mvT hZ (u 41)) (by decide) (backOf (W := 1) (rm7 l Z a0 hw [] mv w_c f_ wE wL wD wA kD kA h336 n0 z337 c341 mlo mhi) hZ (u 41) (u 40) (by decide) (by decide)) (g := (mkF m 197 (la15 o0 o1 o1 vi_ i_ mv) [(.int mv), (.ref wq)])) rfl (by rw [hml]; rfl) (argsL := [(.int mv)]) (rest := [(.ref wq)]) (lenOf pd_16 rfl) rfl (wk rfl rfl) (D 86) (fun _ _ => ⟨rfl, e347, lD rfl, lD rfl⟩)) (k := 2) (n := 8) rfl rfl
     obtain ⟨rfl, Nq348, e348⟩ := hQ348
     have N348 := Fr.app N342 Nq348
     refine gob st348 ?_
     have c350 := (J92.wr W336)
     have c351 := (J107.other W336 (Or.inl ne_wq_wvi))
     have c352 := (J108.other W336 (Or.inl ne_wq_wvi))
     obtain ⟨cq349, kq349, q349a, q349b, q349c⟩ := isOf hZ e348 c350
     obtain ⟨_, T349, Lc349, X349, hQ349, st349⟩ := clB X348 (X348.interfaceBack hx (xi := M_73) (y := M_56) hown (mvT hZ (u 372)) (mvT hZ (u 373)) (mvT hZ (u 374)) (mvT hZ (u 375)) (mvT hZ (u 376)) (mvT hZ (u 377)) (mvT hZ (u 378)) (mvT hZ (u 379)) (by decide) (backOf (W := 0) (rm46 l Z a0 hw [] wq (fI f_ mv) h336 n0 z337 c350 c351 c352 (own_Wint c341 mlo mhi).1) hZ (u 380) (u 202) (by decide) (by decide)) q349a q349b q349c (g := (mkF m 200 (la15 o0 o1 o1 vi_ i_ mv) [(.ref (fI f_ mv)), (.ref wq)])) rfl (by rw [hml]; rfl) (Steps.refl _) (argsL := [(.ref (fI f_ mv))]) (rest := []) (lenOf pd_2 rfl) rfl (wk rfl rfl) (D 87) (fun _ _ => ⟨rfl, e348, lD rfl, lD rfl⟩)) (k := 2) (n := 8) rfl rfl
     obtain ⟨rfl, Nq349, e349⟩ := hQ349
     have N349 := Fr.app N348 Nq349
     refine gob (fun _ k => st349.trans k) ?_
     refine go (XS.pop X349.here hx rfl (D 88) rfl rfl) ?_
     refine go (XS.iinc X349.here hx rfl (D 89) rfl (l' := (la15 o0 o1 o1 vi_ (i_ + (1 : Int32)) mv)) rfl) ?_
     refine go (XS.goto X349.here hx rfl (pc0 := 209) (pc' := 131) rfl (D 90) (by decide) (by decide)) ?_
     have c353 := (J90.wr W336)
     have c354 := (J93.wr W336)
     have c355 := (J94.other W336 (Or.inl ne_c_wvi))
     have c356 := (J95.other W336 (Or.inl ne_c_wvi))
     have c357 := (J96.other W336 (Or.inl ne_c_wvi))
     have c358 := (J97.other W336 (Or.inl ne_c_wvi))
     have c359 := (J98.other W336 (Or.inl ne_c_wvi))
     have c360 := (J101.other W336 (Or.inl ne_c_wvi))
     have c361 := (J102.other W336 (Or.inl ne_c_wvi))
     have c362 := (J103.other W336 (Or.inl ne_c_wvi))
     have c363 := (J104.other W336 (Or.inl ne_c_wvi))
     have c364 := (J109.other W336 (Or.inl (Ne.symm ne_wvi_wl)))
     have c365 := (J110.other W336 (Or.inl (Ne.symm ne_wvi_wl)))
     have c366 := (J111.other W336 (Or.inl (Ne.symm ne_wvi_wl)))
     have c367 := (J112.other W336 ne_wcr_wvi)
     have xs368 := (own_extW xs115 W336 gs_wvi)
     exact ih _ _ _ ((i_ + (1 : Int32))) (pre ++ [mv]) ((fun i => if i = (mv).toNatClampNeg then (vi_ + (i_.toInt64)) else fj i)) (.val (.int mv)) (X349.mono (by decide : 2 ≤ 2) (by decide : 8 ≤ 8)) e349 N349 z337  c353 c343 c350 c354 c355 c356 c357 c358 c359 c338 c346 c360 c361 c362 c363 c344 c345 c351 c352 c364 c365 c366 c367 V336 c341 xs368 (by rw [hj116]; simp) (by have q := own_nat hi0; have q2 := own_nat (j := (i_ + (1 : Int32))) (by omega); simp; omega) (by omega) hj119 (Or.inr ⟨_, rfl, rfl⟩)
   have c369 := (J47.wr W81)
   have c370 := (J48.wr W81)
   have c371 := (J49.wr W81)
   have c372 := (J50.wr W81)
   have c373 := (fo J51 W81 (Or.inr (hW hw 230 rfl)) (Or.inl (hW hw 334 rfl)) .int .long)
   have c374 := (fo J52 W81 (Or.inr (hW hw 232 rfl)) (Or.inl (hW hw 334 rfl)) .int .long)
   have c375 := (fo J53 W81 (Or.inr (hW hw 234 rfl)) (Or.inl (hW hw 334 rfl)) .int .long)
   have c376 := (fo J54 W81 (Or.inr (hW hw 245 rfl)) (Or.inl (hW hw 334 rfl)) (.array .boolean) .long)
   have c377 := (fo J55 W81 (Or.inr (hW hw 248 rfl)) (Or.inl (hW hw 334 rfl)) (.array .long) .long)
   have c378 := (fo J56 W81 (Or.inr (hW hw 220 rfl)) (Or.inl (hW hw 334 rfl)) (.object s_7) .long)
   have c379 := (fo J57 W81 (Or.inr (hW hw 222 rfl)) (Or.inl (hW hw 334 rfl)) (.object s_7) .long)
   have c380 := (fo J58 W81 (Or.inr (hW hw 228 rfl)) (Or.inl (hW hw 334 rfl)) (.object s_2) .long)
   have c381 := (fo J60 W81 (Or.inl (hW hw 485 rfl)) (Or.inl (hW hw 334 rfl)) .long .long)
   have c382 := (fo J61 W81 (Or.inl (hW hw 284 rfl)) (Or.inl (hW hw 334 rfl)) .boolean .long)
   have c383 := (J62.other W81 (Or.inl ne_ww_c))
   have c384 := (J63.other W81 (Or.inl ne_ww_c))
   have c385 := (J64.other W81 (Or.inl ne_wq_c))
   have c386 := (J65.other W81 (Or.inl ne_wq_c))
   have c387 := (J66.other W81 (Or.inl (Ne.symm ne_c_wl)))
   have c388 := (J67.other W81 (Or.inl (Ne.symm ne_c_wl)))
   have c389 := (J68.other W81 (Or.inl (Ne.symm ne_c_wl)))
   have c390 := (J69.other W81 (Ne.symm ne_c_wcr))
   have c391 := (J70.other W81 (Ne.symm ne_c_wvi))
   have c392 := (J71.wr W81 (Nat.le_trans nS gs_c))
   have xs393 := (own_extW xs72 W81 gs_c)
   exact loop ms _ _ _ ((0 : Int32)) ([]) (ff_) (sl) (X81.mono (by decide : 2 ≤ 2) (by decide : 8 ≤ 8)) e81 N81 z82  c369 c370 c371 c372 c373 c374 c375 c376 c377 c378 c379 c380 Fw81 c381 c382 c383 c384 c385 c386 c387 c388 c389 c390 c391 c392 xs393 rfl rfl (by decide) rfl hj74
  rcases FF with ⟨hfs, hks⟩ | ⟨fb, fk, hfs, hks, fE, fF⟩
  ·skip
   rw [hfs] at iF
   obtain ⟨ar394, ka394, i394a, i394b, i394c⟩ := own_il0 iF
   obtain ⟨cq395, kq395, q395a, q395b, q395c⟩ := isOf hZ e39 (i394a.ext xs37)
   obtain ⟨_, T395, Lc395, X395, hQ395, st395⟩ := clB X39 (X39.interfaceBack hx (xi := M_61) (y := M_50) hown (mvT hZ (u 290)) (mvT hZ (u 291)) (mvT hZ (u 292)) (mvT hZ (u 293)) (mvT hZ (u 294)) (mvT hZ (u 295)) (mvT hZ (u 296)) (mvT hZ (u 297)) (by decide) (backOf (W := 0) (rm37_N l Z a0 hw [] af ar394 ka394 (0 : Int32) [] hq7 n0 z11 (i394a.ext xs37) (i394b.ext xs37) (i394c.ext xs37)) hZ (u 298) (u 156) (by decide) (by decide)) q395a q395b q395c (g := (mkF m 58 (la12 o0 o1 o1 vi_) [(.ref af)])) rfl (by rw [hml]; rfl) (Steps.refl _) (argsL := []) (rest := []) (lenOf pd_23 rfl) rfl (wk rfl rfl) (D 26) (fun _ _ => ⟨rfl, e39, lD rfl, lD rfl⟩)) (k := 2) (n := 8) rfl rfl
   obtain ⟨b396, rfl, Nq395, K395, hz397, F398, F399, F400, F401, F402⟩ := hQ395
   have N395 := Fr.app N39 Nq395
   have z419 : n0 ≤ T395.heap.size := Nat.le_trans z11 K395.1
   refine gob (fun _ k => st395.trans k) ?_
   refine go (XS.astore X395.here hx rfl (D 27) rfl rfl (l' := (la16 o0 o1 o1 vi_ b396)) rfl) ?_
   refine gaM X395 hx (D 28) rfl rfl ?_
   obtain ⟨cq420, kq420, q420a, q420b, q420c⟩ := isOf hZ (rfl : T395.heap = _) F398
   obtain ⟨_, T420, Lc420, X420, hQ420, st420⟩ := clB X395 (X395.interfaceBack hx (xi := M_62) (y := M_52) hown (mvT hZ (u 324)) (mvT hZ (u 325)) (mvT hZ (u 326)) (mvT hZ (u 327)) (mvT hZ (u 328)) (mvT hZ (u 329)) (mvT hZ (u 330)) (mvT hZ (u 331)) (by decide) (backOf (W := 0) (rm40_00 l Z a0 hw [] b396 T395.heap n0 z419 F401 F400) hZ (u 332) (u 301) (by decide) (by decide)) q420a q420b q420c (g := (mkF m 67 (la16 o0 o1 o1 vi_ b396) [(.ref b396)])) rfl (by rw [hml]; rfl) (Steps.refl _) (argsL := []) (rest := []) (lenOf pd_7 rfl) rfl (wk rfl rfl) (D 29) (fun _ _ => ⟨rfl, (rfl : T395.heap = _), lD rfl, lD rfl⟩)) (k := 2) (n := 8) rfl rfl
   obtain ⟨rfl, Nq420, e420⟩ := hQ420
   have N420 := Fr.app N395 Nq420
   refine gob (fun _ k => st420.trans k) ?_
   show gO (tF T420 m 72 (la16 o0 o1 o1 vi_ b396) [(.int 0)])
   refine go (XS.ifYes X420.here hx rfl (pc0 := 72) (pc' := 109) rfl (D 30) rfl ((if0 _ _).trans (teq (by decide : (0 : Int32) = (0 : Int32))).1) (by decide) (by decide)) ?_
   have c421 := (J12.keep K395)
   have c422 := (J13.keep K395)
   have c423 := (J14.keep K395)
   have c424 := (J15.keep K395)
   have c425 := (J16.keep K395 nin0)
   have c426 := (J17.keep K395 nin0)
   have c427 := (J18.keep K395 nin0)
   have c428 := (J19.keep K395 nin0)
   have c429 := (J20.keep K395 nin0)
   have c430 := (J21.keep K395 nin0)
   have c431 := (J22.keep K395 nin0)
   have c432 := (J23.keep K395 nin0)
   have c433 := (J24.keep K395 nin0)
   have c434 := (J25.keep K395 nin0)
   have c435 := (J26.keep K395 nin0)
   have c436 := (J27.keep K395 nin0)
   have c437 := (J28.keep K395 nin0)
   have c438 := (J29.keep K395 nin0)
   have c439 := (J30.keep K395 nin0)
   have c440 := (J31.keep K395 nin0)
   have c441 := (J32.keep K395 nin0)
   have c442 := (J33.keep K395 nin0)
   have c443 := (J34.keep K395 nin0)
   have c444 := (J35.keep K395 nin0)
   have c445 := (J36.keep K395 geN)
   have xs446 := (own_extK xs37 K395 all0)
   exact J109 _ _ _ (up_) (b396) (.unset) (X420.mono (by decide : 2 ≤ 2) (by decide : 8 ≤ 8)) e420 N420 z419  c421 c422 c423 c424 c425 c426 c427 c428 c429 c430 c431 c432 c433 c434 c435 c436 c437 c438 c439 c440 c441 c442 c443 c444 c445 xs446 (Or.inl ⟨hks, rfl⟩) (Or.inl rfl)
  ·skip
   rw [hfs] at iF
   obtain ⟨i447a, i447b, i447c⟩ := own_il1 (e := fb) iF
   obtain ⟨cq448, kq448, q448a, q448b, q448c⟩ := isOf hZ e39 (i447a.ext xs37)
   obtain ⟨_, T448, Lc448, X448, hQ448, st448⟩ := clB X39 (X39.interfaceBack hx (xi := M_61) (y := M_50) hown (mvT hZ (u 290)) (mvT hZ (u 291)) (mvT hZ (u 292)) (mvT hZ (u 470)) (mvT hZ (u 294)) (mvT hZ (u 295)) (mvT hZ (u 471)) (mvT hZ (u 352)) (by decide) (backOf (W := 0) (rm37_1 l Z a0 hw [] af wE hq7 n0 z11 (i447a.ext xs37) (i447c.ext xs37) (own_WE J36)) hZ (u 298) (u 156) (by decide) (by decide)) q448a q448b q448c (g := (mkF m 58 (la12 o0 o1 o1 vi_) [(.ref af)])) rfl (by rw [hml]; rfl) (Steps.refl _) (argsL := []) (rest := []) (lenOf pd_23 rfl) rfl (wk rfl rfl) (D 26) (fun _ _ => ⟨rfl, e39, lD rfl, lD rfl⟩)) (k := 2) (n := 8) rfl rfl
   obtain ⟨b449, rfl, Nq448, K448, hz450, F451, F452, F453, F454, F455⟩ := hQ448
   have N448 := Fr.app N39 Nq448
   have n456 : o0 ≠ b449 := nlt J12.lt hz450
   have n457 : ww ≠ b449 := nlt J13.lt hz450
   have n458 : wq ≠ b449 := nlt J14.lt hz450
   have n459 : wl ≠ b449 := nlt J15.lt hz450
   have n460 : wcr ≠ b449 := nlt J34.lt hz450
   have n461 : wvi ≠ b449 := nlt J35.lt hz450
   have g470 : n0 ≤ b449 := Nat.le_trans z11 hz450
   have gs471 : hS.size ≤ b449 := Nat.le_trans xs37.1 hz450
   have z472 : n0 ≤ T448.heap.size := Nat.le_trans z11 K448.1
   refine gob (fun _ k => st448.trans k) ?_
   refine go (XS.astore X448.here hx rfl (D 27) rfl rfl (l' := (la16 o0 o1 o1 vi_ b449)) rfl) ?_
   refine gaM X448 hx (D 28) rfl rfl ?_
   obtain ⟨cq473, kq473, q473a, q473b, q473c⟩ := isOf hZ (rfl : T448.heap = _) F451
   obtain ⟨_, T473, Lc473, X473, hQ473, st473⟩ := clB X448 (X448.interfaceBack hx (xi := M_62) (y := M_52) hown (mvT hZ (u 324)) (mvT hZ (u 325)) (mvT hZ (u 326)) (mvT hZ (u 327)) (mvT hZ (u 328)) (mvT hZ (u 329)) (mvT hZ (u 330)) (mvT hZ (u 331)) (by decide) (backOf (W := 0) (rm40_01 l Z a0 hw [] b449 T448.heap n0 z472 F454 F453) hZ (u 332) (u 301) (by decide) (by decide)) q473a q473b q473c (g := (mkF m 67 (la16 o0 o1 o1 vi_ b449) [(.ref b449)])) rfl (by rw [hml]; rfl) (Steps.refl _) (argsL := []) (rest := []) (lenOf pd_7 rfl) rfl (wk rfl rfl) (D 29) (fun _ _ => ⟨rfl, (rfl : T448.heap = _), lD rfl, lD rfl⟩)) (k := 2) (n := 8) rfl rfl
   obtain ⟨rfl, Nq473, e473⟩ := hQ473
   have N473 := Fr.app N448 Nq473
   refine gob (fun _ k => st473.trans k) ?_
   refine go (XS.ifNo X473.here hx rfl (D 30) rfl ((if0 _ _).trans (feq (by decide : ¬ ((1 : Int32) = (0 : Int32)))).1)) ?_
   refine gaM X473 hx (D 31) rfl rfl ?_
   have xs475 := (own_extK xs37 K448 all0)
   obtain ⟨cq474, kq474, q474a, q474b, q474c⟩ := isOf hZ e473 F451
   obtain ⟨_, T474, Lc474, X474, hQ474, st474⟩ := clB X473 (X473.interfaceBack hx (xi := M_74) (y := M_53) hown (mvT hZ (u 473)) (mvT hZ (u 474)) (mvT hZ (u 475)) (mvT hZ (u 476)) (mvT hZ (u 477)) (mvT hZ (u 478)) (mvT hZ (u 479)) (mvT hZ (u 331)) (by decide) (backOfWith (W := 0) (rm59 l Z a0 hw [] b449 af fb T448.heap n0 z472 F451 F454 F453 F452 (i447a.ext xs475) (i447b.ext xs475) g470) hZ (u 480) (u 301) (by decide) (by decide)) q474a q474b q474c (g := (mkF m 77 (la16 o0 o1 o1 vi_ b449) [(.ref b449)])) rfl (by rw [hml]; rfl) (Steps.refl _) (argsL := []) (rest := []) (lenOf pd_30 rfl) rfl (wk rfl rfl) (D 32) (fun _ _ => ⟨rfl, e473, lD rfl, lD rfl⟩)) (k := 2) (n := 8) rfl rfl
   obtain ⟨rfl, Nq474, K474, F476, F477, F478⟩ := hQ474
   have N474 := Fr.app N473 Nq474
   have z479 : n0 ≤ T474.heap.size := Nat.le_trans z472 K474.1
   refine gob (fun _ k => st474.trans k) ?_
   have xs480 := (own_extK xs475 K474 (allS gs471 all0))
   obtain ⟨T481, X481, e481, st481⟩ := castY X474 hx hZ hown (u 482) (rfl : T474.heap = _) (Ins.self (fE.ext xs480)) (g := (mkF m 82 (la16 o0 o1 o1 vi_ b449) [(.ref fb)])) rfl rfl (D 33)
   refine gob st481 ?_
   show gO (tF T481 m 85 (la16 o0 o1 o1 vi_ b449) [(.ref fb)])
   refine go (XS.astore X481.here hx rfl (D 34) rfl rfl (l' := (la17 o0 o1 o1 vi_ b449 fb)) rfl) ?_
   refine gaN X481 hx (D 35) rfl rfl ?_
   refine gaN X481 hx (D 36) rfl rfl ?_
   have c482 := ((J25.keep K448 nin0).keep K474 (ninS n456 nin0))
   obtain ⟨T483, X483, e483, st483⟩ := getF X481 hx hZ hown (host := "") (Or.inl (hW hw 484 rfl)) Via.refl e481 c482 (g := (mkF m 89 (la17 o0 o1 o1 vi_ b449 fb) [(.ref o0), (.ref o0)])) rfl rfl (D 37)
   refine gob st483 ?_
   refine go (XS.lloadN X483.here hx rfl (D 38) rfl) ?_
   refine gaM X483 hx (D 39) rfl rfl ?_
   obtain ⟨cq484, kq484, q484a, q484b, q484c⟩ := isOf hZ e483 (fE.ext xs480)
   obtain ⟨_, T484, Lc484, X484, hQ484, st484⟩ := clB X483 (X483.virtualBack hx (y := M_26) (z := M_26) hown (mvT hZ (u 486)) (mvT hZ (u 487)) (notFace_of_selects (args := #[]) (mvT hZ (u 489))) (mvT hZ (u 489)) (mvT hZ (u 488)) (by decide) (backOf (W := 5) (rm60 l Z a0 hw [] fb fk T474.heap n0 z479 (fF.ext xs480)) hZ (u 490) (u 460) (by decide) (by decide)) q484a q484c (g := (mkF m 95 (la17 o0 o1 o1 vi_ b449 fb) [(.ref fb), (.long vi_), (.long up_), (.ref o0)])) rfl (by rw [hml]; rfl) (Steps.refl _) (argsL := []) (rest := [(.long vi_), (.long up_), (.ref o0)]) (lenOf pd_18 rfl) rfl (wk rfl rfl) (D 40) (fun _ _ => ⟨rfl, e483, lD rfl, lD rfl⟩)) (k := 2) (n := 8) rfl rfl
   obtain ⟨rfl, Nq484, e484⟩ := hQ484
   have N484 := Fr.app N474 Nq484
   refine gob (fun _ k => st484.trans k) ?_
   refine go (XS.i2l X484.here hx rfl (D 41) rfl) ?_
   refine go (XS.ladd X484.here hx rfl (D 42) rfl) ?_
   show gO (tF T484 m 100 (la17 o0 o1 o1 vi_ b449 fb) [(.long (vi_ + (fk.toInt64))), (.long up_), (.ref o0)])
   obtain ⟨_, T485, Lc485, X485, hQ485, st485⟩ := clS X484 (Jvm.LawKit.callS X484 hx (y := M_5) hown (mvT hZ (u 491)) (mvT hZ (u 492)) (mvT hZ (u 71)) (mvT hZ (u 493)) (by decide) (backOf (W := 1) (rm61 l Z a0 hw [] up_ (vi_ + (fk.toInt64)) T474.heap n0 z479 ) hZ (u 493) (u 71) (by decide) (by decide)) (g := (mkF m 100 (la17 o0 o1 o1 vi_ b449 fb) [(.long (vi_ + (fk.toInt64))), (.long up_), (.ref o0)])) rfl (by rw [hml]; rfl) (argsL := [(.long up_), (.long (vi_ + (fk.toInt64)))]) (rest := [(.ref o0)]) (lenOf pd_31 rfl) rfl (wk rfl rfl) (D 43) (fun _ _ => ⟨rfl, e484, lD rfl, lD rfl⟩)) (k := 2) (n := 8) rfl rfl
   obtain ⟨r485, rfl, hr485, Nq485, e485⟩ := hQ485
   have N485 := Fr.app N484 Nq485
   refine gob st485 ?_
   have c486 := ((J12.keep K448).keep K474)
   obtain ⟨T487, h487, X487, e487, W487, st487⟩ := putF X485 hx hZ hown (host := "") (Or.inl (hW hw 484 rfl)) Via.refl e485 c482 c486 (Or.inl (hW hw 485 rfl)) (u 194) (ty := .long) (by decide) rfl rfl (g := (mkF m 103 (la17 o0 o1 o1 vi_ b449 fb) [(.long r485), (.ref o0)])) rfl rfl (D 44)
   refine gob st487 ?_
   have z488 : n0 ≤ h487.size := Nat.le_trans z479 (Keep.of_wr W487).1
   have N487 := Fr.snoc X487 N485 (Nat.le_trans nS gs_c)
   have Fw487 := c482.same W487
   show gO (tF T487 m 106 (la17 o0 o1 o1 vi_ b449 fb) [])
   refine go (XS.goto X487.here hx rfl (pc0 := 106) (pc' := 65) rfl (D 45) (by decide) (by decide)) ?_
   refine gaM X487 hx (D 28) rfl rfl ?_
   have c490 := (F476.other W487 (Or.inl (Ne.symm n456)))
   have c491 := (F477.other W487 (Or.inl (Ne.symm n456)))
   have c492 := ((F451.keep K474).wr W487)
   obtain ⟨cq489, kq489, q489a, q489b, q489c⟩ := isOf hZ e487 c492
   obtain ⟨_, T489, Lc489, X489, hQ489, st489⟩ := clB X487 (X487.interfaceBack hx (xi := M_62) (y := M_52) hown (mvT hZ (u 324)) (mvT hZ (u 325)) (mvT hZ (u 326)) (mvT hZ (u 327)) (mvT hZ (u 328)) (mvT hZ (u 329)) (mvT hZ (u 330)) (mvT hZ (u 331)) (by decide) (backOf (W := 0) (rm40_11 l Z a0 hw [] b449 h487 n0 z488 c490 c491) hZ (u 332) (u 301) (by decide) (by decide)) q489a q489b q489c (g := (mkF m 67 (la17 o0 o1 o1 vi_ b449 fb) [(.ref b449)])) rfl (by rw [hml]; rfl) (Steps.refl _) (argsL := []) (rest := []) (lenOf pd_7 rfl) rfl (wk rfl rfl) (D 29) (fun _ _ => ⟨rfl, e487, lD rfl, lD rfl⟩)) (k := 2) (n := 8) rfl rfl
   obtain ⟨rfl, Nq489, e489⟩ := hQ489
   have N489 := Fr.app N487 Nq489
   refine gob (fun _ k => st489.trans k) ?_
   refine go (XS.ifYes X489.here hx rfl (pc0 := 72) (pc' := 109) rfl (D 30) rfl ((if0 _ _).trans (teq (by decide : (0 : Int32) = (0 : Int32))).1) (by decide) (by decide)) ?_
   have c493 := (c486.wr W487)
   have c494 := (((J13.keep K448).keep K474).wr W487)
   have c495 := (((J14.keep K448).keep K474).wr W487)
   have c496 := (((J15.keep K448).keep K474).wr W487)
   have c497 := (fo ((J16.keep K448 nin0).keep K474 (ninS n456 nin0)) W487 (Or.inr (hW hw 230 rfl)) (Or.inl (hW hw 485 rfl)) .int .long)
   have c498 := (fo ((J17.keep K448 nin0).keep K474 (ninS n456 nin0)) W487 (Or.inr (hW hw 232 rfl)) (Or.inl (hW hw 485 rfl)) .int .long)
   have c499 := (fo ((J18.keep K448 nin0).keep K474 (ninS n456 nin0)) W487 (Or.inr (hW hw 234 rfl)) (Or.inl (hW hw 485 rfl)) .int .long)
   have c500 := (fo ((J19.keep K448 nin0).keep K474 (ninS n456 nin0)) W487 (Or.inr (hW hw 245 rfl)) (Or.inl (hW hw 485 rfl)) (.array .boolean) .long)
   have c501 := (fo ((J20.keep K448 nin0).keep K474 (ninS n456 nin0)) W487 (Or.inr (hW hw 248 rfl)) (Or.inl (hW hw 485 rfl)) (.array .long) .long)
   have c502 := (fo ((J21.keep K448 nin0).keep K474 (ninS n456 nin0)) W487 (Or.inr (hW hw 220 rfl)) (Or.inl (hW hw 485 rfl)) (.object s_7) .long)
   have c503 := (fo ((J22.keep K448 nin0).keep K474 (ninS n456 nin0)) W487 (Or.inr (hW hw 222 rfl)) (Or.inl (hW hw 485 rfl)) (.object s_7) .long)
   have c504 := (fo ((J23.keep K448 nin0).keep K474 (ninS n456 nin0)) W487 (Or.inr (hW hw 228 rfl)) (Or.inl (hW hw 485 rfl)) (.object s_2) .long)
   have c505 := (fo ((J24.keep K448 nin0).keep K474 (ninS n456 nin0)) W487 (Or.inl (hW hw 334 rfl)) (Or.inl (hW hw 485 rfl)) .long .long)
   have c506 := (fo ((J26.keep K448 nin0).keep K474 (ninS n456 nin0)) W487 (Or.inl (hW hw 284 rfl)) (Or.inl (hW hw 485 rfl)) .boolean .long)
   have c507 := (((J27.keep K448 nin0).keep K474 (ninS n457 nin0)).other W487 (Or.inl ne_ww_c))
   have c508 := (((J28.keep K448 nin0).keep K474 (ninS n457 nin0)).other W487 (Or.inl ne_ww_c))
   have c509 := (((J29.keep K448 nin0).keep K474 (ninS n458 nin0)).other W487 (Or.inl ne_wq_c))
   have c510 := (((J30.keep K448 nin0).keep K474 (ninS n458 nin0)).other W487 (Or.inl ne_wq_c))
   have c511 := (((J31.keep K448 nin0).keep K474 (ninS n459 nin0)).other W487 (Or.inl (Ne.symm ne_c_wl)))
   have c512 := (((J32.keep K448 nin0).keep K474 (ninS n459 nin0)).other W487 (Or.inl (Ne.symm ne_c_wl)))
   have c513 := (((J33.keep K448 nin0).keep K474 (ninS n459 nin0)).other W487 (Or.inl (Ne.symm ne_c_wl)))
   have c514 := (((J34.keep K448 nin0).keep K474 (ninS n460 nin0)).other W487 (Ne.symm ne_c_wcr))
   have c515 := (((J35.keep K448 nin0).keep K474 (ninS n461 nin0)).other W487 (Ne.symm ne_c_wvi))
   have c516 := (((J36.keep K448 geN).keep K474 (geS g470 geN)).wr W487 (Nat.le_trans nS gs_c))
   have xs517 := (own_extW xs480 W487 gs_c)
   exact J109 _ _ _ (r485) (b449) (.val (.ref fb)) (X489.mono (by decide : 2 ≤ 2) (by decide : 8 ≤ 8)) e489 N489 z488  c493 c494 c495 c496 c497 c498 c499 c500 c501 c502 c503 c504 c505 Fw487 c506 c507 c508 c509 c510 c511 c512 c513 c514 c515 c516 xs517 (Or.inr ⟨fk, hks, hr485⟩) (Or.inr ⟨_, rfl, rfl⟩)
 rcases hcr with hcr | ⟨y, hcr, hy⟩
 ·skip
  rw [hcs, hcr] at iC
  obtain ⟨ar518, ka518, i518a, i518b, i518c⟩ := own_il0 iC
  obtain ⟨cq519, kq519, q519a, q519b, q519c⟩ := isOf hZ e3 (i518a.ext xs4)
  obtain ⟨_, T519, Lc519, X519, hQ519, st519⟩ := clB X3 (X3.interfaceBack hx (xi := M_61) (y := M_50) hown (mvT hZ (u 290)) (mvT hZ (u 291)) (mvT hZ (u 292)) (mvT hZ (u 293)) (mvT hZ (u 294)) (mvT hZ (u 295)) (mvT hZ (u 296)) (mvT hZ (u 297)) (by decide) (backOf (W := 0) (rm37_N l Z a0 hw [] ac ar518 ka518 (0 : Int32) [] h1 n0 z2 (i518a.ext xs4) (i518b.ext xs4) (i518c.ext xs4)) hZ (u 298) (u 156) (by decide) (by decide)) q519a q519b q519c (g := (mkF m 9 (la11 o0 o1 o1) [(.ref ac)])) rfl (by rw [hml]; rfl) (Steps.refl _) (argsL := []) (rest := []) (lenOf pd_23 rfl) rfl (wk rfl rfl) (D 5) (fun _ _ => ⟨rfl, e3, lD rfl, lD rfl⟩)) (k := 1) (n := 4) rfl rfl
  obtain ⟨b520, rfl, Nq519, K519, hz521, F522, F523, F524, F525, F526⟩ := hQ519
  have N519 := Fr.app N3 Nq519
  have c528 := (E_c.wr W1)
  have c530 := (E_ww.wr W1)
  have c532 := (E_wq.wr W1)
  have c534 := (E_wl.wr W1)
  have c536 := (T_b.other W1 (Ne.symm ne_c_wcr))
  have c538 := (T_l.other W1 (Ne.symm ne_c_wvi))
  have c540 := (IC.wr W1 (Nat.le_trans nS gs_c))
  have z550 : n0 ≤ T519.heap.size := Nat.le_trans z2 K519.1
  refine gob (fun _ k => st519.trans k) ?_
  refine go (XS.astoreN X519.here hx rfl (D 6) rfl rfl (l' := (la18 o0 o1 o1 b520)) rfl) ?_
  refine gaN X519 hx (D 7) rfl rfl ?_
  obtain ⟨cq551, kq551, q551a, q551b, q551c⟩ := isOf hZ (rfl : T519.heap = _) F522
  obtain ⟨_, T551, Lc551, X551, hQ551, st551⟩ := clB X519 (X519.interfaceBack hx (xi := M_62) (y := M_52) hown (mvT hZ (u 324)) (mvT hZ (u 325)) (mvT hZ (u 326)) (mvT hZ (u 327)) (mvT hZ (u 328)) (mvT hZ (u 329)) (mvT hZ (u 330)) (mvT hZ (u 331)) (by decide) (backOf (W := 0) (rm40_00 l Z a0 hw [] b520 T519.heap n0 z550 F525 F524) hZ (u 332) (u 301) (by decide) (by decide)) q551a q551b q551c (g := (mkF m 16 (la18 o0 o1 o1 b520) [(.ref b520)])) rfl (by rw [hml]; rfl) (Steps.refl _) (argsL := []) (rest := []) (lenOf pd_7 rfl) rfl (wk rfl rfl) (D 8) (fun _ _ => ⟨rfl, (rfl : T519.heap = _), lD rfl, lD rfl⟩)) (k := 1) (n := 4) rfl rfl
  obtain ⟨rfl, Nq551, e551⟩ := hQ551
  have N551 := Fr.app N519 Nq551
  refine gob (fun _ k => st551.trans k) ?_
  refine go (XS.ifYes X551.here hx rfl (pc0 := 21) (pc' := 49) rfl (D 9) rfl ((if0 _ _).trans (teq (by decide : (0 : Int32) = (0 : Int32))).1) (by decide) (by decide)) ?_
  show gO (tF T551 m 49 (la18 o0 o1 o1 b520) [])
  refine gaN X551 hx (D 21) rfl rfl ?_
  have c552 := ((fo C_visits W1 (Or.inl (hW hw 334 rfl)) (Or.inl (hW hw 284 rfl)) .long .boolean).keep K519 nin0)
  obtain ⟨T553, X553, e553, st553⟩ := getF X551 hx hZ hown (host := "") (Or.inl (hW hw 333 rfl)) Via.refl e551 c552 (g := (mkF m 50 (la18 o0 o1 o1 b520) [(.ref o0)])) rfl rfl (D 22)
  refine gob st553 ?_
  refine go (XS.lstoreN X553.here hx rfl (D 23) rfl (l' := (la12 o0 o1 o1 vi_)) rfl) ?_
  have c554 := (c528.keep K519)
  have c555 := (c530.keep K519)
  have c556 := (c532.keep K519)
  have c557 := (c534.keep K519)
  have c558 := ((fo C_nodes W1 (Or.inr (hW hw 230 rfl)) (Or.inl (hW hw 284 rfl)) .int .boolean).keep K519 nin0)
  have c559 := ((fo C_tokens W1 (Or.inr (hW hw 232 rfl)) (Or.inl (hW hw 284 rfl)) .int .boolean).keep K519 nin0)
  have c560 := ((fo C_self W1 (Or.inr (hW hw 234 rfl)) (Or.inl (hW hw 284 rfl)) .int .boolean).keep K519 nin0)
  have c561 := ((fo C_crashed W1 (Or.inr (hW hw 245 rfl)) (Or.inl (hW hw 284 rfl)) (.array .boolean) .boolean).keep K519 nin0)
  have c562 := ((fo C_visitedAt W1 (Or.inr (hW hw 248 rfl)) (Or.inl (hW hw 284 rfl)) (.array .long) .boolean).keep K519 nin0)
  have c563 := ((fo C_waiters W1 (Or.inr (hW hw 220 rfl)) (Or.inl (hW hw 284 rfl)) (.object s_7) .boolean).keep K519 nin0)
  have c564 := ((fo C_queued W1 (Or.inr (hW hw 222 rfl)) (Or.inl (hW hw 284 rfl)) (.object s_7) .boolean).keep K519 nin0)
  have c565 := ((fo C_learnedMidRound W1 (Or.inr (hW hw 228 rfl)) (Or.inl (hW hw 284 rfl)) (.object s_2) .boolean).keep K519 nin0)
  have c566 := ((fo C_upToDateFrom W1 (Or.inl (hW hw 485 rfl)) (Or.inl (hW hw 284 rfl)) .long .boolean).keep K519 nin0)
  have c567 := (Fw1.keep K519 nin0)
  have c568 := ((W_comparator.other W1 (Or.inl ne_ww_c)).keep K519 nin0)
  have c569 := ((W_root.other W1 (Or.inl ne_ww_c)).keep K519 nin0)
  have c570 := ((Q_comparator.other W1 (Or.inl ne_wq_c)).keep K519 nin0)
  have c571 := ((Q_root.other W1 (Or.inl ne_wq_c)).keep K519 nin0)
  have c572 := ((L_size.other W1 (Or.inl (Ne.symm ne_c_wl))).keep K519 nin0)
  have c573 := ((L_modCount.other W1 (Or.inl (Ne.symm ne_c_wl))).keep K519 nin0)
  have c574 := ((L_elementData.other W1 (Or.inl (Ne.symm ne_c_wl))).keep K519 nin0)
  have c575 := (c536.keep K519 nin0)
  have c576 := (c538.keep K519 nin0)
  have c577 := (c540.keep K519 geN)
  have xs578 := (own_extK xs4 K519 all0)
  exact J54 _ _ _ (g_) (X553.mono (by decide : 1 ≤ 1) (by decide : 4 ≤ 4)) e553 N551 z550  c554 c555 c556 c557 c558 c559 c560 c561 c562 c563 c564 c565 c552 c566 c567 c568 c569 c570 c571 c572 c573 c574 c575 c576 c577 xs578 (Or.inl ⟨hcr, rfl⟩)
 ·skip
  rw [hcs, hcr] at iC
  obtain ⟨i579a, i579b, i579c⟩ := own_il1 (e := (fI f_ y)) iC
  have ylo : -128 ≤ y.toInt := by omega
  have yhi : y.toInt ≤ 127 := by omega
  have y5 := own_idx5 (i := y) (by omega) hy.2
  have c581 := (IC.wr W1 (Nat.le_trans nS gs_c))
  obtain ⟨cq580, kq580, q580a, q580b, q580c⟩ := isOf hZ e3 (i579a.ext xs4)
  obtain ⟨_, T580, Lc580, X580, hQ580, st580⟩ := clB X3 (X3.interfaceBack hx (xi := M_61) (y := M_50) hown (mvT hZ (u 290)) (mvT hZ (u 291)) (mvT hZ (u 292)) (mvT hZ (u 470)) (mvT hZ (u 294)) (mvT hZ (u 295)) (mvT hZ (u 471)) (mvT hZ (u 352)) (by decide) (backOf (W := 0) (rm37_1 l Z a0 hw [] ac wE h1 n0 z2 (i579a.ext xs4) (i579c.ext xs4) (own_WE c581)) hZ (u 298) (u 156) (by decide) (by decide)) q580a q580b q580c (g := (mkF m 9 (la11 o0 o1 o1) [(.ref ac)])) rfl (by rw [hml]; rfl) (Steps.refl _) (argsL := []) (rest := []) (lenOf pd_23 rfl) rfl (wk rfl rfl) (D 5) (fun _ _ => ⟨rfl, e3, lD rfl, lD rfl⟩)) (k := 1) (n := 4) rfl rfl
  obtain ⟨b582, rfl, Nq580, K580, hz583, F584, F585, F586, F587, F588⟩ := hQ580
  have N580 := Fr.app N3 Nq580
  have c590 := (E_c.wr W1)
  have n589 : o0 ≠ b582 := nlt c590.lt hz583
  have c592 := (E_ww.wr W1)
  have n591 : ww ≠ b582 := nlt c592.lt hz583
  have c594 := (E_wq.wr W1)
  have n593 : wq ≠ b582 := nlt c594.lt hz583
  have c596 := (E_wl.wr W1)
  have n595 : wl ≠ b582 := nlt c596.lt hz583
  have c598 := (T_b.other W1 (Ne.symm ne_c_wcr))
  have n597 : wcr ≠ b582 := nlt c598.lt hz583
  have c600 := (T_l.other W1 (Ne.symm ne_c_wvi))
  have n599 : wvi ≠ b582 := nlt c600.lt hz583
  have g609 : n0 ≤ b582 := Nat.le_trans z2 hz583
  have gs610 : hS.size ≤ b582 := Nat.le_trans xs4.1 hz583
  have z611 : n0 ≤ T580.heap.size := Nat.le_trans z2 K580.1
  refine gob (fun _ k => st580.trans k) ?_
  refine go (XS.astoreN X580.here hx rfl (D 6) rfl rfl (l' := (la18 o0 o1 o1 b582)) rfl) ?_
  refine gaN X580 hx (D 7) rfl rfl ?_
  obtain ⟨cq612, kq612, q612a, q612b, q612c⟩ := isOf hZ (rfl : T580.heap = _) F584
  obtain ⟨_, T612, Lc612, X612, hQ612, st612⟩ := clB X580 (X580.interfaceBack hx (xi := M_62) (y := M_52) hown (mvT hZ (u 324)) (mvT hZ (u 325)) (mvT hZ (u 326)) (mvT hZ (u 327)) (mvT hZ (u 328)) (mvT hZ (u 329)) (mvT hZ (u 330)) (mvT hZ (u 331)) (by decide) (backOf (W := 0) (rm40_01 l Z a0 hw [] b582 T580.heap n0 z611 F587 F586) hZ (u 332) (u 301) (by decide) (by decide)) q612a q612b q612c (g := (mkF m 16 (la18 o0 o1 o1 b582) [(.ref b582)])) rfl (by rw [hml]; rfl) (Steps.refl _) (argsL := []) (rest := []) (lenOf pd_7 rfl) rfl (wk rfl rfl) (D 8) (fun _ _ => ⟨rfl, (rfl : T580.heap = _), lD rfl, lD rfl⟩)) (k := 1) (n := 4) rfl rfl
  obtain ⟨rfl, Nq612, e612⟩ := hQ612
  have N612 := Fr.app N580 Nq612
  refine gob (fun _ k => st612.trans k) ?_
  refine go (XS.ifNo X612.here hx rfl (D 9) rfl ((if0 _ _).trans (feq (by decide : ¬ ((1 : Int32) = (0 : Int32)))).1)) ?_
  refine gaN X612 hx (D 10) rfl rfl ?_
  show gO (tF T612 m 25 (la18 o0 o1 o1 b582) [(.ref b582)])
  have xs614 := (own_extK xs4 K580 all0)
  obtain ⟨cq613, kq613, q613a, q613b, q613c⟩ := isOf hZ e612 F584
  obtain ⟨_, T613, Lc613, X613, hQ613, st613⟩ := clB X612 (X612.interfaceBack hx (xi := M_74) (y := M_53) hown (mvT hZ (u 473)) (mvT hZ (u 474)) (mvT hZ (u 475)) (mvT hZ (u 476)) (mvT hZ (u 477)) (mvT hZ (u 478)) (mvT hZ (u 479)) (mvT hZ (u 331)) (by decide) (backOfWith (W := 0) (rm59 l Z a0 hw [] b582 ac (fI f_ y) T580.heap n0 z611 F584 F587 F586 F585 (i579a.ext xs614) (i579b.ext xs614) g609) hZ (u 480) (u 301) (by decide) (by decide)) q613a q613b q613c (g := (mkF m 25 (la18 o0 o1 o1 b582) [(.ref b582)])) rfl (by rw [hml]; rfl) (Steps.refl _) (argsL := []) (rest := []) (lenOf pd_30 rfl) rfl (wk rfl rfl) (D 11) (fun _ _ => ⟨rfl, e612, lD rfl, lD rfl⟩)) (k := 1) (n := 4) rfl rfl
  obtain ⟨rfl, Nq613, K613, F615, F616, F617⟩ := hQ613
  have N613 := Fr.app N612 Nq613
  have z618 : n0 ≤ T613.heap.size := Nat.le_trans z611 K613.1
  refine gob (fun _ k => st613.trans k) ?_
  have c619 := ((c581.keep K580 geN).keep K613 (geS g609 geN))
  obtain ⟨T620, X620, e620, st620⟩ := castY X613 hx hZ hown (u 362) (rfl : T613.heap = _) (Ins.self (own_Wint c619 ylo yhi).1) (g := (mkF m 30 (la18 o0 o1 o1 b582) [(.ref (fI f_ y))])) rfl rfl (D 12)
  refine gob st620 ?_
  obtain ⟨cq621, kq621, q621a, q621b, q621c⟩ := isOf hZ e620 (own_Wint c619 ylo yhi).1
  obtain ⟨_, T621, Lc621, X621, hQ621, st621⟩ := clB X620 (X620.virtualBack hx (y := M_23) (z := M_23) hown (mvT hZ (u 364)) (mvT hZ (u 365)) (notFace_of_selects (args := #[]) (mvT hZ (u 367))) (mvT hZ (u 367)) (mvT hZ (u 366)) (by decide) (backOf (W := 0) (rm45 l Z a0 hw [] (fI f_ y) y T613.heap n0 z618 (own_Wint c619 ylo yhi).2) hZ (u 368) (u 40) (by decide) (by decide)) q621a q621c (g := (mkF m 33 (la18 o0 o1 o1 b582) [(.ref (fI f_ y))])) rfl (by rw [hml]; rfl) (Steps.refl _) (argsL := []) (rest := []) (lenOf pd_18 rfl) rfl (wk rfl rfl) (D 13) (fun _ _ => ⟨rfl, e620, lD rfl, lD rfl⟩)) (k := 1) (n := 4) rfl rfl
  obtain ⟨rfl, Nq621, e621⟩ := hQ621
  have N621 := Fr.app N613 Nq621
  refine gob (fun _ k => st621.trans k) ?_
  refine go (XS.istore X621.here hx rfl (D 14) rfl (l' := (la19 o0 o1 o1 b582 y)) rfl) ?_
  refine gaN X621 hx (D 15) rfl rfl ?_
  have c622 := (((fo C_crashed W1 (Or.inr (hW hw 245 rfl)) (Or.inl (hW hw 284 rfl)) (.array .boolean) .boolean).keep K580 nin0).keep K613 (ninS n589 nin0))
  obtain ⟨T623, X623, e623, st623⟩ := getF X621 hx hZ hown (host := "") (Or.inl (hW hw 244 rfl)) Via.refl e621 c622 (g := (mkF m 39 (la19 o0 o1 o1 b582 y) [(.ref o0)])) rfl rfl (D 16)
  refine gob st623 ?_
  refine giM X623 hx (D 17) rfl ?_
  refine giC X623 hx (D 18) ?_
  have c625 := ((c598.keep K580 nin0).keep K613 (ninS n597 nin0))
  obtain ⟨cl624, Ar624, S624, H624⟩ := id c625
  obtain ⟨T626, h626, X626, e626, W626, st626⟩ := stZ X623 hx hZ e623 Ar624 (j := y) (fun q => q.elim y5.1 (fun q => by rw [S624] at q; exact absurd y5.2 (Nat.not_lt_of_le q))) (g := (mkF m 45 (la19 o0 o1 o1 b582 y) [(.int 1), (.int y), (.ref wcr)])) rfl rfl (D 19)
  refine gob st626 ?_
  have z627 : n0 ≤ h626.size := Nat.le_trans z618 (Keep.of_wr W626).1
  have N626 := Fr.snoc X626 N621 (Nat.le_trans nS gs_wcr)
  have V626 := own_boset Ar624 S624 H624 W626 (rfl : _ = (1 : Int32)) y5.2
  show gO (tF T626 m 46 (la19 o0 o1 o1 b582 y) [])
  refine go (XS.goto X626.here hx rfl (pc0 := 46) (pc' := 15) rfl (D 20) (by decide) (by decide)) ?_
  refine gaN X626 hx (D 7) rfl rfl ?_
  have c629 := (F615.other W626 (Or.inl (Ne.symm n597)))
  have c630 := (F616.other W626 (Or.inl (Ne.symm n597)))
  have c631 := ((F584.keep K613).wr W626)
  obtain ⟨cq628, kq628, q628a, q628b, q628c⟩ := isOf hZ e626 c631
  obtain ⟨_, T628, Lc628, X628, hQ628, st628⟩ := clB X626 (X626.interfaceBack hx (xi := M_62) (y := M_52) hown (mvT hZ (u 324)) (mvT hZ (u 325)) (mvT hZ (u 326)) (mvT hZ (u 327)) (mvT hZ (u 328)) (mvT hZ (u 329)) (mvT hZ (u 330)) (mvT hZ (u 331)) (by decide) (backOf (W := 0) (rm40_11 l Z a0 hw [] b582 h626 n0 z627 c629 c630) hZ (u 332) (u 301) (by decide) (by decide)) q628a q628b q628c (g := (mkF m 16 (la19 o0 o1 o1 b582 y) [(.ref b582)])) rfl (by rw [hml]; rfl) (Steps.refl _) (argsL := []) (rest := []) (lenOf pd_7 rfl) rfl (wk rfl rfl) (D 8) (fun _ _ => ⟨rfl, e626, lD rfl, lD rfl⟩)) (k := 1) (n := 4) rfl rfl
  obtain ⟨rfl, Nq628, e628⟩ := hQ628
  have N628 := Fr.app N626 Nq628
  refine gob (fun _ k => st628.trans k) ?_
  refine go (XS.ifYes X628.here hx rfl (pc0 := 21) (pc' := 49) rfl (D 9) rfl ((if0 _ _).trans (teq (by decide : (0 : Int32) = (0 : Int32))).1) (by decide) (by decide)) ?_
  refine gaN X628 hx (D 21) rfl rfl ?_
  have c632 := ((((fo C_visits W1 (Or.inl (hW hw 334 rfl)) (Or.inl (hW hw 284 rfl)) .long .boolean).keep K580 nin0).keep K613 (ninS n589 nin0)).other W626 (Or.inl ne_c_wcr))
  obtain ⟨T633, X633, e633, st633⟩ := getF X628 hx hZ hown (host := "") (Or.inl (hW hw 333 rfl)) Via.refl e628 c632 (g := (mkF m 50 (la19 o0 o1 o1 b582 y) [(.ref o0)])) rfl rfl (D 22)
  refine gob st633 ?_
  refine go (XS.lstoreN X633.here hx rfl (D 23) rfl (l' := (la12 o0 o1 o1 vi_)) rfl) ?_
  have c634 := (((c590.keep K580).keep K613).wr W626)
  have c635 := (((c592.keep K580).keep K613).wr W626)
  have c636 := (((c594.keep K580).keep K613).wr W626)
  have c637 := (((c596.keep K580).keep K613).wr W626)
  have c638 := ((((fo C_nodes W1 (Or.inr (hW hw 230 rfl)) (Or.inl (hW hw 284 rfl)) .int .boolean).keep K580 nin0).keep K613 (ninS n589 nin0)).other W626 (Or.inl ne_c_wcr))
  have c639 := ((((fo C_tokens W1 (Or.inr (hW hw 232 rfl)) (Or.inl (hW hw 284 rfl)) .int .boolean).keep K580 nin0).keep K613 (ninS n589 nin0)).other W626 (Or.inl ne_c_wcr))
  have c640 := ((((fo C_self W1 (Or.inr (hW hw 234 rfl)) (Or.inl (hW hw 284 rfl)) .int .boolean).keep K580 nin0).keep K613 (ninS n589 nin0)).other W626 (Or.inl ne_c_wcr))
  have c641 := (c622.other W626 (Or.inl ne_c_wcr))
  have c642 := ((((fo C_visitedAt W1 (Or.inr (hW hw 248 rfl)) (Or.inl (hW hw 284 rfl)) (.array .long) .boolean).keep K580 nin0).keep K613 (ninS n589 nin0)).other W626 (Or.inl ne_c_wcr))
  have c643 := ((((fo C_waiters W1 (Or.inr (hW hw 220 rfl)) (Or.inl (hW hw 284 rfl)) (.object s_7) .boolean).keep K580 nin0).keep K613 (ninS n589 nin0)).other W626 (Or.inl ne_c_wcr))
  have c644 := ((((fo C_queued W1 (Or.inr (hW hw 222 rfl)) (Or.inl (hW hw 284 rfl)) (.object s_7) .boolean).keep K580 nin0).keep K613 (ninS n589 nin0)).other W626 (Or.inl ne_c_wcr))
  have c645 := ((((fo C_learnedMidRound W1 (Or.inr (hW hw 228 rfl)) (Or.inl (hW hw 284 rfl)) (.object s_2) .boolean).keep K580 nin0).keep K613 (ninS n589 nin0)).other W626 (Or.inl ne_c_wcr))
  have c646 := ((((fo C_upToDateFrom W1 (Or.inl (hW hw 485 rfl)) (Or.inl (hW hw 284 rfl)) .long .boolean).keep K580 nin0).keep K613 (ninS n589 nin0)).other W626 (Or.inl ne_c_wcr))
  have c647 := (((Fw1.keep K580 nin0).keep K613 (ninS n589 nin0)).other W626 (Or.inl ne_c_wcr))
  have c648 := ((((W_comparator.other W1 (Or.inl ne_ww_c)).keep K580 nin0).keep K613 (ninS n591 nin0)).other W626 (Or.inl ne_ww_wcr))
  have c649 := ((((W_root.other W1 (Or.inl ne_ww_c)).keep K580 nin0).keep K613 (ninS n591 nin0)).other W626 (Or.inl ne_ww_wcr))
  have c650 := ((((Q_comparator.other W1 (Or.inl ne_wq_c)).keep K580 nin0).keep K613 (ninS n593 nin0)).other W626 (Or.inl ne_wq_wcr))
  have c651 := ((((Q_root.other W1 (Or.inl ne_wq_c)).keep K580 nin0).keep K613 (ninS n593 nin0)).other W626 (Or.inl ne_wq_wcr))
  have c652 := ((((L_size.other W1 (Or.inl (Ne.symm ne_c_wl))).keep K580 nin0).keep K613 (ninS n595 nin0)).other W626 (Or.inl (Ne.symm ne_wcr_wl)))
  have c653 := ((((L_modCount.other W1 (Or.inl (Ne.symm ne_c_wl))).keep K580 nin0).keep K613 (ninS n595 nin0)).other W626 (Or.inl (Ne.symm ne_wcr_wl)))
  have c654 := ((((L_elementData.other W1 (Or.inl (Ne.symm ne_c_wl))).keep K580 nin0).keep K613 (ninS n595 nin0)).other W626 (Or.inl (Ne.symm ne_wcr_wl)))
  have c655 := (((c600.keep K580 nin0).keep K613 (ninS n599 nin0)).other W626 (Ne.symm ne_wcr_wvi))
  have c656 := (c619.wr W626 (Nat.le_trans nS gs_wcr))
  have xs657 := (own_extW (own_extK xs614 K613 (allS gs610 all0)) W626 gs_wcr)
  exact J54 _ _ _ ((fun i => if i = (y).toNatClampNeg then (1 : Int32) else g_ i)) (X633.mono (by decide : 1 ≤ 1) (by decide : 4 ≤ 4)) e633 N628 z627  c634 c635 c636 c637 c638 c639 c640 c641 c642 c643 c644 c645 c632 c646 c647 c648 c649 c650 c651 c652 c653 c654 V626 c655 c656 xs657 (Or.inr ⟨y, hcr, rfl⟩)
theorem own_16 {x : Int32} (h0 : 0 ≤ x.toInt) (h1 : x.toInt ≤ 15) : x = 0 ∨ x = 1 ∨ x = 2 ∨ x = 3 ∨ x = 4 ∨ x = 5 ∨ x = 6 ∨ x = 7 ∨ x = 8 ∨ x = 9 ∨ x = 10 ∨ x = 11 ∨ x = 12 ∨ x = 13 ∨ x = 14 ∨ x = 15 := by
  have e : ∀ k : Nat, k < 16 → (Int32.ofNat k).toInt = k := fun k hk => Int32.toInt_ofNat_of_lt (by omega)
  have f : ∀ k : Nat, k < 16 → x.toInt = k → x = Int32.ofNat k := fun k hk hx => by rw [← Int32.toInt_inj, e k hk]; exact hx
  have g : x.toInt = 0 ∨ x.toInt = 1 ∨ x.toInt = 2 ∨ x.toInt = 3 ∨ x.toInt = 4 ∨ x.toInt = 5 ∨ x.toInt = 6 ∨ x.toInt = 7 ∨ x.toInt = 8 ∨ x.toInt = 9 ∨ x.toInt = 10 ∨ x.toInt = 11 ∨ x.toInt = 12 ∨ x.toInt = 13 ∨ x.toInt = 14 ∨ x.toInt = 15 := by omega
  rcases g with g | g | g | g | g | g | g | g | g | g | g | g | g | g | g | g
  · exact Or.inl (f 0 (by omega) g)
  · exact Or.inr (Or.inl (f 1 (by omega) g))
  · exact Or.inr (Or.inr (Or.inl (f 2 (by omega) g)))
  · exact Or.inr (Or.inr (Or.inr (Or.inl (f 3 (by omega) g))))
  · exact Or.inr (Or.inr (Or.inr (Or.inr (Or.inl (f 4 (by omega) g)))))
  · exact Or.inr (Or.inr (Or.inr (Or.inr (Or.inr (Or.inl (f 5 (by omega) g))))))
  · exact Or.inr (Or.inr (Or.inr (Or.inr (Or.inr (Or.inr (Or.inl (f 6 (by omega) g)))))))
  · exact Or.inr (Or.inr (Or.inr (Or.inr (Or.inr (Or.inr (Or.inr (Or.inl (f 7 (by omega) g))))))))
  · exact Or.inr (Or.inr (Or.inr (Or.inr (Or.inr (Or.inr (Or.inr (Or.inr (Or.inl (f 8 (by omega) g)))))))))
  · exact Or.inr (Or.inr (Or.inr (Or.inr (Or.inr (Or.inr (Or.inr (Or.inr (Or.inr (Or.inl (f 9 (by omega) g))))))))))
  · exact Or.inr (Or.inr (Or.inr (Or.inr (Or.inr (Or.inr (Or.inr (Or.inr (Or.inr (Or.inr (Or.inl (f 10 (by omega) g)))))))))))
  · exact Or.inr (Or.inr (Or.inr (Or.inr (Or.inr (Or.inr (Or.inr (Or.inr (Or.inr (Or.inr (Or.inr (Or.inl (f 11 (by omega) g))))))))))))
  · exact Or.inr (Or.inr (Or.inr (Or.inr (Or.inr (Or.inr (Or.inr (Or.inr (Or.inr (Or.inr (Or.inr (Or.inr (Or.inl (f 12 (by omega) g)))))))))))))
  · exact Or.inr (Or.inr (Or.inr (Or.inr (Or.inr (Or.inr (Or.inr (Or.inr (Or.inr (Or.inr (Or.inr (Or.inr (Or.inr (Or.inl (f 13 (by omega) g))))))))))))))
  · exact Or.inr (Or.inr (Or.inr (Or.inr (Or.inr (Or.inr (Or.inr (Or.inr (Or.inr (Or.inr (Or.inr (Or.inr (Or.inr (Or.inr (Or.inl (f 14 (by omega) g)))))))))))))))
  · exact Or.inr (Or.inr (Or.inr (Or.inr (Or.inr (Or.inr (Or.inr (Or.inr (Or.inr (Or.inr (Or.inr (Or.inr (Or.inr (Or.inr (Or.inr (f 15 (by omega) g)))))))))))))))
theorem own_1to4 {x : Int32} (h0 : 1 ≤ x.toInt) (h1 : x.toInt ≤ 4) : x = 1 ∨ x = 2 ∨ x = 3 ∨ x = 4 := by
  rcases own_16 (x := x) (by omega) (by omega) with h | h | h | h | h | h | h | h | h | h | h | h | h | h | h | h
  · subst h; exact absurd h0 (by decide)
  · exact Or.inl h
  · exact Or.inr (Or.inl h)
  · exact Or.inr (Or.inr (Or.inl h))
  · exact Or.inr (Or.inr (Or.inr h))
  all_goals (subst h; exact absurd h1 (by decide))
theorem own_nb {p n : Int32} (h : ((1 : Int32) + (p &&& (3 : Int32))) = n) : 1 ≤ n.toInt ∧ n.toInt ≤ 4 := by
  have h1 : (p &&& (3 : Int32)).toInt = p.toInt % (2 ^ 2 : Nat) := c_mask p 3 2 (by decide) (by decide)
  have h2 := c_iadd 1 (p &&& (3 : Int32))
  have h3 := rng32 ((1 : Int32) + (p &&& (3 : Int32)))
  have e : (1 : Int32).toInt = 1 := by decide
  rw [h] at h2 h3
  omega
theorem own_nn0 {p n : Int32} (h : ((1 : Int32) + (p &&& (3 : Int32))) = n) : n ≠ 0 := fun e => by
  have := own_nb h
  subst e
  have e0 : (0 : Int32).toInt = 0 := by decide
  omega
theorem own_rem1 {a n x : Int32} {k : Int32} (h : ((1 : Int32) + ((a &&& k) % n)) = x) (hn : 1 ≤ n.toInt ∧ n.toInt ≤ 4) (hk : 0 ≤ k.toInt := by decide) : 1 ≤ x.toInt ∧ x.toInt ≤ n.toInt := by
  have h1 := c_and a k hk
  have h2 := c_iremV (a &&& k) n
  have h3 := c_iadd 1 ((a &&& k) % n)
  have h4 := rng32 ((1 : Int32) + ((a &&& k) % n))
  have e : (1 : Int32).toInt = 1 := by decide
  rw [h] at h3 h4
  omega
theorem own_rem4 {n x : Int32} (h : 1 ≤ x.toInt ∧ x.toInt ≤ n.toInt) (hn : 1 ≤ n.toInt ∧ n.toInt ≤ 4) : 1 ≤ x.toInt ∧ x.toInt ≤ 4 := by omega
theorem own_hcr {v y n : Int32} {crs : List Int32} (h : (v = (0 : Int32) ∧ crs = []) ∨ (¬ (v = (0 : Int32)) ∧ crs = [y])) (hy : 1 ≤ y.toInt ∧ y.toInt ≤ n.toInt) (hn : 1 ≤ n.toInt ∧ n.toInt ≤ 4) : crs = [] ∨ ∃ y : Int32, crs = [y] ∧ 1 ≤ y.toInt ∧ y.toInt ≤ 4 := by
  rcases h with h | h
  · exact Or.inl h.2
  · exact Or.inr ⟨y, h.2, by omega, by omega⟩
theorem own_mml (x : Int32) : (mm x).length ≤ 4 := by
  unfold mm
  by_cases h1 : (x &&& (1 : Int32)) = (0 : Int32) <;> by_cases h2 : (x &&& (2 : Int32)) = (0 : Int32) <;> by_cases h3 : (x &&& (4 : Int32)) = (0 : Int32) <;> by_cases h4 : (x &&& (8 : Int32)) = (0 : Int32) <;> simp [h1, h2, h3, h4]
/-- the mask's members lie among the first n -/
def own_msk (n x : Int32) : Prop := (0 ≤ x.toInt ∧ x.toInt ≤ 15) ∧ ∀ m ∈ mm x, 1 ≤ m.toInt ∧ m.toInt ≤ n.toInt
theorem own_mms {n x : Int32} (h : own_msk n x) : ∀ m ∈ mm x, 1 ≤ m.toInt ∧ m.toInt ≤ n.toInt := h.2
theorem own_mskA : ∀ n ∈ [(1 : Int32), 2, 3, 4], ∀ x ∈ [(0 : Int32), 1, 2, 3, 4, 5, 6, 7, 8, 9, 10, 11, 12, 13, 14, 15], ∀ m ∈ mm (x &&& (((1 : Int32) <<< (n &&& 31)) - (1 : Int32))), 1 ≤ m.toInt ∧ m.toInt ≤ n.toInt := by decide +kernel
theorem own_mskB : ∀ n ∈ [(1 : Int32), 2, 3, 4], ∀ x ∈ [(0 : Int32), 1, 2, 3, 4, 5, 6, 7, 8, 9, 10, 11, 12, 13, 14, 15], 0 ≤ (x &&& (((1 : Int32) <<< (n &&& 31)) - (1 : Int32))).toInt ∧ (x &&& (((1 : Int32) <<< (n &&& 31)) - (1 : Int32))).toInt ≤ 15 := by decide +kernel
theorem own_in16 {x : Int32} (h0 : 0 ≤ x.toInt) (h1 : x.toInt ≤ 15) : x ∈ [(0 : Int32), 1, 2, 3, 4, 5, 6, 7, 8, 9, 10, 11, 12, 13, 14, 15] := by
  simp only [List.mem_cons, List.not_mem_nil, or_false]
  exact own_16 h0 h1
theorem own_in4 {n : Int32} (h : 1 ≤ n.toInt ∧ n.toInt ≤ 4) : n ∈ [(1 : Int32), 2, 3, 4] := by
  simp only [List.mem_cons, List.not_mem_nil, or_false]
  exact own_1to4 h.1 h.2
theorem own_mask1 {n al p x : Int32} (ha : (((1 : Int32) <<< (n &&& 31)) - (1 : Int32)) = al) (hx : ((p &&& (15 : Int32)) &&& al) = x) (hn : 1 ≤ n.toInt ∧ n.toInt ≤ 4) : own_msk n x := by
  have h1 : (p &&& (15 : Int32)).toInt = p.toInt % (2 ^ 4 : Nat) := c_mask p 15 4 (by decide) (by decide)
  subst ha
  subst hx
  have a := own_in16 (x := p &&& (15 : Int32)) (by omega) (by omega)
  exact ⟨own_mskB n (own_in4 hn) _ a, own_mskA n (own_in4 hn) _ a⟩
theorem own_mask2 {n al p x : Int32} (ha : (((1 : Int32) <<< (n &&& 31)) - (1 : Int32)) = al) (hx : ((p &&& (15 : Int32)) &&& al) = x) (hn : 1 ≤ n.toInt ∧ n.toInt ≤ 4) : own_msk n x := own_mask1 ha hx hn
theorem own_c4 : ∀ x : Int32, 0 ≤ (f_1 x).toInt ∧ (f_1 x).toInt ≤ 4 := fun x => by
  have b : ∀ y : Int32, 0 ≤ (y &&& (1 : Int32)).toInt ∧ (y &&& (1 : Int32)).toInt ≤ 1 := fun y => by
    have := c_mask y 1 1 (by decide) (by decide)
    simp at this
    omega
  have h0 := b x
  have h1 := b (x >>> ((1 : Int32) &&& 31))
  have h2 := b (x >>> ((2 : Int32) &&& 31))
  have h3 := b (x >>> ((3 : Int32) &&& 31))
  unfold f_1
  have q1 := c_iadd (x &&& (1 : Int32)) ((x >>> ((1 : Int32) &&& 31)) &&& (1 : Int32))
  have q2 := c_iadd ((x &&& (1 : Int32)) + ((x >>> ((1 : Int32) &&& 31)) &&& (1 : Int32))) ((x >>> ((2 : Int32) &&& 31)) &&& (1 : Int32))
  have q3 := c_iadd ((x &&& (1 : Int32)) + ((x >>> ((1 : Int32) &&& 31)) &&& (1 : Int32)) + ((x >>> ((2 : Int32) &&& 31)) &&& (1 : Int32))) ((x >>> ((3 : Int32) &&& 31)) &&& (1 : Int32))
  have r1 := rng32 ((x &&& (1 : Int32)) + ((x >>> ((1 : Int32) &&& 31)) &&& (1 : Int32)))
  have r2 := rng32 ((x &&& (1 : Int32)) + ((x >>> ((1 : Int32) &&& 31)) &&& (1 : Int32)) + ((x >>> ((2 : Int32) &&& 31)) &&& (1 : Int32)))
  have r3 := rng32 ((x &&& (1 : Int32)) + ((x >>> ((1 : Int32) &&& 31)) &&& (1 : Int32)) + ((x >>> ((2 : Int32) &&& 31)) &&& (1 : Int32)) + ((x >>> ((3 : Int32) &&& 31)) &&& (1 : Int32)))
  omega
theorem own_cnz {x y : Int32} (h : f_1 x = y) : (y + (1 : Int32)) ≠ 0 := fun e => by
  have := own_c4 x
  rw [h] at this
  have q := own_inc4 this.1 this.2
  rw [e] at q
  have e0 : (0 : Int32).toInt = 0 := by decide
  omega
/-- the plain law -/
def cb (x m : Int32) : Int32 := f_1 (x &&& (((1 : Int32) <<< ((m - (1 : Int32)) &&& 31)) - (1 : Int32)))
theorem own_upd (first : Int64) (f : Nat → Int64) {x m : Int32} (hx : 0 ≤ x.toInt ∧ x.toInt ≤ 15) (hm : 1 ≤ m.toInt ∧ m.toInt ≤ 4) : updv first (0 : Int32) (mm x) f m.toNatClampNeg = if ((x >>> ((m - (1 : Int32)) &&& 31)) &&& (1 : Int32)) = (0 : Int32) then f m.toNatClampNeg else first + (cb x m).toInt64 := by
  rcases own_16 hx.1 hx.2 with h | h | h | h | h | h | h | h | h | h | h | h | h | h | h | h <;> subst h <;> (rcases own_1to4 hm.1 hm.2 with h | h | h | h <;> subst h <;> rfl)
theorem own_vi {x : Int32} (hx : 0 ≤ x.toInt ∧ x.toInt ≤ 15) (f : Nat → Addr) : ((0 : Int64) + ((Int32.ofNat ((mm x).map (fI f)).length).toInt64)) = (f_1 x).toInt64 := by
  rw [List.length_map, Int64.zero_add]
  rcases own_16 hx.1 hx.2 with h | h | h | h | h | h | h | h | h | h | h | h | h | h | h | h <;> subst h <;> decide
theorem own_or {x y m : Int32} : (((x ||| y) >>> (m &&& 31)) &&& (1 : Int32)) = (0 : Int32) ↔ ((x >>> (m &&& 31)) &&& (1 : Int32)) = (0 : Int32) ∧ ((y >>> (m &&& 31)) &&& (1 : Int32)) = (0 : Int32) := by
  have d : ∀ a b c : Int32, (a ||| b) &&& c = (a &&& c) ||| (b &&& c) := fun a b c => by
    apply Int32.toBitVec_inj.mp
    simp only [Int32.toBitVec_and, Int32.toBitVec_or]
    ext i hi
    simp
    cases a.toBitVec[i] <;> cases b.toBitVec[i] <;> cases c.toBitVec[i] <;> rfl
  rw [Int32.shiftRight_or, d, Int32.or_eq_zero_iff]
theorem own_and30 {x m : Int32} (hm : 1 ≤ m.toInt ∧ m.toInt ≤ 4) : (((x &&& (30 : Int32)) >>> (m &&& 31)) &&& (1 : Int32)) = ((x >>> (m &&& 31)) &&& (1 : Int32)) := by
  rw [Int32.shiftRight_and, Int32.and_assoc]
  have e : ((30 : Int32) >>> (m &&& 31)) &&& (1 : Int32) = 1 := by
    rcases own_1to4 hm.1 hm.2 with h | h | h | h <;> subst h <;> decide
  rw [e]
theorem own_one {x m : Int32} (hx : 1 ≤ x.toInt ∧ x.toInt ≤ 4) (hm : 1 ≤ m.toInt ∧ m.toInt ≤ 4) : ((((1 : Int32) <<< (x &&& 31)) >>> (m &&& 31)) &&& (1 : Int32)) = (0 : Int32) ↔ m.toNatClampNeg ≠ x.toNatClampNeg := by
  rcases own_1to4 hx.1 hx.2 with h | h | h | h <;> subst h <;> (rcases own_1to4 hm.1 hm.2 with h | h | h | h <;> subst h <;> decide)
theorem own_zero {m : Int32} (hm : 1 ≤ m.toInt ∧ m.toInt ≤ 4) : (((0 : Int32) >>> (m &&& 31)) &&& (1 : Int32)) = (0 : Int32) := by
  rcases own_1to4 hm.1 hm.2 with h | h | h | h <;> subst h <;> decide
theorem own_gl {p k0 k1 k2 k3 k4 m : Int32} (hm : 1 ≤ m.toInt ∧ m.toInt ≤ 4)
    (h1 : (((p >>> ((1 : Int32) &&& 31)) &&& (1 : Int32)) = (0 : Int32) ∧ k1 = (0 : Int32)) ∨ (¬ (((p >>> ((1 : Int32) &&& 31)) &&& (1 : Int32)) = (0 : Int32)) ∧ k1 = (1 : Int32)))
    (h2 : (((p >>> ((2 : Int32) &&& 31)) &&& (1 : Int32)) = (0 : Int32) ∧ k2 = (0 : Int32)) ∨ (¬ (((p >>> ((2 : Int32) &&& 31)) &&& (1 : Int32)) = (0 : Int32)) ∧ k2 = (1 : Int32)))
    (h3 : (((p >>> ((3 : Int32) &&& 31)) &&& (1 : Int32)) = (0 : Int32) ∧ k3 = (0 : Int32)) ∨ (¬ (((p >>> ((3 : Int32) &&& 31)) &&& (1 : Int32)) = (0 : Int32)) ∧ k3 = (1 : Int32)))
    (h4 : (((p >>> ((4 : Int32) &&& 31)) &&& (1 : Int32)) = (0 : Int32) ∧ k4 = (0 : Int32)) ∨ (¬ (((p >>> ((4 : Int32) &&& 31)) &&& (1 : Int32)) = (0 : Int32)) ∧ k4 = (1 : Int32))) :
    gl [(nar .boolean k0), (nar .boolean k1), (nar .boolean k2), (nar .boolean k3), (nar .boolean k4)] m.toNatClampNeg = 0 ↔ ((p >>> (m &&& 31)) &&& (1 : Int32)) = (0 : Int32) := by
  have z : ∀ {a : Prop} {k : Int32}, ((a ∧ k = (0 : Int32)) ∨ (¬ a ∧ k = (1 : Int32))) → (nar .boolean k = 0 ↔ a) := fun {a k} h => by
    rcases h with ⟨h, rfl⟩ | ⟨h, rfl⟩
    · exact ⟨fun _ => h, fun _ => by decide⟩
    · exact ⟨fun q => absurd q (by decide), fun q => absurd q h⟩
  rcases own_1to4 hm.1 hm.2 with h | h | h | h <;> subst h
  · exact z h1
  · exact z h2
  · exact z h3
  · exact z h4
theorem own_G {p v2 v11 xx yy cm w1 w2 k0 k1 k2 k3 k4 m : Int32} {crs : List Int32} {g1 g3 g : Nat → Int32} {up3 u1 vi : Int64} (hm : 1 ≤ m.toInt ∧ m.toInt ≤ 4) (hxx : 1 ≤ xx.toInt ∧ xx.toInt ≤ 4) (hyy : 1 ≤ yy.toInt ∧ yy.toInt ≤ 4)
    (h1 : (((p >>> ((1 : Int32) &&& 31)) &&& (1 : Int32)) = (0 : Int32) ∧ k1 = (0 : Int32)) ∨ (¬ (((p >>> ((1 : Int32) &&& 31)) &&& (1 : Int32)) = (0 : Int32)) ∧ k1 = (1 : Int32)))
    (h2 : (((p >>> ((2 : Int32) &&& 31)) &&& (1 : Int32)) = (0 : Int32) ∧ k2 = (0 : Int32)) ∨ (¬ (((p >>> ((2 : Int32) &&& 31)) &&& (1 : Int32)) = (0 : Int32)) ∧ k2 = (1 : Int32)))
    (h3 : (((p >>> ((3 : Int32) &&& 31)) &&& (1 : Int32)) = (0 : Int32) ∧ k3 = (0 : Int32)) ∨ (¬ (((p >>> ((3 : Int32) &&& 31)) &&& (1 : Int32)) = (0 : Int32)) ∧ k3 = (1 : Int32)))
    (h4 : (((p >>> ((4 : Int32) &&& 31)) &&& (1 : Int32)) = (0 : Int32) ∧ k4 = (0 : Int32)) ∨ (¬ (((p >>> ((4 : Int32) &&& 31)) &&& (1 : Int32)) = (0 : Int32)) ∧ k4 = (1 : Int32)))
    (hcr : (v11 = (0 : Int32) ∧ crs = []) ∨ (¬ (v11 = (0 : Int32)) ∧ crs = [yy])) (hg1 : isCr (gl [(nar .boolean k0), (nar .boolean k1), (nar .boolean k2), (nar .boolean k3), (nar .boolean k4)]) [] g1)
    (hg3 : (v2 = (0 : Int32) ∧ up3 = u1 ∧ g3 = g1) ∨ (¬ (v2 = (0 : Int32)) ∧ up3 = vi ∧ g3 = (fun i => if i = (xx).toNatClampNeg then (1 : Int32) else g1 i))) (hg : isCr g3 crs g)
    (hw1 : (v2 = (0 : Int32) ∧ w1 = (0 : Int32)) ∨ (¬ (v2 = (0 : Int32)) ∧ w1 = ((1 : Int32) <<< (xx &&& 31)))) (hw2 : (v11 = (0 : Int32) ∧ w2 = (0 : Int32)) ∨ (¬ (v11 = (0 : Int32)) ∧ w2 = ((1 : Int32) <<< (yy &&& 31)))) (hcm : (((p &&& (30 : Int32)) ||| w1) ||| w2) = cm) :
    g m.toNatClampNeg = 0 ↔ ((cm >>> (m &&& 31)) &&& (1 : Int32)) = (0 : Int32) := by
  have e1 : g1 m.toNatClampNeg = 0 ↔ ((p >>> (m &&& 31)) &&& (1 : Int32)) = (0 : Int32) := by
    rcases hg1 with ⟨-, q⟩ | ⟨y, q, -⟩
    · rw [q]; exact own_gl hm h1 h2 h3 h4
    · cases q
  have e3 : g3 m.toNatClampNeg = 0 ↔ ((p >>> (m &&& 31)) &&& (1 : Int32)) = (0 : Int32) ∧ ((w1 >>> (m &&& 31)) &&& (1 : Int32)) = (0 : Int32) := by
    rcases hg3 with ⟨a, -, b⟩ | ⟨a, -, b⟩
    · have hw : w1 = 0 := (hw1.resolve_right fun q => q.1 a).2
      rw [b, hw]
      exact e1.trans ⟨fun q => ⟨q, own_zero hm⟩, fun q => q.1⟩
    · have hw := (hw1.resolve_left fun q => a q.1).2
      rw [b, hw, own_one hxx hm]
      by_cases q : m.toNatClampNeg = xx.toNatClampNeg
      · simp [q]
      · simp only [q, if_false, ne_eq, not_false_eq_true, and_true]
        exact e1
  rw [← hcm, own_or, own_or, own_and30 hm]
  rcases hcr with ⟨a, b⟩ | ⟨a, b⟩
  · have hw : w2 = 0 := (hw2.resolve_right fun q => q.1 a).2
    rcases hg with ⟨-, c⟩ | ⟨y, c, -⟩
    · rw [c, hw]
      exact e3.trans ⟨fun q => ⟨q, own_zero hm⟩, fun q => q.1⟩
    · rw [b] at c; cases c
  · have hw := (hw2.resolve_left fun q => a q.1).2
    rcases hg with ⟨c, -⟩ | ⟨y, c, d⟩
    · rw [b] at c; cases c
    · rw [b] at c
      cases c
      rw [d, hw, own_one hyy hm]
      by_cases q : m.toNatClampNeg = yy.toNatClampNeg
      · simp [q]
      · simp only [q, if_false, ne_eq, not_false_eq_true, and_true]
        exact e3
theorem own_U {v2 v20 sa kk t1 t2 r : Int32} {ks : List Int32} {up3 u1 vi u : Int64} {g1 g3 g4 : Nat → Int32} (hvi : vi = sa.toInt64) (hsa : 0 ≤ sa.toInt ∧ sa.toInt ≤ 4) (hkk : 0 ≤ kk.toInt ∧ kk.toInt ≤ 4)
    (hks : (v20 = (0 : Int32) ∧ ks = []) ∨ (¬ (v20 = (0 : Int32)) ∧ ks = [kk])) (hu1 : isUp (0 : Int64) (0 : Int64) [] u1)
    (hg3 : (v2 = (0 : Int32) ∧ up3 = u1 ∧ g3 = g1) ∨ (¬ (v2 = (0 : Int32)) ∧ up3 = vi ∧ g3 = g4)) (hu : isUp up3 vi ks u)
    (ht1 : (v2 = (0 : Int32) ∧ t1 = (0 : Int32)) ∨ (¬ (v2 = (0 : Int32)) ∧ t1 = sa))
    (ht2 : (v20 = (0 : Int32) ∧ t2 = t1) ∨ (¬ (v20 = (0 : Int32)) ∧ ((t1 < (sa + kk) ∧ r = (sa + kk)) ∨ (¬ (t1 < (sa + kk)) ∧ r = t1)) ∧ t2 = r)) : u.toInt = t2.toInt ∧ 0 ≤ t2.toInt ∧ t2.toInt ≤ 8 := by
  have e0 : (0 : Int64).toInt = 0 := by decide
  have f0 : (0 : Int32).toInt = 0 := by decide
  have hu1' : u1 = 0 := by
    rcases hu1 with ⟨-, q⟩ | ⟨k, q, -⟩
    · exact q
    · cases q
  have hvi' : vi.toInt = sa.toInt := by rw [hvi, Int32.toInt_toInt64]
  have h3 : up3.toInt = t1.toInt ∧ 0 ≤ t1.toInt ∧ t1.toInt ≤ 4 := by
    rcases hg3 with ⟨a, b, -⟩ | ⟨a, b, -⟩
    · have c := (ht1.resolve_right fun q => q.1 a).2
      rw [b, hu1', c]
      decide
    · have c := (ht1.resolve_left fun q => a q.1).2
      rw [b, c]
      omega
  rcases hks with ⟨a, b⟩ | ⟨a, b⟩
  · have c := (ht2.resolve_right fun q => q.1 a).2
    rcases hu with ⟨-, d⟩ | ⟨k, d, -⟩
    · rw [d, c]; omega
    · rw [b] at d; cases d
  · have c := (ht2.resolve_left fun q => a q.1).2
    rcases hu with ⟨d, -⟩ | ⟨k, d, e⟩
    · rw [b] at d; cases d
    · rw [b] at d
      cases d
      have q1 := c_ladd vi (kk.toInt64)
      have q2 := rng64 (vi + (kk.toInt64))
      have q3 : kk.toInt64.toInt = kk.toInt := Int32.toInt_toInt64 kk
      have q4 := c_iadd sa kk
      have q5 := rng32 (sa + kk)
      rw [Int64.lt_iff_toInt_lt] at e
      have c1 := c.1
      rw [Int32.lt_iff_toInt_lt] at c1
      rw [c.2]
      rcases e with ⟨e, f⟩ | ⟨e, f⟩ <;> rcases c1 with ⟨g, h⟩ | ⟨g, h⟩ <;> rw [f, h] <;> omega
/-- where a member is up to date, fine says so -/
theorem own_F {m n sf cm va vb sa t2 : Int32} {u vi : Int64} {g : Nat → Int32} (hm : 1 ≤ m.toInt ∧ m.toInt ≤ 4) (hva : 0 ≤ va.toInt ∧ va.toInt ≤ 15) (hvb : 0 ≤ vb.toInt ∧ vb.toInt ≤ 15) (hvi : vi = sa.toInt64) (hsa : 0 ≤ sa.toInt ∧ sa.toInt ≤ 4) (hu : u.toInt = t2.toInt)
    (hG : g m.toNatClampNeg = 0 ↔ ((cm >>> (m &&& 31)) &&& (1 : Int32)) = (0 : Int32)) (hmn : m.toInt ≤ n.toInt) :
    (f_56 m n sf cm va vb sa t2 = 0 ∧ ¬ okm sf u g (updv vi (0 : Int32) (mm vb) (updv (0 : Int64) (0 : Int32) (mm va) (fun _ => (-1 : Int64)))) m) ∨ (f_56 m n sf cm va vb sa t2 = 1 ∧ okm sf u g (updv vi (0 : Int32) (mm vb) (updv (0 : Int64) (0 : Int32) (mm va) (fun _ => (-1 : Int64)))) m) := by
  have hnm : ¬ (n < m) := by rw [Int32.lt_iff_toInt_lt]; omega
  have ca := own_c4 (va &&& (((1 : Int32) <<< ((m - (1 : Int32)) &&& 31)) - (1 : Int32)))
  have cbb := own_c4 (vb &&& (((1 : Int32) <<< ((m - (1 : Int32)) &&& 31)) - (1 : Int32)))
  unfold okm f_56
  rw [own_upd vi _ hvb hm, own_upd (0 : Int64) _ hva hm, if_neg hnm]
  unfold cb
  generalize f_1 (va &&& (((1 : Int32) <<< ((m - (1 : Int32)) &&& 31)) - (1 : Int32))) = A at ca ⊢
  generalize f_1 (vb &&& (((1 : Int32) <<< ((m - (1 : Int32)) &&& 31)) - (1 : Int32))) = B at cbb ⊢
  by_cases hs : m = sf
  · exact Or.inr ⟨if_pos hs, Or.inl hs⟩
  rw [if_neg hs]
  by_cases hc : ((cm >>> (m &&& 31)) &&& (1 : Int32)) = (0 : Int32)
  · rw [if_pos hc]
    have hg0 := hG.mpr hc
    have e0 : (0 : Int64).toInt = 0 := by decide
    have em : (-1 : Int64).toInt = -1 := by decide
    have f0 : (0 : Int32).toInt = 0 := by decide
    have hvi' : vi.toInt = sa.toInt := by rw [hvi, Int32.toInt_toInt64]
    have a1 := c_ladd (0 : Int64) A.toInt64
    have a2 := rng64 ((0 : Int64) + A.toInt64)
    have a3 : A.toInt64.toInt = A.toInt := Int32.toInt_toInt64 A
    have b1 := c_ladd vi B.toInt64
    have b2 := rng64 (vi + B.toInt64)
    have b3 : B.toInt64.toInt = B.toInt := Int32.toInt_toInt64 B
    have b4 := c_iadd sa B
    have b5 := rng32 (sa + B)
    have no : ∀ {x : Int64}, (x.toInt < 0 ∨ x.toInt < u.toInt) → ¬ (m = sf ∨ ¬ (g m.toNatClampNeg = 0) ∨ (¬ (x < 0) ∧ ¬ (x < u))) := fun {x} h q => by
      rcases q with q | q | ⟨q1, q2⟩
      · exact hs q
      · exact q hg0
      · rw [Int64.lt_iff_toInt_lt] at q1 q2
        omega
    have yes : ∀ {x : Int64}, ¬ (x.toInt < 0) → ¬ (x.toInt < u.toInt) → (m = sf ∨ ¬ (g m.toNatClampNeg = 0) ∨ (¬ (x < 0) ∧ ¬ (x < u))) := fun {x} h1 h2 => Or.inr (Or.inr ⟨by rw [Int64.lt_iff_toInt_lt]; omega, by rw [Int64.lt_iff_toInt_lt]; omega⟩)
    by_cases hA : ((va >>> ((m - (1 : Int32)) &&& 31)) &&& (1 : Int32)) = (0 : Int32) <;> by_cases hB : ((vb >>> ((m - (1 : Int32)) &&& 31)) &&& (1 : Int32)) = (0 : Int32)
    · simp only [hA, hB, if_true]
      exact Or.inl ⟨trivial, no (by omega)⟩
    · simp only [hA, hB, if_true, if_false]
      rw [if_neg (by rw [Int32.lt_iff_toInt_lt]; omega)]
      by_cases q : sa + B < t2
      · rw [if_pos q]
        rw [Int32.lt_iff_toInt_lt] at q
        exact Or.inl ⟨rfl, no (by omega)⟩
      · rw [if_neg q]
        rw [Int32.lt_iff_toInt_lt] at q
        exact Or.inr ⟨rfl, yes (by omega) (by omega)⟩
    · simp only [hA, hB, if_true, if_false]
      rw [if_neg (by rw [Int32.lt_iff_toInt_lt]; omega)]
      by_cases q : A < t2
      · rw [if_pos q]
        rw [Int32.lt_iff_toInt_lt] at q
        exact Or.inl ⟨rfl, no (by omega)⟩
      · rw [if_neg q]
        rw [Int32.lt_iff_toInt_lt] at q
        exact Or.inr ⟨rfl, yes (by omega) (by omega)⟩
    · simp only [hA, hB, if_false]
      rw [if_neg (by rw [Int32.lt_iff_toInt_lt]; omega)]
      by_cases q : sa + B < t2
      · rw [if_pos q]
        rw [Int32.lt_iff_toInt_lt] at q
        exact Or.inl ⟨rfl, no (by omega)⟩
      · rw [if_neg q]
        rw [Int32.lt_iff_toInt_lt] at q
        exact Or.inr ⟨rfl, yes (by omega) (by omega)⟩
  · rw [if_neg hc]
    exact Or.inr ⟨rfl, Or.inr (Or.inl fun q => hc (hG.mp q))⟩
theorem own_over {m n sf cm va vb sa t2 : Int32} (h : n.toInt < m.toInt) : f_56 m n sf cm va vb sa t2 = 1 := by
  unfold f_56
  rw [if_pos (by rw [Int32.lt_iff_toInt_lt]; exact h)]
theorem own_kk {p sb kk : Int32} (hs : 0 ≤ sb.toInt ∧ sb.toInt ≤ 4) (h : ((p &&& (2147483647 : Int32)) % (sb + (1 : Int32))) = kk) : 0 ≤ kk.toInt ∧ kk.toInt ≤ 4 := by
  have h1 := c_and p (2147483647 : Int32) (by decide)
  have h2 := c_iremV (p &&& (2147483647 : Int32)) (sb + (1 : Int32))
  have h3 := own_inc4 hs.1 hs.2
  rw [h] at h2
  omega
theorem own_final {p2 p5 n sf va vb v2 v11 v20 xx yy sa sb kk k0 k1 k2 k3 k4 cm w1 w2 t1 t2 r ex rc : Int32} {crs ks : List Int32} {u1 up3 u : Int64} {g1 g3 g : Nat → Int32} {f : Nat → Addr}
    (hnb : 1 ≤ n.toInt ∧ n.toInt ≤ 4) (hva : own_msk n va) (hvb : own_msk n vb) (hxx : 1 ≤ xx.toInt ∧ xx.toInt ≤ n.toInt) (hyy : 1 ≤ yy.toInt ∧ yy.toInt ≤ n.toInt) (hsa : f_1 va = sa) (hsb : f_1 vb = sb) (hkk : ((p5 &&& (2147483647 : Int32)) % (sb + (1 : Int32))) = kk)
    (h1 : (((p2 >>> ((1 : Int32) &&& 31)) &&& (1 : Int32)) = (0 : Int32) ∧ k1 = (0 : Int32)) ∨ (¬ (((p2 >>> ((1 : Int32) &&& 31)) &&& (1 : Int32)) = (0 : Int32)) ∧ k1 = (1 : Int32)))
    (h2 : (((p2 >>> ((2 : Int32) &&& 31)) &&& (1 : Int32)) = (0 : Int32) ∧ k2 = (0 : Int32)) ∨ (¬ (((p2 >>> ((2 : Int32) &&& 31)) &&& (1 : Int32)) = (0 : Int32)) ∧ k2 = (1 : Int32)))
    (h3 : (((p2 >>> ((3 : Int32) &&& 31)) &&& (1 : Int32)) = (0 : Int32) ∧ k3 = (0 : Int32)) ∨ (¬ (((p2 >>> ((3 : Int32) &&& 31)) &&& (1 : Int32)) = (0 : Int32)) ∧ k3 = (1 : Int32)))
    (h4 : (((p2 >>> ((4 : Int32) &&& 31)) &&& (1 : Int32)) = (0 : Int32) ∧ k4 = (0 : Int32)) ∨ (¬ (((p2 >>> ((4 : Int32) &&& 31)) &&& (1 : Int32)) = (0 : Int32)) ∧ k4 = (1 : Int32)))
    (hcr : (v11 = (0 : Int32) ∧ crs = []) ∨ (¬ (v11 = (0 : Int32)) ∧ crs = [yy])) (hks : (v20 = (0 : Int32) ∧ ks = []) ∨ (¬ (v20 = (0 : Int32)) ∧ ks = [kk]))
    (hu1 : isUp (0 : Int64) (0 : Int64) [] u1) (hg1 : isCr (gl [(nar .boolean k0), (nar .boolean k1), (nar .boolean k2), (nar .boolean k3), (nar .boolean k4)]) [] g1)
    (hg3 : (v2 = (0 : Int32) ∧ up3 = u1 ∧ g3 = g1) ∨ (¬ (v2 = (0 : Int32)) ∧ up3 = ((0 : Int64) + ((Int32.ofNat ((mm va).map (fI f)).length).toInt64)) ∧ g3 = (fun i => if i = (xx).toNatClampNeg then (1 : Int32) else g1 i)))
    (hu : isUp up3 ((0 : Int64) + ((Int32.ofNat ((mm va).map (fI f)).length).toInt64)) ks u) (hg : isCr g3 crs g)
    (hrc : (rc = 1 ∧ ∀ m : Int32, 1 ≤ m.toInt → m.toInt ≤ n.toInt → okm sf u g (updv ((0 : Int64) + ((Int32.ofNat ((mm va).map (fI f)).length).toInt64)) (0 : Int32) (mm vb) (updv (0 : Int64) (0 : Int32) (mm va) (fun _ => (-1 : Int64)))) m) ∨ (rc = 0 ∧ ∃ m : Int32, 1 ≤ m.toInt ∧ m.toInt ≤ n.toInt ∧ ¬ (okm sf u g (updv ((0 : Int64) + ((Int32.ofNat ((mm va).map (fI f)).length).toInt64)) (0 : Int32) (mm vb) (updv (0 : Int64) (0 : Int32) (mm va) (fun _ => (-1 : Int64)))) m)))
    (hw1 : (v2 = (0 : Int32) ∧ w1 = (0 : Int32)) ∨ (¬ (v2 = (0 : Int32)) ∧ w1 = ((1 : Int32) <<< (xx &&& 31)))) (hw2 : (v11 = (0 : Int32) ∧ w2 = (0 : Int32)) ∨ (¬ (v11 = (0 : Int32)) ∧ w2 = ((1 : Int32) <<< (yy &&& 31)))) (hcm : (((p2 &&& (30 : Int32)) ||| w1) ||| w2) = cm)
    (ht1 : (v2 = (0 : Int32) ∧ t1 = (0 : Int32)) ∨ (¬ (v2 = (0 : Int32)) ∧ t1 = sa))
    (ht2 : (v20 = (0 : Int32) ∧ t2 = t1) ∨ (¬ (v20 = (0 : Int32)) ∧ ((t1 < (sa + kk) ∧ r = (sa + kk)) ∨ (¬ (t1 < (sa + kk)) ∧ r = t1)) ∧ t2 = r))
    (hex : ((f_56 (1 : Int32) n sf cm va vb sa t2) = (0 : Int32) ∧ ex = (0 : Int32)) ∨ (¬ ((f_56 (1 : Int32) n sf cm va vb sa t2) = (0 : Int32)) ∧ (f_56 (2 : Int32) n sf cm va vb sa t2) = (0 : Int32) ∧ ex = (0 : Int32)) ∨ (¬ ((f_56 (1 : Int32) n sf cm va vb sa t2) = (0 : Int32)) ∧ ¬ ((f_56 (2 : Int32) n sf cm va vb sa t2) = (0 : Int32)) ∧ (f_56 (3 : Int32) n sf cm va vb sa t2) = (0 : Int32) ∧ ex = (0 : Int32)) ∨ (¬ ((f_56 (1 : Int32) n sf cm va vb sa t2) = (0 : Int32)) ∧ ¬ ((f_56 (2 : Int32) n sf cm va vb sa t2) = (0 : Int32)) ∧ ¬ ((f_56 (3 : Int32) n sf cm va vb sa t2) = (0 : Int32)) ∧ (f_56 (4 : Int32) n sf cm va vb sa t2) = (0 : Int32) ∧ ex = (0 : Int32)) ∨ (¬ ((f_56 (1 : Int32) n sf cm va vb sa t2) = (0 : Int32)) ∧ ¬ ((f_56 (2 : Int32) n sf cm va vb sa t2) = (0 : Int32)) ∧ ¬ ((f_56 (3 : Int32) n sf cm va vb sa t2) = (0 : Int32)) ∧ ¬ ((f_56 (4 : Int32) n sf cm va vb sa t2) = (0 : Int32)) ∧ ex = (1 : Int32))) : rc = ex := by
  have hvi := own_vi hva.1 f
  rw [hsa] at hvi
  have csa := own_c4 va
  rw [hsa] at csa
  have csb := own_c4 vb
  rw [hsb] at csb
  have ckk := own_kk csb hkk
  generalize ((0 : Int64) + ((Int32.ofNat ((mm va).map (fI f)).length).toInt64)) = vi at hvi hg3 hu hrc
  have hU := own_U hvi csa ckk hks hu1 hg3 hu ht1 ht2
  have hF : ∀ m : Int32, 1 ≤ m.toInt → m.toInt ≤ n.toInt → _ := fun m a b => own_F (m := m) (n := n) (sf := sf) ⟨a, by omega⟩ hva.1 hvb.1 hvi csa hU.1 (own_G ⟨a, by omega⟩ (by omega) (by omega) h1 h2 h3 h4 hcr hg1 hg3 hg hw1 hw2 hcm) b
  rcases hrc with ⟨a, b⟩ | ⟨a, m, b1, b2, b3⟩
  · have ok : ∀ m : Int32, 1 ≤ m.toInt → f_56 m n sf cm va vb sa t2 = 0 → False := fun m c d => by
      by_cases q : m.toInt ≤ n.toInt
      · rcases hF m c q with ⟨-, e⟩ | ⟨e, -⟩
        · exact e (b m c q)
        · rw [e] at d; exact absurd d (by decide)
      · rw [own_over (by omega)] at d; exact absurd d (by decide)
    rcases hex with ⟨c, -⟩ | ⟨-, c, -⟩ | ⟨-, -, c, -⟩ | ⟨-, -, -, c, -⟩ | ⟨-, -, -, -, c⟩
    · exact (ok _ (by decide) c).elim
    · exact (ok _ (by decide) c).elim
    · exact (ok _ (by decide) c).elim
    · exact (ok _ (by decide) c).elim
    · rw [a, c]
  · have z : f_56 m n sf cm va vb sa t2 = 0 := by
      rcases hF m b1 b2 with ⟨e, -⟩ | ⟨-, e⟩
      · exact e
      · exact absurd e b3
    rcases hex with ⟨-, c⟩ | ⟨-, -, c⟩ | ⟨-, -, -, c⟩ | ⟨-, -, -, -, c⟩ | ⟨c1, c2, c3, c4, -⟩
    · rw [a, c]
    · rw [a, c]
    · rw [a, c]
    · rw [a, c]
    · rcases own_1to4 b1 (by omega) with q | q | q | q <;> subst q
      · exact absurd z c1
      · exact absurd z c2
      · exact absurd z c3
      · exact absurd z c4
theorem own_len {s : State} {args : Array Value} {t : Term} {k : Int32} {a : Addr} {cl : Cell} {ty : FieldType} (A : Arr s s.heap a cl ty) (ht : t.eval args s none [] s = some (.ref a)) (h : (Jvm.Cond.eq (.length t) (.int k)).value args s none s [] = some true) : cl.slots.size < 2 ^ 31 ∧ cl.slots.size.toInt32 = k := by
  obtain ⟨x, y, e1, e2, -, -⟩ := cmp_v (Or.inl h)
  have q : (Term.int k).eval args s none [] s = some (.int k) := rfl
  have e3 : y = .int k := by
    rw [q] at e2
    exact (Option.some.inj e2).symm
  subst e3
  have e4 : x = .int k := by
    cases x <;> simp [Cond.value, e1, q] at h
    rw [h]
  subst e4
  have ha := Arr.fin (U := s) (State.Warmed39.refl s).alike A
  by_cases hl : cl.slots.size < 2 ^ 31
  · rw [len_f ht ha hl] at e1
    exact ⟨hl, Value.int.inj (Option.some.inj e1)⟩
  · simp [Term.eval, ht, ha, hl] at e1
theorem own_exaI {s : State} {args : Array Value} {t : Term} {K : String} {ix : List Nat} (h : (Jvm.Cond.exactly t K).value args s none s ix = some true) : ∃ a, t.eval args s none ix s = some (.ref a) ∧ Exa s s.heap a K := by
  have h' : (Jvm.Cond.exactly t K).holds args s none s ix = true := by simp [Cond.holds, h]
  obtain ⟨a', c', cell, k, e1, e2, e3, e4, e5, rfl, e7⟩ := Cond.exactly_spec h'
  exact ⟨a', e1, cell, k, e3, e2, e4, e5, e7⟩
theorem own_eqT {s : State} {args : Array Value} {t u : Term} {k : Int32} {ix : List Nat} (h : (Jvm.Cond.eq t u).value args s none s ix = some true) (hu : u.eval args s none ix s = some (.int k)) : t.eval args s none ix s = some (.int k) := by
  obtain ⟨x, y, e1, e2, -, -⟩ := cmp_v (Or.inl h)
  have e3 : y = .int k := by
    rw [hu] at e2
    exact (Option.some.inj e2).symm
  subst e3
  have e4 : x = .int k := by
    cases x <;> simp [Cond.value, e1, hu] at h
    rw [h]
  rw [e1, e4]
theorem own_fldT {s : State} {args : Array Value} {t : Term} {K n d : String} {ix : List Nat} {a : Addr} {v : Value} (h : (Term.field t K n d).eval args s none ix s = some v) (ht : t.eval args s none ix s = some (.ref a)) : Fld s s.heap a K n d v := by
  refine Fld.start ?_
  simp only [Term.eval, ht] at h
  exact h
theorem own_arrOf {s : State} {args : Array Value} {t : Term} {ty : FieldType} (h : (Jvm.Cond.arrayOf t ty).value args s none s [] = some true) : ∃ a cl, t.eval args s none [] s = some (.ref a) ∧ Arr s s.heap a cl ty := by
  have e : ∃ a, t.eval args s none [] s = some (.ref a) := by
    cases e : t.eval args s none [] s with
    | none => simp [Cond.value, e] at h
    | some v => cases v <;> simp [Cond.value, e] at h ⊢
  obtain ⟨a, ha⟩ := e
  obtain ⟨cl, A⟩ := Arr.start ha h
  exact ⟨a, cl, ha, A⟩
theorem own_nil {s : State} {a : Addr} {cl : Cell} {ty : FieldType} {dv : Value} (hf : Fit s) (A : Arr s s.heap a cl ty) (hl : cl.slots.size < 2 ^ 31 ∧ cl.slots.size.toInt32 = (0 : Int32)) : Arv s s.heap a cl.cls ty (0 : Int32) [] dv := Arv.start hf A hl.1 hl.2 (by decide) rfl trivial
abbrev own_tc : Term := .static s_31 "cache" s_40
theorem own_cache {s : State} {args : Array Value} {a : Addr} {cl : Cell} (A : Arr s s.heap a cl (.object s_4)) (ht : own_tc.eval args s none [] s = some (.ref a)) (hl : cl.slots.size < 2 ^ 31 ∧ cl.slots.size.toInt32 = (256 : Int32))
    (h : (Jvm.Cond.all own_tc (.and (.exactly (.elem own_tc (.index 0)) s_4) (.eq (.field (.elem own_tc (.index 0)) s_4 "value" "I") (.sub (.index 0) (.int (128 : Int32)))))).value args s none s [] = some true) :
    ∃ f : Nat → Addr, (∃ c : Cell, Arr s s.heap a c (.object s_4) ∧ c.slots.size = 256 ∧ ∀ j, j < 256 → c.slots[j]? = some (.ref (f j))) ∧ ∀ j, j < 256 → Exa s s.heap (f j) s_4 ∧ Fld s s.heap (f j) s_4 "value" "I" (.int (Int32.ofNat j - 128)) := by
  have hz : cl.slots.size = 256 := by
    have e1 := congrArg Int32.toInt hl.2
    have e2 : (256 : Int32).toInt = 256 := by decide
    have e3 : cl.slots.size.toInt32.toInt = (cl.slots.size : Int) := Int32.toInt_ofNat_of_lt hl.1
    omega
  have ha := Arr.fin (U := s) (State.Warmed39.refl s).alike A
  have q : ∀ j, j < 256 → ∃ x : Addr, cl.slots[j]? = some (.ref x) ∧ Exa s s.heap x s_4 ∧ Fld s s.heap x s_4 "value" "I" (.int (Int32.ofNat j - 128)) := fun j hj => by
    have hj3 : (j.toInt32).toInt = j := Int32.toInt_ofNat_of_lt (by omega)
    have hn : ¬ j.toInt32 < 0 := own_nn (by omega)
    have hnat : j.toInt32.toNatClampNeg = j := by have := own_nat (j := j.toInt32) (by omega); omega
    obtain ⟨q1, q2⟩ := and_e (Jvm.Cond.all_elim ht ha h _ (show j < _ by rw [hz]; exact hj))
    obtain ⟨x, e1, e2⟩ := own_exaI q1
    have ht' : own_tc.eval args s none [j] s = some (.ref a) := ht
    have e3 := own_fldT (own_eqT (k := j.toInt32 - 128) q2 rfl) e1
    rw [elem_f ht' rfl ha hn, hnat] at e1
    exact ⟨x, e1, e2, e3⟩
  refine ⟨fun j => if hj : j < 256 then Classical.choose (q j hj) else 0, ⟨cl, A, hz, fun j hj => ?_⟩, fun j hj => ?_⟩
  · simp only [hj, dif_pos]
    exact (Classical.choose_spec (q j hj)).1
  · simp only [hj, dif_pos]
    exact (Classical.choose_spec (q j hj)).2
theorem own_world {s : State} {args : Array Value} (hf : Fit s) (iA : (Jvm.Cond.initialized s_1).before args s = true) (iI : (Jvm.Cond.initialized s_31).before args s = true)
    (d2 : (Jvm.Cond.laysStatic s_1 s_28 s_3).before args s = true) (d6 : (Jvm.Cond.arrayOf (.static s_1 s_28 s_3) (.object s_0)).before args s = true) (d8 : (Jvm.Cond.eq (.length (.static s_1 s_28 s_3)) (.int (0 : Int32))).before args s = true)
    (d10 : (Jvm.Cond.initializedFor s_31 "high" "I").before args s = true) (d11 : (Jvm.Cond.laysStatic s_31 "cache" s_40).before args s = true) (d12 : (Jvm.Cond.eq (.static s_31 "high" "I") (.int (127 : Int32))).before args s = true) (d13 : (Jvm.Cond.arrayOf own_tc (.object s_4)).before args s = true) (d15 : (Jvm.Cond.eq (.length own_tc) (.int (256 : Int32))).before args s = true)
    (d16 : (Jvm.Cond.all own_tc (.and (.exactly (.elem own_tc (.index 0)) s_4) (.eq (.field (.elem own_tc (.index 0)) s_4 "value" "I") (.sub (.index 0) (.int (128 : Int32)))))).before args s = true)
    (d18 : (Jvm.Cond.initializedFor s_18 s_26 s_27).before args s = true) (d19 : (Jvm.Cond.exactly (.static s_18 s_26 s_27) s_16).before args s = true)
    (d20 : (Jvm.Cond.arrayOf (.field (.static s_18 s_26 s_27) s_16 s_20 s_3) (.object s_0)).before args s = true) (d21 : (Jvm.Cond.exactly (.field (.static s_18 s_26 s_27) s_16 s_20 s_3) s_3).before args s = true) (d22 : (Jvm.Cond.eq (.length (.field (.static s_18 s_26 s_27) s_16 s_20 s_3)) (.int (0 : Int32))).before args s = true)
    (d25 : (Jvm.Cond.initializedFor s_18 "EMPTY" s_17).before args s = true) (d26 : (Jvm.Cond.exactly (.static s_18 "EMPTY" s_17) s_0).before args s = true) :
    ∃ (w_c : Addr) (f : Nat → Addr) (wE wL wD wA : Addr) (kD kA : ClassId), Wd s s.heap s.heap.size w_c f wE wL wD wA kD kA := by
  obtain ⟨wD, cD, evD, AD⟩ := own_arrOf (Cond.before_iff.mp d6)
  obtain ⟨w_c, cc, evc, Ac⟩ := own_arrOf (Cond.before_iff.mp d13)
  obtain ⟨wA, cA, evA, AA⟩ := own_arrOf (Cond.before_iff.mp d20)
  obtain ⟨wL, evL, EL⟩ := own_exaI (Cond.before_iff.mp d19)
  obtain ⟨wE, evE, EE⟩ := own_exaI (Cond.before_iff.mp d26)
  obtain ⟨wA', evA', EA⟩ := own_exaI (Cond.before_iff.mp d21)
  cases evA.symm.trans evA'
  obtain ⟨f, hc⟩ := own_cache Ac evc (own_len Ac evc (Cond.before_iff.mp d15)) (Cond.before_iff.mp d16)
  exact ⟨w_c, f, wE, wL, wD, wA, _, _, s.heap, Nat.le_refl _, own_extR _, hc, Sta.start evc (Or.inr ⟨iI, d11⟩), Sta.start (own_eqT (Cond.before_iff.mp d12) rfl) (Or.inl d10), Sta.start evE (Or.inl d25), Sta.start evL (Or.inl d18), Sta.start evD (Or.inr ⟨iA, d2⟩), EE, EL, own_fldT evA evL, EA, own_nil hf AA (own_len AA evA (Cond.before_iff.mp d22)), own_nil hf AD (own_len AD evD (Cond.before_iff.mp d8))⟩
theorem pd_32 : parseMethodDescriptor "(I)Ljava/util/ArrayList;" = some ⟨[.int], some (.object "java/util/ArrayList")⟩ := by decide +kernel
theorem pd_33 : parseMethodDescriptor "(IILjava/util/List;Ljava/util/List;Ljava/util/List;Ljava/util/List;Ljava/util/List;Ljava/util/List;Ljava/util/List;)V" = some ⟨[.int, .int, (.object "java/util/List"), (.object "java/util/List"), (.object "java/util/List"), (.object "java/util/List"), (.object "java/util/List"), (.object "java/util/List"), (.object "java/util/List")], none⟩ := by decide +kernel
theorem pd_34 : parseMethodDescriptor "(III[Z)V" = some ⟨[.int, .int, .int, (.array .boolean)], none⟩ := by decide +kernel
theorem pd_35 : parseMethodDescriptor "(Lcom/example/hot_potato/hotpotato/Message$Probe;Lcom/example/hot_potato/hotpotato/Message$Probe;)V" = some ⟨[(.object "com/example/hot_potato/hotpotato/Message$Probe"), (.object "com/example/hot_potato/hotpotato/Message$Probe")], none⟩ := by decide +kernel
theorem pd_36 : parseMethodDescriptor "(IIIIIIII)Z" = some ⟨[.int, .int, .int, .int, .int, .int, .int, .int], some .boolean⟩ := by decide +kernel
theorem pd_37 : parseMethodDescriptor "(I)V" = some ⟨[.int], none⟩ := by decide +kernel
theorem pd_38 : parseMethodDescriptor "(II)V" = some ⟨[.int, .int], none⟩ := by decide +kernel
theorem ef_0 (m : MethodId) (x0 : Int32) (x1 : Int32) (x2 : Int32) (x3 : Int32) (x4 : Int32) (x5 : Int32) : entryFrame m #[(.int x0), (.int x1), (.int x2), (.int x3), (.int x4), (.int x5)] maxLocals = mkF m 0 #[.val (.int x0), .val (.int x1), .val (.int x2), .val (.int x3), .val (.int x4), .val (.int x5), .unset, .unset, .unset, .unset, .unset, .unset, .unset, .unset, .unset, .unset, .unset, .unset, .unset, .unset, .unset, .unset, .unset, .unset, .unset, .unset, .unset, .unset, .unset] [] := by first | (simp [entryFrame, mkF, argsToLocals, Value.category, maxLocals]; done) | rfl
def Q0 (Z : State) (p0 : Int32) (p1 : Int32) (p2 : Int32) (p3 : Int32) (p4 : Int32) (p5 : Int32) (w_c : Addr) (f_ : Nat → Addr) (wE : Addr) (wL : Addr) (wD : Addr) (wA : Addr) (kD : ClassId) (kA : ClassId) (mr_ : Addr) (h0 : Heap) (n0 : Nat) (v : Option Value) (h : Heap) (L : List Loc) : Prop := v = some (.int 1) ∧ Fr n0 L
end Wk
set_option maxRecDepth 65536 in
set_option maxHeartbeats 40000000 in
theorem rm0 (l : Launch) (Z : State) (a0 : Array Value) (hw : ∀ d ∈ tables_1, d.before a0 Z = true) (ws : List Jvm.Cond) (p0 : Int32) (p1 : Int32) (p2 : Int32) (p3 : Int32) (p4 : Int32) (p5 : Int32) (w_c : Addr) (f_ : Nat → Addr) (wE : Addr) (wL : Addr) (wD : Addr) (wA : Addr) (kD : ClassId) (kA : ClassId) (mr_ : Addr) (h0 : Heap) (n0 : Nat) (Z0 : n0 ≤ h0.size) (IC : Wd Z h0 n0 w_c f_ wE wL wD wA kD kA) (MM : Mir Z mr_) :
  MetFree l x (head1 (Jvm.Cond.code x code maxLocals ret :: ws) room_1) (fun a U => a = #[(.int p0), (.int p1), (.int p2), (.int p3), (.int p4), (.int p5)] ∧ Z.Warmed39 U.vm ∧ U.heap = h0) (fun _ _ _ _ _ => True) (fun _ U o U' => ∃ v L, o = .returned v ∧ Q0 Z p0 p1 p2 p3 p4 p5 w_c f_ wE wL wD wA kD kA mr_ h0 n0 v U'.heap L ∧ FrameEnd U o U' L 120 576) := by
 refine MetFree.of_bodySF (plainFor_of_name (by first | (simp [plainName, overriddenIn]; done) | decide +kernel)) hisR ?_
 intro p e s m args below meth c s₁ Bd hml0 hP hK
 obtain ⟨rfl, hZ, hh⟩ := hP
 have hx := Bd.exec
 have hby := Bd.bytes
 have D := @hb _ _ hby
 have u := hU hw
 have hml : c.maxLocals = 29 := hml0
 have hown : s.vm.findClass s_42 = some m.cls := findClass_of_methodNamed Bd.named
 have hnm := (name_of_methodNamed Bd.named Bd.method).1
 have hlk := BodyLoose.notSynchronized Bd
 have X0 : Stand p l e room_1 s m #[(.int p0), (.int p1), (.int p2), (.int p3), (.int p4), (.int p5)] below meth c s₁ [] 0 0 := Stand.of_body Bd
 have e0 : s₁.heap = h0 := by rw [← hh, Bd.state]; rfl
 have N0 := Fr.nil n0
 show Go p e below s (Q0 Z p0 p1 p2 p3 p4 p5 w_c f_ wE wL wD wA kD kA mr_ h0 n0) 120 576 (s₁.setTop (entryFrame m #[(.int p0), (.int p1), (.int p2), (.int p3), (.int p4), (.int p5)] maxLocals))
 rw [ef_0]
 show gO (tF s₁ m 0 (la20 p0 p1 p2 p3 p4 p5) [])
 refine giC X0 hx (D at_0) ?_
 refine giN X0 hx (D at_1) rfl ?_
 refine giC X0 hx (D at_2) ?_
 refine go (XS.iand X0.here hx rfl (D at_3) rfl) ?_
 refine go (XS.iadd X0.here hx rfl (D at_4) rfl) ?_
 refine go (XS.istore X0.here hx rfl (D at_5) rfl (l' := (la21 p0 p1 p2 p3 p4 p5 ((1 : Int32) + (p0 &&& (3 : Int32))))) rfl) ?_
 show gO (tF s₁ m 7 (la21 p0 p1 p2 p3 p4 p5 ((1 : Int32) + (p0 &&& (3 : Int32)))) [])
 generalize hn : ((1 : Int32) + (p0 &&& (3 : Int32))) = n
 show gO (tF s₁ m 7 (la21 p0 p1 p2 p3 p4 p5 n) [])
 refine giC X0 hx (D at_7) ?_
 refine giN X0 hx (D at_8) rfl ?_
 refine gob (X0.ldcInt hx hown (mvT hZ (u 0)) (g := (mkF m 9 (la21 p0 p1 p2 p3 p4 p5 n) [(.int p1), (.int 1)])) rfl (D at_9)) ?_
 refine go (XS.iand X0.here hx rfl (D at_11) rfl) ?_
 refine giM X0 hx (D at_12) rfl ?_
 refine gob (fun _ k => iremM X0 hx rfl (D at_14) rfl (own_nn0 hn) k) ?_
 show gO (tF s₁ m 15 (la21 p0 p1 p2 p3 p4 p5 n) [(.int ((p1 &&& (2147483647 : Int32)) % n)), (.int 1)])
 refine go (XS.iadd X0.here hx rfl (D at_15) rfl) ?_
 refine go (XS.istore X0.here hx rfl (D at_16) rfl (l' := (la22 p0 p1 p2 p3 p4 p5 n ((1 : Int32) + ((p1 &&& (2147483647 : Int32)) % n)))) rfl) ?_
 show gO (tF s₁ m 18 (la22 p0 p1 p2 p3 p4 p5 n ((1 : Int32) + ((p1 &&& (2147483647 : Int32)) % n))) [])
 generalize hsf : ((1 : Int32) + ((p1 &&& (2147483647 : Int32)) % n)) = sf
 show gO (tF s₁ m 18 (la22 p0 p1 p2 p3 p4 p5 n sf) [])
 refine giC X0 hx (D at_18) ?_
 refine giM X0 hx (D at_19) rfl ?_
 refine go (XS.ishl X0.here hx rfl (D at_21) rfl) ?_
 refine giC X0 hx (D at_22) ?_
 refine go (XS.isub X0.here hx rfl (D at_23) rfl) ?_
 refine go (XS.istore X0.here hx rfl (D at_24) rfl (l' := (la23 p0 p1 p2 p3 p4 p5 n sf (((1 : Int32) <<< (n &&& 31)) - (1 : Int32)))) rfl) ?_
 show gO (tF s₁ m 26 (la23 p0 p1 p2 p3 p4 p5 n sf (((1 : Int32) <<< (n &&& 31)) - (1 : Int32))) [])
 generalize hal : (((1 : Int32) <<< (n &&& 31)) - (1 : Int32)) = al
 show gO (tF s₁ m 26 (la23 p0 p1 p2 p3 p4 p5 n sf al) [])
 refine giN X0 hx (D at_26) rfl ?_
 refine go (XS.bipush X0.here hx rfl (D at_27)) ?_
 refine go (XS.iand X0.here hx rfl (D at_29) rfl) ?_
 refine giM X0 hx (D at_30) rfl ?_
 refine go (XS.iand X0.here hx rfl (D at_32) rfl) ?_
 refine go (XS.istore X0.here hx rfl (D at_33) rfl (l' := (la24 p0 p1 p2 p3 p4 p5 n sf al ((p3 &&& (15 : Int32)) &&& al))) rfl) ?_
 show gO (tF s₁ m 35 (la24 p0 p1 p2 p3 p4 p5 n sf al ((p3 &&& (15 : Int32)) &&& al)) [])
 generalize hva : ((p3 &&& (15 : Int32)) &&& al) = va
 show gO (tF s₁ m 35 (la24 p0 p1 p2 p3 p4 p5 n sf al va) [])
 refine giN X0 hx (D at_35) rfl ?_
 refine giC X0 hx (D at_36) ?_
 refine go (XS.iushr X0.here hx rfl (D at_37) rfl) ?_
 refine go (XS.bipush X0.here hx rfl (D at_38)) ?_
 refine go (XS.iand X0.here hx rfl (D at_40) rfl) ?_
 refine giM X0 hx (D at_41) rfl ?_
 show gO (tF s₁ m 43 (la24 p0 p1 p2 p3 p4 p5 n sf al va) [(.int al), (.int (((p3.toUInt32 >>> ((4 : Int32) &&& 31).toUInt32).toInt32) &&& (15 : Int32)))])
 refine go (XS.iand X0.here hx rfl (D at_43) rfl) ?_
 refine go (XS.istore X0.here hx rfl (D at_44) rfl (l' := (la25 p0 p1 p2 p3 p4 p5 n sf al va ((((p3.toUInt32 >>> ((4 : Int32) &&& 31).toUInt32).toInt32) &&& (15 : Int32)) &&& al))) rfl) ?_
 show gO (tF s₁ m 46 (la25 p0 p1 p2 p3 p4 p5 n sf al va ((((p3.toUInt32 >>> ((4 : Int32) &&& 31).toUInt32).toInt32) &&& (15 : Int32)) &&& al)) [])
 generalize hvb : ((((p3.toUInt32 >>> ((4 : Int32) &&& 31).toUInt32).toInt32) &&& (15 : Int32)) &&& al) = vb
 show gO (tF s₁ m 46 (la25 p0 p1 p2 p3 p4 p5 n sf al va vb) [])
 refine giN X0 hx (D at_46) rfl ?_
 refine go (XS.bipush X0.here hx rfl (D at_47)) ?_
 refine go (XS.iushr X0.here hx rfl (D at_49) rfl) ?_
 refine giC X0 hx (D at_50) ?_
 refine go (XS.iand X0.here hx rfl (D at_51) rfl) ?_
 have join60_3 : ∀ (T4 : State) (lj5 : List Loc) (v2 : Int32), Stand p l e room_1 s m #[(.int p0), (.int p1), (.int p2), (.int p3), (.int p4), (.int p5)] below meth c T4 lj5 0 0 → T4.heap = h0 → Fr n0 lj5 → ((((p3.toUInt32 >>> ((8 : Int32) &&& 31).toUInt32).toInt32) &&& (1 : Int32)) = (0 : Int32) ∧ v2 = (0 : Int32)) ∨ (¬ ((((p3.toUInt32 >>> ((8 : Int32) &&& 31).toUInt32).toInt32) &&& (1 : Int32)) = (0 : Int32)) ∧ v2 = (1 : Int32)) → Go p e below s (Q0 Z p0 p1 p2 p3 p4 p5 w_c f_ wE wL wD wA kD kA mr_ h0 n0) 120 576 (T4.setTop (mkF m 60 (la25 p0 p1 p2 p3 p4 p5 n sf al va vb) [(.int v2)])) := by
  intro T4 lj5 v2 X6 e7 N8 hj9
  show gO (tF T4 m 60 (la25 p0 p1 p2 p3 p4 p5 n sf al va vb) [(.int v2)])
  refine go (XS.istore X6.here hx rfl (D at_60) rfl (l' := (la26 p0 p1 p2 p3 p4 p5 n sf al va vb v2)) rfl) ?_
  refine giN X6 hx (D at_62) rfl ?_
  refine go (XS.bipush X6.here hx rfl (D at_63)) ?_
  refine go (XS.iushr X6.here hx rfl (D at_65) rfl) ?_
  refine giC X6 hx (D at_66) ?_
  refine go (XS.iand X6.here hx rfl (D at_67) rfl) ?_
  show gO (tF T4 m 68 (la26 p0 p1 p2 p3 p4 p5 n sf al va vb v2) [(.int (((p3.toUInt32 >>> ((9 : Int32) &&& 31).toUInt32).toInt32) &&& (1 : Int32)))])
  have join76_12 : ∀ (T13 : State) (lj14 : List Loc) (v11 : Int32), Stand p l e room_1 s m #[(.int p0), (.int p1), (.int p2), (.int p3), (.int p4), (.int p5)] below meth c T13 lj14 0 0 → T13.heap = h0 → Fr n0 lj14 → ((((p3.toUInt32 >>> ((9 : Int32) &&& 31).toUInt32).toInt32) &&& (1 : Int32)) = (0 : Int32) ∧ v11 = (0 : Int32)) ∨ (¬ ((((p3.toUInt32 >>> ((9 : Int32) &&& 31).toUInt32).toInt32) &&& (1 : Int32)) = (0 : Int32)) ∧ v11 = (1 : Int32)) → Go p e below s (Q0 Z p0 p1 p2 p3 p4 p5 w_c f_ wE wL wD wA kD kA mr_ h0 n0) 120 576 (T13.setTop (mkF m 76 (la26 p0 p1 p2 p3 p4 p5 n sf al va vb v2) [(.int v11)])) := by
   intro T13 lj14 v11 X15 e16 N17 hj18
   show gO (tF T13 m 76 (la26 p0 p1 p2 p3 p4 p5 n sf al va vb v2) [(.int v11)])
   refine go (XS.istore X15.here hx rfl (D at_76) rfl (l' := (la27 p0 p1 p2 p3 p4 p5 n sf al va vb v2 v11)) rfl) ?_
   refine giN X15 hx (D at_78) rfl ?_
   refine go (XS.bipush X15.here hx rfl (D at_79)) ?_
   refine go (XS.iushr X15.here hx rfl (D at_81) rfl) ?_
   refine giC X15 hx (D at_82) ?_
   refine go (XS.iand X15.here hx rfl (D at_83) rfl) ?_
   show gO (tF T13 m 84 (la27 p0 p1 p2 p3 p4 p5 n sf al va vb v2 v11) [(.int (((p3.toUInt32 >>> ((10 : Int32) &&& 31).toUInt32).toInt32) &&& (1 : Int32)))])
   have join92_21 : ∀ (T22 : State) (lj23 : List Loc) (v20 : Int32), Stand p l e room_1 s m #[(.int p0), (.int p1), (.int p2), (.int p3), (.int p4), (.int p5)] below meth c T22 lj23 0 0 → T22.heap = h0 → Fr n0 lj23 → ((((p3.toUInt32 >>> ((10 : Int32) &&& 31).toUInt32).toInt32) &&& (1 : Int32)) = (0 : Int32) ∧ v20 = (0 : Int32)) ∨ (¬ ((((p3.toUInt32 >>> ((10 : Int32) &&& 31).toUInt32).toInt32) &&& (1 : Int32)) = (0 : Int32)) ∧ v20 = (1 : Int32)) → Go p e below s (Q0 Z p0 p1 p2 p3 p4 p5 w_c f_ wE wL wD wA kD kA mr_ h0 n0) 120 576 (T22.setTop (mkF m 92 (la27 p0 p1 p2 p3 p4 p5 n sf al va vb v2 v11) [(.int v20)])) := by
    intro T22 lj23 v20 X24 e25 N26 hj27
    show gO (tF T22 m 92 (la27 p0 p1 p2 p3 p4 p5 n sf al va vb v2 v11) [(.int v20)])
    refine go (XS.istore X24.here hx rfl (D at_92) rfl (l' := (la28 p0 p1 p2 p3 p4 p5 n sf al va vb v2 v11 v20)) rfl) ?_
    refine giC X24 hx (D at_94) ?_
    refine giM X24 hx (D at_95) rfl ?_
    refine go (XS.sipush X24.here hx rfl (D at_97)) ?_
    refine go (XS.iand X24.here hx rfl (D at_100) rfl) ?_
    refine giM X24 hx (D at_101) rfl ?_
    show gO (tF T22 m 103 (la28 p0 p1 p2 p3 p4 p5 n sf al va vb v2 v11 v20) [(.int n), (.int (p4 &&& (32767 : Int32))), (.int 1)])
    refine gob (fun _ k => iremM X24 hx rfl (D at_103) rfl (own_nn0 hn) k) ?_
    refine go (XS.iadd X24.here hx rfl (D at_104) rfl) ?_
    refine go (XS.istore X24.here hx rfl (D at_105) rfl (l' := (la29 p0 p1 p2 p3 p4 p5 n sf al va vb v2 v11 v20 ((1 : Int32) + ((p4 &&& (32767 : Int32)) % n)))) rfl) ?_
    show gO (tF T22 m 107 (la29 p0 p1 p2 p3 p4 p5 n sf al va vb v2 v11 v20 ((1 : Int32) + ((p4 &&& (32767 : Int32)) % n))) [])
    generalize hxx : ((1 : Int32) + ((p4 &&& (32767 : Int32)) % n)) = xx
    show gO (tF T22 m 107 (la29 p0 p1 p2 p3 p4 p5 n sf al va vb v2 v11 v20 xx) [])
    refine giC X24 hx (D at_107) ?_
    refine giM X24 hx (D at_108) rfl ?_
    refine go (XS.bipush X24.here hx rfl (D at_110)) ?_
    refine go (XS.iushr X24.here hx rfl (D at_112) rfl) ?_
    refine go (XS.sipush X24.here hx rfl (D at_113)) ?_
    refine go (XS.iand X24.here hx rfl (D at_116) rfl) ?_
    show gO (tF T22 m 117 (la29 p0 p1 p2 p3 p4 p5 n sf al va vb v2 v11 v20 xx) [(.int (((p4.toUInt32 >>> ((16 : Int32) &&& 31).toUInt32).toInt32) &&& (32767 : Int32))), (.int 1)])
    refine giM X24 hx (D at_117) rfl ?_
    refine gob (fun _ k => iremM X24 hx rfl (D at_119) rfl (own_nn0 hn) k) ?_
    refine go (XS.iadd X24.here hx rfl (D at_120) rfl) ?_
    refine go (XS.istore X24.here hx rfl (D at_121) rfl (l' := (la30 p0 p1 p2 p3 p4 p5 n sf al va vb v2 v11 v20 xx ((1 : Int32) + ((((p4.toUInt32 >>> ((16 : Int32) &&& 31).toUInt32).toInt32) &&& (32767 : Int32)) % n)))) rfl) ?_
    show gO (tF T22 m 123 (la30 p0 p1 p2 p3 p4 p5 n sf al va vb v2 v11 v20 xx ((1 : Int32) + ((((p4.toUInt32 >>> ((16 : Int32) &&& 31).toUInt32).toInt32) &&& (32767 : Int32)) % n))) [])
    generalize hyy : ((1 : Int32) + ((((p4.toUInt32 >>> ((16 : Int32) &&& 31).toUInt32).toInt32) &&& (32767 : Int32)) % n)) = yy
    show gO (tF T22 m 123 (la30 p0 p1 p2 p3 p4 p5 n sf al va vb v2 v11 v20 xx yy) [])
    refine giM X24 hx (D at_123) rfl ?_
    obtain ⟨_, T28, Lc28, X28, hQ28, st28⟩ := clS X24 (Jvm.LawKit.callS X24 hx (y := M_0) hown (mvT hZ (u 1)) (mvT hZ (u 2)) (mvT hZ (u 3)) (mvT hZ (u 4)) (by decide) (backOf (W := 0) (rm1 l Z a0 hw [] va h0 n0 Z0 ) hZ (u 4) (u 3) (by decide) (by decide)) (g := (mkF m 125 (la30 p0 p1 p2 p3 p4 p5 n sf al va vb v2 v11 v20 xx yy) [(.int va)])) rfl (by rw [hml]; rfl) (argsL := [(.int va)]) (rest := []) (lenOf pd_28 rfl) rfl (wk rfl rfl) (D at_125) (fun _ _ => ⟨rfl, e25, lD rfl, lD rfl⟩)) (k := 0) (n := 0) rfl rfl
    obtain ⟨rfl, Nq28, e28⟩ := hQ28
    have N28 := Fr.app N26 Nq28
    refine gob st28 ?_
    refine go (XS.istore X28.here hx rfl (D at_128) rfl (l' := (la31 p0 p1 p2 p3 p4 p5 n sf al va vb v2 v11 v20 xx yy (f_1 va))) rfl) ?_
    show gO (tF T28 m 130 (la31 p0 p1 p2 p3 p4 p5 n sf al va vb v2 v11 v20 xx yy (f_1 va)) [])
    generalize hsa : (f_1 va) = sa
    show gO (tF T28 m 130 (la31 p0 p1 p2 p3 p4 p5 n sf al va vb v2 v11 v20 xx yy sa) [])
    refine giM X28 hx (D at_130) rfl ?_
    obtain ⟨_, T29, Lc29, X29, hQ29, st29⟩ := clS X28 (Jvm.LawKit.callS X28 hx (y := M_0) hown (mvT hZ (u 1)) (mvT hZ (u 2)) (mvT hZ (u 3)) (mvT hZ (u 4)) (by decide) (backOf (W := 0) (rm1 l Z a0 hw [] vb h0 n0 Z0 ) hZ (u 4) (u 3) (by decide) (by decide)) (g := (mkF m 132 (la31 p0 p1 p2 p3 p4 p5 n sf al va vb v2 v11 v20 xx yy sa) [(.int vb)])) rfl (by rw [hml]; rfl) (argsL := [(.int vb)]) (rest := []) (lenOf pd_28 rfl) rfl (wk rfl rfl) (D at_132) (fun _ _ => ⟨rfl, e28, lD rfl, lD rfl⟩)) (k := 0) (n := 0) rfl rfl
    obtain ⟨rfl, Nq29, e29⟩ := hQ29
    have N29 := Fr.app N28 Nq29
    refine gob st29 ?_
    refine go (XS.istore X29.here hx rfl (D at_135) rfl (l' := (la32 p0 p1 p2 p3 p4 p5 n sf al va vb v2 v11 v20 xx yy sa (f_1 vb))) rfl) ?_
    show gO (tF T29 m 137 (la32 p0 p1 p2 p3 p4 p5 n sf al va vb v2 v11 v20 xx yy sa (f_1 vb)) [])
    generalize hsb : (f_1 vb) = sb
    show gO (tF T29 m 137 (la32 p0 p1 p2 p3 p4 p5 n sf al va vb v2 v11 v20 xx yy sa sb) [])
    refine giM X29 hx (D at_137) rfl ?_
    refine gob (X29.ldcInt hx hown (mvT hZ (u 0)) (g := (mkF m 139 (la32 p0 p1 p2 p3 p4 p5 n sf al va vb v2 v11 v20 xx yy sa sb) [(.int p5)])) rfl (D at_139)) ?_
    refine go (XS.iand X29.here hx rfl (D at_141) rfl) ?_
    refine giM X29 hx (D at_142) rfl ?_
    refine giC X29 hx (D at_144) ?_
    refine go (XS.iadd X29.here hx rfl (D at_145) rfl) ?_
    show gO (tF T29 m 146 (la32 p0 p1 p2 p3 p4 p5 n sf al va vb v2 v11 v20 xx yy sa sb) [(.int (sb + (1 : Int32))), (.int (p5 &&& (2147483647 : Int32)))])
    refine gob (fun _ k => iremM X29 hx rfl (D at_146) rfl (own_cnz hsb) k) ?_
    refine go (XS.istore X29.here hx rfl (D at_147) rfl (l' := (la33 p0 p1 p2 p3 p4 p5 n sf al va vb v2 v11 v20 xx yy sa sb ((p5 &&& (2147483647 : Int32)) % (sb + (1 : Int32))))) rfl) ?_
    show gO (tF T29 m 149 (la33 p0 p1 p2 p3 p4 p5 n sf al va vb v2 v11 v20 xx yy sa sb ((p5 &&& (2147483647 : Int32)) % (sb + (1 : Int32)))) [])
    generalize hkk : ((p5 &&& (2147483647 : Int32)) % (sb + (1 : Int32))) = kk
    show gO (tF T29 m 149 (la33 p0 p1 p2 p3 p4 p5 n sf al va vb v2 v11 v20 xx yy sa sb kk) [])
    have hnb : 1 ≤ n.toInt ∧ n.toInt ≤ 4 := own_nb hn
    refine giC X29 hx (D at_149) ?_
    obtain ⟨T30, h30, k30, X30, e30, E30, A30, B30, st30⟩ := newPE X29 hx hZ (hW hw 5 rfl) e29 (g := (mkF m 150 (la33 p0 p1 p2 p3 p4 p5 n sf al va vb v2 v11 v20 xx yy sa sb kk) [(.int 5)])) rfl (D at_150) rfl (by decide) (cap := 5) (by decide) (by decide) (by decide) (by decide) (ad := "[Z") (by decide)
    obtain ⟨b30, g30⟩ : ∃ z, z = h0.size := ⟨_, rfl⟩
    rw [← g30] at A30 B30 st30
    have g35 : n0 ≤ b30 := Nat.le_trans Z0 (Nat.le_of_eq g30.symm)
    have z36 : n0 ≤ h30.size := Nat.le_trans Z0 E30.1
    have V30 : Arv Z h30 b30 k30 .boolean (5 : Int32) [(.int 0), (.int 0), (.int 0), (.int 0), (.int 0)] (.int 0) := (Arv.new A30 (by decide)).pad (pad_rep [] (.int 0) 5)
    refine gob st30 ?_
    replace X30 := castX X30 (rfl : _ = 1) (rfl : _ = 5)
    show gO (tF T30 m 152 (la33 p0 p1 p2 p3 p4 p5 n sf al va vb v2 v11 v20 xx yy sa sb kk) [(.ref b30)])
    refine go (XS.astore X30.here hx rfl (D at_152) rfl rfl (l' := (la34 p0 p1 p2 p3 p4 p5 n sf al va vb v2 v11 v20 xx yy sa sb kk b30)) rfl) ?_
    refine gaM X30 hx (D at_154) rfl rfl ?_
    refine giC X30 hx (D at_156) ?_
    refine giN X30 hx (D at_157) rfl ?_
    refine giC X30 hx (D at_158) ?_
    refine go (XS.iand X30.here hx rfl (D at_159) rfl) ?_
    show gO (tF T30 m 160 (la34 p0 p1 p2 p3 p4 p5 n sf al va vb v2 v11 v20 xx yy sa sb kk b30) [(.int (p2 &&& (1 : Int32))), (.int 0), (.ref b30)])
    have join168_39 : ∀ (T40 : State) (lj41 : List Loc) (v38 : Int32), Stand p l e room_1 s m #[(.int p0), (.int p1), (.int p2), (.int p3), (.int p4), (.int p5)] below meth c T40 lj41 1 5 → T40.heap = h30 → Fr n0 lj41 → ((p2 &&& (1 : Int32)) = (0 : Int32) ∧ v38 = (0 : Int32)) ∨ (¬ ((p2 &&& (1 : Int32)) = (0 : Int32)) ∧ v38 = (1 : Int32)) → Go p e below s (Q0 Z p0 p1 p2 p3 p4 p5 w_c f_ wE wL wD wA kD kA mr_ h0 n0) 120 576 (T40.setTop (mkF m 168 (la34 p0 p1 p2 p3 p4 p5 n sf al va vb v2 v11 v20 xx yy sa sb kk b30) [(.int v38), (.int 0), (.ref b30)])) := by
     intro T40 lj41 v38 X42 e43 N44 hj45
     show gO (tF T40 m 168 (la34 p0 p1 p2 p3 p4 p5 n sf al va vb v2 v11 v20 xx yy sa sb kk b30) [(.int v38), (.int 0), (.ref b30)])
     obtain ⟨cl46, Ar46, aq46, S46, N46, H46, G46⟩ := id V30
     have hin46 : ¬ ((0 : Int32) < 0 ∨ cl46.slots.size ≤ ((0 : Int32)).toNatClampNeg) := inb_of S46 ⟨by decide, by decide⟩
     obtain ⟨T47, h47, X47, e47, W47, st47⟩ := stZ X42 hx hZ e43 Ar46 (j := (0 : Int32)) hin46 (g := (mkF m 168 (la34 p0 p1 p2 p3 p4 p5 n sf al va vb v2 v11 v20 xx yy sa sb kk b30) [(.int v38), (.int 0), (.ref b30)])) rfl rfl (D at_168)
     refine gob st47 ?_
     have z48 : n0 ≤ h47.size := Nat.le_trans z36 (Keep.of_wr W47).1
     have N47 := Fr.snoc X47 N44 g35
     have V47 : Arv Z h47 b30 k30 .boolean (5 : Int32) [(.int (nar .boolean v38)), (.int 0), (.int 0), (.int 0), (.int 0)] (.int 0) := Arv.set Ar46 aq46 S46 N46 H46 G46 (fits_nar_bool _) W47 0 rfl (Nat.le_of_ble_eq_true rfl)
     show gO (tF T47 m 169 (la34 p0 p1 p2 p3 p4 p5 n sf al va vb v2 v11 v20 xx yy sa sb kk b30) [])
     refine gaM X47 hx (D at_169) rfl rfl ?_
     refine giC X47 hx (D at_171) ?_
     refine giN X47 hx (D at_172) rfl ?_
     refine giC X47 hx (D at_173) ?_
     refine go (XS.ishr X47.here hx rfl (D at_174) rfl) ?_
     refine giC X47 hx (D at_175) ?_
     show gO (tF T47 m 176 (la34 p0 p1 p2 p3 p4 p5 n sf al va vb v2 v11 v20 xx yy sa sb kk b30) [(.int 1), (.int (p2 >>> ((1 : Int32) &&& 31))), (.int 1), (.ref b30)])
     refine go (XS.iand X47.here hx rfl (D at_176) rfl) ?_
     have join185_51 : ∀ (T52 : State) (lj53 : List Loc) (v50 : Int32), Stand p l e room_1 s m #[(.int p0), (.int p1), (.int p2), (.int p3), (.int p4), (.int p5)] below meth c T52 lj53 1 5 → T52.heap = h47 → Fr n0 lj53 → (((p2 >>> ((1 : Int32) &&& 31)) &&& (1 : Int32)) = (0 : Int32) ∧ v50 = (0 : Int32)) ∨ (¬ (((p2 >>> ((1 : Int32) &&& 31)) &&& (1 : Int32)) = (0 : Int32)) ∧ v50 = (1 : Int32)) → Go p e below s (Q0 Z p0 p1 p2 p3 p4 p5 w_c f_ wE wL wD wA kD kA mr_ h0 n0) 120 576 (T52.setTop (mkF m 185 (la34 p0 p1 p2 p3 p4 p5 n sf al va vb v2 v11 v20 xx yy sa sb kk b30) [(.int v50), (.int 1), (.ref b30)])) := by
      intro T52 lj53 v50 X54 e55 N56 hj57
      show gO (tF T52 m 185 (la34 p0 p1 p2 p3 p4 p5 n sf al va vb v2 v11 v20 xx yy sa sb kk b30) [(.int v50), (.int 1), (.ref b30)])
      obtain ⟨cl58, Ar58, aq58, S58, N58, H58, G58⟩ := id V47
      have hin58 : ¬ ((1 : Int32) < 0 ∨ cl58.slots.size ≤ ((1 : Int32)).toNatClampNeg) := inb_of S58 ⟨by decide, by decide⟩
      obtain ⟨T59, h59, X59, e59, W59, st59⟩ := stZ X54 hx hZ e55 Ar58 (j := (1 : Int32)) hin58 (g := (mkF m 185 (la34 p0 p1 p2 p3 p4 p5 n sf al va vb v2 v11 v20 xx yy sa sb kk b30) [(.int v50), (.int 1), (.ref b30)])) rfl rfl (D at_185)
      refine gob st59 ?_
      have z60 : n0 ≤ h59.size := Nat.le_trans z48 (Keep.of_wr W59).1
      have N59 := Fr.snoc X59 N56 g35
      have V59 : Arv Z h59 b30 k30 .boolean (5 : Int32) [(.int (nar .boolean v38)), (.int (nar .boolean v50)), (.int 0), (.int 0), (.int 0)] (.int 0) := Arv.set Ar58 aq58 S58 N58 H58 G58 (fits_nar_bool _) W59 1 rfl (Nat.le_of_ble_eq_true rfl)
      show gO (tF T59 m 186 (la34 p0 p1 p2 p3 p4 p5 n sf al va vb v2 v11 v20 xx yy sa sb kk b30) [])
      refine gaM X59 hx (D at_186) rfl rfl ?_
      refine giC X59 hx (D at_188) ?_
      refine giN X59 hx (D at_189) rfl ?_
      refine giC X59 hx (D at_190) ?_
      refine go (XS.ishr X59.here hx rfl (D at_191) rfl) ?_
      refine giC X59 hx (D at_192) ?_
      show gO (tF T59 m 193 (la34 p0 p1 p2 p3 p4 p5 n sf al va vb v2 v11 v20 xx yy sa sb kk b30) [(.int 1), (.int (p2 >>> ((2 : Int32) &&& 31))), (.int 2), (.ref b30)])
      refine go (XS.iand X59.here hx rfl (D at_193) rfl) ?_
      have join202_63 : ∀ (T64 : State) (lj65 : List Loc) (v62 : Int32), Stand p l e room_1 s m #[(.int p0), (.int p1), (.int p2), (.int p3), (.int p4), (.int p5)] below meth c T64 lj65 1 5 → T64.heap = h59 → Fr n0 lj65 → (((p2 >>> ((2 : Int32) &&& 31)) &&& (1 : Int32)) = (0 : Int32) ∧ v62 = (0 : Int32)) ∨ (¬ (((p2 >>> ((2 : Int32) &&& 31)) &&& (1 : Int32)) = (0 : Int32)) ∧ v62 = (1 : Int32)) → Go p e below s (Q0 Z p0 p1 p2 p3 p4 p5 w_c f_ wE wL wD wA kD kA mr_ h0 n0) 120 576 (T64.setTop (mkF m 202 (la34 p0 p1 p2 p3 p4 p5 n sf al va vb v2 v11 v20 xx yy sa sb kk b30) [(.int v62), (.int 2), (.ref b30)])) := by
       intro T64 lj65 v62 X66 e67 N68 hj69
       show gO (tF T64 m 202 (la34 p0 p1 p2 p3 p4 p5 n sf al va vb v2 v11 v20 xx yy sa sb kk b30) [(.int v62), (.int 2), (.ref b30)])
       obtain ⟨cl70, Ar70, aq70, S70, N70, H70, G70⟩ := id V59
       have hin70 : ¬ ((2 : Int32) < 0 ∨ cl70.slots.size ≤ ((2 : Int32)).toNatClampNeg) := inb_of S70 ⟨by decide, by decide⟩
       obtain ⟨T71, h71, X71, e71, W71, st71⟩ := stZ X66 hx hZ e67 Ar70 (j := (2 : Int32)) hin70 (g := (mkF m 202 (la34 p0 p1 p2 p3 p4 p5 n sf al va vb v2 v11 v20 xx yy sa sb kk b30) [(.int v62), (.int 2), (.ref b30)])) rfl rfl (D at_202)
       refine gob st71 ?_
       have z72 : n0 ≤ h71.size := Nat.le_trans z60 (Keep.of_wr W71).1
       have N71 := Fr.snoc X71 N68 g35
       have V71 : Arv Z h71 b30 k30 .boolean (5 : Int32) [(.int (nar .boolean v38)), (.int (nar .boolean v50)), (.int (nar .boolean v62)), (.int 0), (.int 0)] (.int 0) := Arv.set Ar70 aq70 S70 N70 H70 G70 (fits_nar_bool _) W71 2 rfl (Nat.le_of_ble_eq_true rfl)
       show gO (tF T71 m 203 (la34 p0 p1 p2 p3 p4 p5 n sf al va vb v2 v11 v20 xx yy sa sb kk b30) [])
       refine gaM X71 hx (D at_203) rfl rfl ?_
       refine giC X71 hx (D at_205) ?_
       refine giN X71 hx (D at_206) rfl ?_
       refine giC X71 hx (D at_207) ?_
       refine go (XS.ishr X71.here hx rfl (D at_208) rfl) ?_
       refine giC X71 hx (D at_209) ?_
       show gO (tF T71 m 210 (la34 p0 p1 p2 p3 p4 p5 n sf al va vb v2 v11 v20 xx yy sa sb kk b30) [(.int 1), (.int (p2 >>> ((3 : Int32) &&& 31))), (.int 3), (.ref b30)])
       refine go (XS.iand X71.here hx rfl (D at_210) rfl) ?_
       have join219_75 : ∀ (T76 : State) (lj77 : List Loc) (v74 : Int32), Stand p l e room_1 s m #[(.int p0), (.int p1), (.int p2), (.int p3), (.int p4), (.int p5)] below meth c T76 lj77 1 5 → T76.heap = h71 → Fr n0 lj77 → (((p2 >>> ((3 : Int32) &&& 31)) &&& (1 : Int32)) = (0 : Int32) ∧ v74 = (0 : Int32)) ∨ (¬ (((p2 >>> ((3 : Int32) &&& 31)) &&& (1 : Int32)) = (0 : Int32)) ∧ v74 = (1 : Int32)) → Go p e below s (Q0 Z p0 p1 p2 p3 p4 p5 w_c f_ wE wL wD wA kD kA mr_ h0 n0) 120 576 (T76.setTop (mkF m 219 (la34 p0 p1 p2 p3 p4 p5 n sf al va vb v2 v11 v20 xx yy sa sb kk b30) [(.int v74), (.int 3), (.ref b30)])) := by
        intro T76 lj77 v74 X78 e79 N80 hj81
        show gO (tF T76 m 219 (la34 p0 p1 p2 p3 p4 p5 n sf al va vb v2 v11 v20 xx yy sa sb kk b30) [(.int v74), (.int 3), (.ref b30)])
        obtain ⟨cl82, Ar82, aq82, S82, N82, H82, G82⟩ := id V71
        have hin82 : ¬ ((3 : Int32) < 0 ∨ cl82.slots.size ≤ ((3 : Int32)).toNatClampNeg) := inb_of S82 ⟨by decide, by decide⟩
        obtain ⟨T83, h83, X83, e83, W83, st83⟩ := stZ X78 hx hZ e79 Ar82 (j := (3 : Int32)) hin82 (g := (mkF m 219 (la34 p0 p1 p2 p3 p4 p5 n sf al va vb v2 v11 v20 xx yy sa sb kk b30) [(.int v74), (.int 3), (.ref b30)])) rfl rfl (D at_219)
        refine gob st83 ?_
        have z84 : n0 ≤ h83.size := Nat.le_trans z72 (Keep.of_wr W83).1
        have N83 := Fr.snoc X83 N80 g35
        have V83 : Arv Z h83 b30 k30 .boolean (5 : Int32) [(.int (nar .boolean v38)), (.int (nar .boolean v50)), (.int (nar .boolean v62)), (.int (nar .boolean v74)), (.int 0)] (.int 0) := Arv.set Ar82 aq82 S82 N82 H82 G82 (fits_nar_bool _) W83 3 rfl (Nat.le_of_ble_eq_true rfl)
        show gO (tF T83 m 220 (la34 p0 p1 p2 p3 p4 p5 n sf al va vb v2 v11 v20 xx yy sa sb kk b30) [])
        refine gaM X83 hx (D at_220) rfl rfl ?_
        refine giC X83 hx (D at_222) ?_
        refine giN X83 hx (D at_223) rfl ?_
        refine giC X83 hx (D at_224) ?_
        refine go (XS.ishr X83.here hx rfl (D at_225) rfl) ?_
        refine giC X83 hx (D at_226) ?_
        show gO (tF T83 m 227 (la34 p0 p1 p2 p3 p4 p5 n sf al va vb v2 v11 v20 xx yy sa sb kk b30) [(.int 1), (.int (p2 >>> ((4 : Int32) &&& 31))), (.int 4), (.ref b30)])
        refine go (XS.iand X83.here hx rfl (D at_227) rfl) ?_
        have join236_87 : ∀ (T88 : State) (lj89 : List Loc) (v86 : Int32), Stand p l e room_1 s m #[(.int p0), (.int p1), (.int p2), (.int p3), (.int p4), (.int p5)] below meth c T88 lj89 1 5 → T88.heap = h83 → Fr n0 lj89 → (((p2 >>> ((4 : Int32) &&& 31)) &&& (1 : Int32)) = (0 : Int32) ∧ v86 = (0 : Int32)) ∨ (¬ (((p2 >>> ((4 : Int32) &&& 31)) &&& (1 : Int32)) = (0 : Int32)) ∧ v86 = (1 : Int32)) → Go p e below s (Q0 Z p0 p1 p2 p3 p4 p5 w_c f_ wE wL wD wA kD kA mr_ h0 n0) 120 576 (T88.setTop (mkF m 236 (la34 p0 p1 p2 p3 p4 p5 n sf al va vb v2 v11 v20 xx yy sa sb kk b30) [(.int v86), (.int 4), (.ref b30)])) := by
         intro T88 lj89 v86 X90 e91 N92 hj93
         show gO (tF T88 m 236 (la34 p0 p1 p2 p3 p4 p5 n sf al va vb v2 v11 v20 xx yy sa sb kk b30) [(.int v86), (.int 4), (.ref b30)])
         obtain ⟨cl94, Ar94, aq94, S94, N94, H94, G94⟩ := id V83
         have hin94 : ¬ ((4 : Int32) < 0 ∨ cl94.slots.size ≤ ((4 : Int32)).toNatClampNeg) := inb_of S94 ⟨by decide, by decide⟩
         obtain ⟨T95, h95, X95, e95, W95, st95⟩ := stZ X90 hx hZ e91 Ar94 (j := (4 : Int32)) hin94 (g := (mkF m 236 (la34 p0 p1 p2 p3 p4 p5 n sf al va vb v2 v11 v20 xx yy sa sb kk b30) [(.int v86), (.int 4), (.ref b30)])) rfl rfl (D at_236)
         refine gob st95 ?_
         have z96 : n0 ≤ h95.size := Nat.le_trans z84 (Keep.of_wr W95).1
         have N95 := Fr.snoc X95 N92 g35
         have V95 : Arv Z h95 b30 k30 .boolean (5 : Int32) [(.int (nar .boolean v38)), (.int (nar .boolean v50)), (.int (nar .boolean v62)), (.int (nar .boolean v74)), (.int (nar .boolean v86))] (.int 0) := Arv.set Ar94 aq94 S94 N94 H94 G94 (fits_nar_bool _) W95 4 rfl (Nat.le_of_ble_eq_true rfl)
         show gO (tF T95 m 237 (la34 p0 p1 p2 p3 p4 p5 n sf al va vb v2 v11 v20 xx yy sa sb kk b30) [])
         obtain ⟨T97, h97, X97, e97, E97, A97, D97, -, st97⟩ := newO X95 hx hZ hown (u 6) (u 7) (u 8) e95 (g := (mkF m 237 (la34 p0 p1 p2 p3 p4 p5 n sf al va vb v2 v11 v20 xx yy sa sb kk b30) [])) rfl (D at_237) (by decide) (by decide)
         obtain ⟨b97, g97⟩ : ∃ z, z = h95.size := ⟨_, rfl⟩
         rw [← g97] at A97 D97 st97
         have c98 := ((((((IC.ext E30).wr W47 g35).wr W59 g35).wr W71 g35).wr W83 g35).wr W95 g35)
         have n102 : wD ≠ b97 := Nat.ne_of_lt (Nat.lt_of_lt_of_le (own_WDv c98).lt (Nat.le_of_eq g97.symm))
         have c103 := (((((B30.wr W47).wr W59).wr W71).wr W83).wr W95)
         have n104 : b30 ≠ b97 := Nat.ne_of_lt (Nat.lt_of_lt_of_le c103.lt (Nat.le_of_eq g97.symm))
         have g105 : n0 ≤ b97 := Nat.le_trans z96 (Nat.le_of_eq g97.symm)
         have z106 : n0 ≤ h97.size := Nat.le_trans z96 E97.1
         have F97_modCount : Fld Z h97 b97 s_9 s_12 "I" (.int (0 : Int32)) := D97 (Or.inl (hW hw 28 rfl)) (ty := .int) (by decide)
         have F97_elementData : Fld Z h97 b97 s_1 s_8 s_3 .null := D97 (Or.inl (hW hw 31 rfl)) (ty := (.array (.object s_0))) (by decide)
         have F97_size : Fld Z h97 b97 s_1 "size" "I" (.int (0 : Int32)) := D97 (Or.inl (hW hw 53 rfl)) (ty := .int) (by decide)
         refine gob st97 ?_
         replace X97 := castX X97 (rfl : _ = 2) (rfl : _ = 8)
         show gO (tF T97 m 240 (la34 p0 p1 p2 p3 p4 p5 n sf al va vb v2 v11 v20 xx yy sa sb kk b30) [(.ref b97)])
         refine go (XS.dup X97.here hx rfl (D at_240) rfl rfl) ?_
         have c108 := (c98.ext E97)
         obtain ⟨_, T107, Lc107, X107, hQ107, st107⟩ := clB X97 (X97.specialBack hx (y := M_3) rfl hown (mvT hZ (u 9)) (mvT hZ (u 10)) (mvT hZ (u 11)) (by decide) (backOf (W := 1) (rm2 l Z a0 hw [] b97 wD h97 n0 z106 A97 F97_modCount F97_elementData F97_size g105 (own_WD c108)) hZ (u 11) (u 8) (by decide) (by decide)) (g := (mkF m 241 (la34 p0 p1 p2 p3 p4 p5 n sf al va vb v2 v11 v20 xx yy sa sb kk b30) [(.ref b97), (.ref b97)])) rfl (by rw [hml]; rfl) (Steps.refl _) (a := b97) (argsL := []) (rest := [(.ref b97)]) (lenOf pd_0 rfl) rfl (wk rfl rfl) (D at_241) (fun _ _ => ⟨rfl, e97, lD rfl, lD rfl⟩)) (k := 2) (n := 8) rfl rfl
         obtain ⟨rfl, Nq107, K107, F109, F110, F111⟩ := hQ107
         have N107 := Fr.app N95 Nq107
         have z112 : n0 ≤ T107.heap.size := Nat.le_trans z106 K107.1
         refine gob (fun _ k => st107.trans k) ?_
         refine go (XS.astore X107.here hx rfl (D at_244) rfl rfl (l' := (la35 p0 p1 p2 p3 p4 p5 n sf al va vb v2 v11 v20 xx yy sa sb kk b30 b97)) rfl) ?_
         refine giM X107 hx (D at_246) rfl ?_
         have J262 : ∀  (T113 : State) (lj114 : List Loc) (hq115 : Heap) (crs : List Int32), Stand p l e room_1 s m #[(.int p0), (.int p1), (.int p2), (.int p3), (.int p4), (.int p5)] below meth c T113 lj114 3 18 → T113.heap = hq115 → Fr n0 lj114 → n0 ≤ hq115.size → Wd Z hq115 n0 w_c f_ wE wL wD wA kD kA → Exa Z hq115 b30 "[Z" → Arv Z hq115 b30 k30 .boolean (5 : Int32) [(.int (nar .boolean v38)), (.int (nar .boolean v50)), (.int (nar .boolean v62)), (.int (nar .boolean v74)), (.int (nar .boolean v86))] (.int 0) → AL Z hq115 b97 s_4 (crs.map (fI f_)) → ((v11 = (0 : Int32) ∧ crs = []) ∨ (¬ (v11 = (0 : Int32)) ∧ crs = [yy])) → Go p e below s (Q0 Z p0 p1 p2 p3 p4 p5 w_c f_ wE wL wD wA kD kA mr_ h0 n0) 120 576 (T113.setTop (mkF m 262 (la35 p0 p1 p2 p3 p4 p5 n sf al va vb v2 v11 v20 xx yy sa sb kk b30 b97) [])) := by
          intro T113 lj114 hq115 crs X116 e117 N118 z119 J120 J121 J122 J123 hj124
          show gO (tF T113 m 262 (la35 p0 p1 p2 p3 p4 p5 n sf al va vb v2 v11 v20 xx yy sa sb kk b30 b97) [])
          obtain ⟨T125, h125, X125, e125, E125, A125, D125, -, st125⟩ := newO X116 hx hZ hown (u 6) (u 7) (u 8) e117 (g := (mkF m 262 (la35 p0 p1 p2 p3 p4 p5 n sf al va vb v2 v11 v20 xx yy sa sb kk b30 b97) [])) rfl (D at_262) (by decide) (by decide)
          obtain ⟨b125, g125⟩ : ∃ z, z = hq115.size := ⟨_, rfl⟩
          rw [← g125] at A125 D125 st125
          have n129 : wD ≠ b125 := Nat.ne_of_lt (Nat.lt_of_lt_of_le (own_WDv J120).lt (Nat.le_of_eq g125.symm))
          have n130 : b30 ≠ b125 := Nat.ne_of_lt (Nat.lt_of_lt_of_le J121.lt (Nat.le_of_eq g125.symm))
          have g131 : n0 ≤ b125 := Nat.le_trans z119 (Nat.le_of_eq g125.symm)
          have gs132 : hq115.size ≤ b125 := Nat.le_trans (own_extR hq115).1 (Nat.le_of_eq g125.symm)
          have z133 : n0 ≤ h125.size := Nat.le_trans z119 E125.1
          have F125_modCount : Fld Z h125 b125 s_9 s_12 "I" (.int (0 : Int32)) := D125 (Or.inl (hW hw 28 rfl)) (ty := .int) (by decide)
          have F125_elementData : Fld Z h125 b125 s_1 s_8 s_3 .null := D125 (Or.inl (hW hw 31 rfl)) (ty := (.array (.object s_0))) (by decide)
          have F125_size : Fld Z h125 b125 s_1 "size" "I" (.int (0 : Int32)) := D125 (Or.inl (hW hw 53 rfl)) (ty := .int) (by decide)
          refine gob st125 ?_
          replace X125 := castX X125 (rfl : _ = 4) (rfl : _ = 21)
          show gO (tF T125 m 265 (la35 p0 p1 p2 p3 p4 p5 n sf al va vb v2 v11 v20 xx yy sa sb kk b30 b97) [(.ref b125)])
          refine go (XS.dup X125.here hx rfl (D at_265) rfl rfl) ?_
          have c135 := (J120.ext E125)
          obtain ⟨_, T134, Lc134, X134, hQ134, st134⟩ := clB X125 (X125.specialBack hx (y := M_3) rfl hown (mvT hZ (u 9)) (mvT hZ (u 10)) (mvT hZ (u 11)) (by decide) (backOf (W := 1) (rm2 l Z a0 hw [] b125 wD h125 n0 z133 A125 F125_modCount F125_elementData F125_size g131 (own_WD c135)) hZ (u 11) (u 8) (by decide) (by decide)) (g := (mkF m 266 (la35 p0 p1 p2 p3 p4 p5 n sf al va vb v2 v11 v20 xx yy sa sb kk b30 b97) [(.ref b125), (.ref b125)])) rfl (by rw [hml]; rfl) (Steps.refl _) (a := b125) (argsL := []) (rest := [(.ref b125)]) (lenOf pd_0 rfl) rfl (wk rfl rfl) (D at_266) (fun _ _ => ⟨rfl, e125, lD rfl, lD rfl⟩)) (k := 4) (n := 21) rfl rfl
          obtain ⟨rfl, Nq134, K134, F136, F137, F138⟩ := hQ134
          have N134 := Fr.app N118 Nq134
          have z139 : n0 ≤ T134.heap.size := Nat.le_trans z133 K134.1
          refine gob (fun _ k => st134.trans k) ?_
          refine go (XS.astore X134.here hx rfl (D at_269) rfl rfl (l' := (la36 p0 p1 p2 p3 p4 p5 n sf al va vb v2 v11 v20 xx yy sa sb kk b30 b97 b125)) rfl) ?_
          refine giM X134 hx (D at_271) rfl ?_
          have J293 : ∀  (T140 : State) (lj141 : List Loc) (hq142 : Heap) (fs : List Addr) (ks : List Int32), Stand p l e room_1 s m #[(.int p0), (.int p1), (.int p2), (.int p3), (.int p4), (.int p5)] below meth c T140 lj141 6 33 → T140.heap = hq142 → Fr n0 lj141 → n0 ≤ hq142.size → Wd Z hq142 n0 w_c f_ wE wL wD wA kD kA → Exa Z hq142 b30 "[Z" → Arv Z hq142 b30 k30 .boolean (5 : Int32) [(.int (nar .boolean v38)), (.int (nar .boolean v50)), (.int (nar .boolean v62)), (.int (nar .boolean v74)), (.int (nar .boolean v86))] (.int 0) → AL Z hq142 b97 s_4 (crs.map (fI f_)) → AL Z hq142 b125 s_21 fs → FL Z hq142 fs ks → ((v20 = (0 : Int32) ∧ ks = []) ∨ (¬ (v20 = (0 : Int32)) ∧ ks = [kk])) → (fs.length ≤ 1) → Go p e below s (Q0 Z p0 p1 p2 p3 p4 p5 w_c f_ wE wL wD wA kD kA mr_ h0 n0) 120 576 (T140.setTop (mkF m 293 (la36 p0 p1 p2 p3 p4 p5 n sf al va vb v2 v11 v20 xx yy sa sb kk b30 b97 b125) [])) := by
           intro T140 lj141 hq142 fs ks X143 e144 N145 z146 J147 J148 J149 J150 J151 J152 hj153 hj154
           show gO (tF T140 m 293 (la36 p0 p1 p2 p3 p4 p5 n sf al va vb v2 v11 v20 xx yy sa sb kk b30 b97 b125) [])
           obtain ⟨T155, h155, X155, e155, E155, A155, D155, -, st155⟩ := newO X143 hx hZ hown (u 32) (u 33) (u 34) e144 (g := (mkF m 293 (la36 p0 p1 p2 p3 p4 p5 n sf al va vb v2 v11 v20 xx yy sa sb kk b30 b97 b125) [])) rfl (D at_293) (by decide) (by decide)
           obtain ⟨b155, g155⟩ : ∃ z, z = hq142.size := ⟨_, rfl⟩
           rw [← g155] at A155 D155 st155
           have n160 : b30 ≠ b155 := Nat.ne_of_lt (Nat.lt_of_lt_of_le J148.lt (Nat.le_of_eq g155.symm))
           have g161 : n0 ≤ b155 := Nat.le_trans z146 (Nat.le_of_eq g155.symm)
           have gs162 : hq142.size ≤ b155 := Nat.le_trans (own_extR hq142).1 (Nat.le_of_eq g155.symm)
           have z163 : n0 ≤ h155.size := Nat.le_trans z146 E155.1
           have F155_round : Fld Z h155 b155 s_10 "round" "I" (.int (0 : Int32)) := D155 (Or.inr (hW hw 176 rfl)) (ty := .int) (by decide)
           have F155_coordinator : Fld Z h155 b155 s_10 "coordinator" "I" (.int (0 : Int32)) := D155 (Or.inr (hW hw 178 rfl)) (ty := .int) (by decide)
           have F155_toVisit : Fld Z h155 b155 s_10 "toVisit" s_11 .null := D155 (Or.inr (hW hw 180 rfl)) (ty := (.object s_2)) (by decide)
           have F155_visited : Fld Z h155 b155 s_10 "visited" s_11 .null := D155 (Or.inr (hW hw 182 rfl)) (ty := (.object s_2)) (by decide)
           have F155_crashed : Fld Z h155 b155 s_10 "crashed" s_11 .null := D155 (Or.inr (hW hw 184 rfl)) (ty := (.object s_2)) (by decide)
           have F155_found : Fld Z h155 b155 s_10 "found" s_11 .null := D155 (Or.inr (hW hw 186 rfl)) (ty := (.object s_2)) (by decide)
           have F155_latest : Fld Z h155 b155 s_10 "latest" s_11 .null := D155 (Or.inr (hW hw 188 rfl)) (ty := (.object s_2)) (by decide)
           have F155_waiters : Fld Z h155 b155 s_10 "waiters" s_11 .null := D155 (Or.inr (hW hw 190 rfl)) (ty := (.object s_2)) (by decide)
           have F155_queued : Fld Z h155 b155 s_10 "queued" s_11 .null := D155 (Or.inr (hW hw 192 rfl)) (ty := (.object s_2)) (by decide)
           refine gob st155 ?_
           replace X155 := castX X155 (rfl : _ = 7) (rfl : _ = 42)
           show gO (tF T155 m 296 (la36 p0 p1 p2 p3 p4 p5 n sf al va vb v2 v11 v20 xx yy sa sb kk b30 b97 b125) [(.ref b155)])
           refine go (XS.dup X155.here hx rfl (D at_296) rfl rfl) ?_
           refine giC X155 hx (D at_297) ?_
           refine giM X155 hx (D at_298) rfl ?_
           obtain ⟨T164, h164, X164, e164, E164, A164, D164, -, st164⟩ := newO X155 hx hZ hown (u 6) (u 7) (u 8) e155 (g := (mkF m 300 (la36 p0 p1 p2 p3 p4 p5 n sf al va vb v2 v11 v20 xx yy sa sb kk b30 b97 b125) [(.int sf), (.int 1), (.ref b155), (.ref b155)])) rfl (D at_300) (by decide) (by decide)
           obtain ⟨b164, g164⟩ : ∃ z, z = h155.size := ⟨_, rfl⟩
           rw [← g164] at A164 D164 st164
           have c165 := (J147.ext E155)
           have c170 := (J148.ext E155)
           have n171 : b30 ≠ b164 := Nat.ne_of_lt (Nat.lt_of_lt_of_le c170.lt (Nat.le_of_eq g164.symm))
           have n172 : b155 ≠ b164 := Nat.ne_of_lt (Nat.lt_of_lt_of_le A155.lt (Nat.le_of_eq g164.symm))
           have g173 : n0 ≤ b164 := Nat.le_trans z163 (Nat.le_of_eq g164.symm)
           have xs174 := (own_extE (own_extR hq142) E155)
           have gs175 : hq142.size ≤ b164 := Nat.le_trans xs174.1 (Nat.le_of_eq g164.symm)
           have z176 : n0 ≤ h164.size := Nat.le_trans z163 E164.1
           have F164_modCount : Fld Z h164 b164 s_9 s_12 "I" (.int (0 : Int32)) := D164 (Or.inl (hW hw 28 rfl)) (ty := .int) (by decide)
           have F164_elementData : Fld Z h164 b164 s_1 s_8 s_3 .null := D164 (Or.inl (hW hw 31 rfl)) (ty := (.array (.object s_0))) (by decide)
           have F164_size : Fld Z h164 b164 s_1 "size" "I" (.int (0 : Int32)) := D164 (Or.inl (hW hw 53 rfl)) (ty := .int) (by decide)
           refine gob st164 ?_
           replace X164 := castX X164 (rfl : _ = 8) (rfl : _ = 45)
           show gO (tF T164 m 303 (la36 p0 p1 p2 p3 p4 p5 n sf al va vb v2 v11 v20 xx yy sa sb kk b30 b97 b125) [(.ref b164), (.int sf), (.int 1), (.ref b155), (.ref b155)])
           refine go (XS.dup X164.here hx rfl (D at_303) rfl rfl) ?_
           have c178 := (c165.ext E164)
           obtain ⟨_, T177, Lc177, X177, hQ177, st177⟩ := clB X164 (X164.specialBack hx (y := M_3) rfl hown (mvT hZ (u 9)) (mvT hZ (u 10)) (mvT hZ (u 11)) (by decide) (backOf (W := 5) (rm2 l Z a0 hw [] b164 wD h164 n0 z176 A164 F164_modCount F164_elementData F164_size g173 (own_WD c178)) hZ (u 11) (u 8) (by decide) (by decide)) (g := (mkF m 304 (la36 p0 p1 p2 p3 p4 p5 n sf al va vb v2 v11 v20 xx yy sa sb kk b30 b97 b125) [(.ref b164), (.ref b164), (.int sf), (.int 1), (.ref b155), (.ref b155)])) rfl (by rw [hml]; rfl) (Steps.refl _) (a := b164) (argsL := []) (rest := [(.ref b164), (.int sf), (.int 1), (.ref b155), (.ref b155)]) (lenOf pd_0 rfl) rfl (wk rfl rfl) (D at_304) (fun _ _ => ⟨rfl, e164, lD rfl, lD rfl⟩)) (k := 8) (n := 45) rfl rfl
           obtain ⟨rfl, Nq177, K177, F179, F180, F181⟩ := hQ177
           have N177 := Fr.app N145 Nq177
           have z182 : n0 ≤ T177.heap.size := Nat.le_trans z176 K177.1
           refine gob (fun _ k => st177.trans k) ?_
           refine giM X177 hx (D at_307) rfl ?_
           have c184 := (c178.keep K177 (geS g173 geN))
           obtain ⟨_, T183, Lc183, X183, hQ183, st183⟩ := clS X177 (Jvm.LawKit.callS X177 hx (y := M_44) hown (mvT hZ (u 35)) (mvT hZ (u 36)) (mvT hZ (u 3)) (mvT hZ (u 37)) (by decide) (backOf (W := 5) (rm6 l Z a0 hw [] va w_c f_ wE wL wD wA kD kA T177.heap n0 z182 c184) hZ (u 37) (u 3) (by decide) (by decide)) (g := (mkF m 309 (la36 p0 p1 p2 p3 p4 p5 n sf al va vb v2 v11 v20 xx yy sa sb kk b30 b97 b125) [(.int va), (.ref b164), (.int sf), (.int 1), (.ref b155), (.ref b155)])) rfl (by rw [hml]; rfl) (argsL := [(.int va)]) (rest := [(.ref b164), (.int sf), (.int 1), (.ref b155), (.ref b155)]) (lenOf pd_32 rfl) rfl (wk rfl rfl) (D at_309) (fun _ _ => ⟨rfl, (rfl : T177.heap = _), lD rfl, lD rfl⟩)) (k := 10) (n := 58) rfl rfl
           obtain ⟨b185, rfl, Nq183, K183, hz183, I183⟩ := hQ183
           have N183 := Fr.app N177 Nq183
           have z187 : n0 ≤ T183.heap.size := Nat.le_trans z182 K183.1
           refine gob st183 ?_
           obtain ⟨T188, h188, X188, e188, E188, A188, D188, -, st188⟩ := newO X183 hx hZ hown (u 6) (u 7) (u 8) (rfl : T183.heap = _) (g := (mkF m 312 (la36 p0 p1 p2 p3 p4 p5 n sf al va vb v2 v11 v20 xx yy sa sb kk b30 b97 b125) [(.ref b185), (.ref b164), (.int sf), (.int 1), (.ref b155), (.ref b155)])) rfl (D at_312) (by decide) (by decide)
           obtain ⟨b188, g188⟩ : ∃ z, z = T183.heap.size := ⟨_, rfl⟩
           rw [← g188] at A188 D188 st188
           have c189 := (c184.keep K183 geN)
           have c194 := (((c170.ext E164).keep K177).keep K183)
           have n195 : b30 ≠ b188 := Nat.ne_of_lt (Nat.lt_of_lt_of_le c194.lt (Nat.le_of_eq g188.symm))
           have c196 := (((A155.ext E164).keep K177).keep K183)
           have n197 : b155 ≠ b188 := Nat.ne_of_lt (Nat.lt_of_lt_of_le c196.lt (Nat.le_of_eq g188.symm))
           have c198 := ((A164.keep K177).keep K183)
           have n199 : b164 ≠ b188 := Nat.ne_of_lt (Nat.lt_of_lt_of_le c198.lt (Nat.le_of_eq g188.symm))
           have g200 : n0 ≤ b188 := Nat.le_trans z187 (Nat.le_of_eq g188.symm)
           have xs201 := (own_extK (own_extK (own_extE xs174 E164) K177 (allS gs175 all0)) K183 all0)
           have gs202 : hq142.size ≤ b188 := Nat.le_trans xs201.1 (Nat.le_of_eq g188.symm)
           have gs203 : T183.heap.size ≤ b188 := Nat.le_trans (own_extR T183.heap).1 (Nat.le_of_eq g188.symm)
           have z204 : n0 ≤ h188.size := Nat.le_trans z187 E188.1
           have F188_modCount : Fld Z h188 b188 s_9 s_12 "I" (.int (0 : Int32)) := D188 (Or.inl (hW hw 28 rfl)) (ty := .int) (by decide)
           have F188_elementData : Fld Z h188 b188 s_1 s_8 s_3 .null := D188 (Or.inl (hW hw 31 rfl)) (ty := (.array (.object s_0))) (by decide)
           have F188_size : Fld Z h188 b188 s_1 "size" "I" (.int (0 : Int32)) := D188 (Or.inl (hW hw 53 rfl)) (ty := .int) (by decide)
           refine gob st188 ?_
           replace X188 := castX X188 (rfl : _ = 11) (rfl : _ = 61)
           show gO (tF T188 m 315 (la36 p0 p1 p2 p3 p4 p5 n sf al va vb v2 v11 v20 xx yy sa sb kk b30 b97 b125) [(.ref b188), (.ref b185), (.ref b164), (.int sf), (.int 1), (.ref b155), (.ref b155)])
           refine go (XS.dup X188.here hx rfl (D at_315) rfl rfl) ?_
           have c206 := (c189.ext E188)
           obtain ⟨_, T205, Lc205, X205, hQ205, st205⟩ := clB X188 (X188.specialBack hx (y := M_3) rfl hown (mvT hZ (u 9)) (mvT hZ (u 10)) (mvT hZ (u 11)) (by decide) (backOf (W := 7) (rm2 l Z a0 hw [] b188 wD h188 n0 z204 A188 F188_modCount F188_elementData F188_size g200 (own_WD c206)) hZ (u 11) (u 8) (by decide) (by decide)) (g := (mkF m 316 (la36 p0 p1 p2 p3 p4 p5 n sf al va vb v2 v11 v20 xx yy sa sb kk b30 b97 b125) [(.ref b188), (.ref b188), (.ref b185), (.ref b164), (.int sf), (.int 1), (.ref b155), (.ref b155)])) rfl (by rw [hml]; rfl) (Steps.refl _) (a := b188) (argsL := []) (rest := [(.ref b188), (.ref b185), (.ref b164), (.int sf), (.int 1), (.ref b155), (.ref b155)]) (lenOf pd_0 rfl) rfl (wk rfl rfl) (D at_316) (fun _ _ => ⟨rfl, e188, lD rfl, lD rfl⟩)) (k := 11) (n := 61) rfl rfl
           obtain ⟨rfl, Nq205, K205, F207, F208, F209⟩ := hQ205
           have N205 := Fr.app N183 Nq205
           have z210 : n0 ≤ T205.heap.size := Nat.le_trans z204 K205.1
           refine gob (fun _ k => st205.trans k) ?_
           obtain ⟨T211, h211, X211, e211, E211, A211, D211, -, st211⟩ := newO X205 hx hZ hown (u 6) (u 7) (u 8) (rfl : T205.heap = _) (g := (mkF m 319 (la36 p0 p1 p2 p3 p4 p5 n sf al va vb v2 v11 v20 xx yy sa sb kk b30 b97 b125) [(.ref b188), (.ref b185), (.ref b164), (.int sf), (.int 1), (.ref b155), (.ref b155)])) rfl (D at_319) (by decide) (by decide)
           obtain ⟨b211, g211⟩ : ∃ z, z = T205.heap.size := ⟨_, rfl⟩
           rw [← g211] at A211 D211 st211
           have c212 := (c206.keep K205 (geS g200 geN))
           have c217 := ((c194.ext E188).keep K205)
           have n218 : b30 ≠ b211 := Nat.ne_of_lt (Nat.lt_of_lt_of_le c217.lt (Nat.le_of_eq g211.symm))
           have c219 := ((c196.ext E188).keep K205)
           have n220 : b155 ≠ b211 := Nat.ne_of_lt (Nat.lt_of_lt_of_le c219.lt (Nat.le_of_eq g211.symm))
           have c221 := ((c198.ext E188).keep K205)
           have n222 : b164 ≠ b211 := Nat.ne_of_lt (Nat.lt_of_lt_of_le c221.lt (Nat.le_of_eq g211.symm))
           have c223 := (A188.keep K205)
           have n224 : b188 ≠ b211 := Nat.ne_of_lt (Nat.lt_of_lt_of_le c223.lt (Nat.le_of_eq g211.symm))
           have g225 : n0 ≤ b211 := Nat.le_trans z210 (Nat.le_of_eq g211.symm)
           have xs226 := (own_extK (own_extE xs201 E188) K205 (allS gs202 all0))
           have gs227 : hq142.size ≤ b211 := Nat.le_trans xs226.1 (Nat.le_of_eq g211.symm)
           have xs228 := (own_extK (own_extE (own_extR T183.heap) E188) K205 (allS gs203 all0))
           have gs229 : T183.heap.size ≤ b211 := Nat.le_trans xs228.1 (Nat.le_of_eq g211.symm)
           have z230 : n0 ≤ h211.size := Nat.le_trans z210 E211.1
           have F211_modCount : Fld Z h211 b211 s_9 s_12 "I" (.int (0 : Int32)) := D211 (Or.inl (hW hw 28 rfl)) (ty := .int) (by decide)
           have F211_elementData : Fld Z h211 b211 s_1 s_8 s_3 .null := D211 (Or.inl (hW hw 31 rfl)) (ty := (.array (.object s_0))) (by decide)
           have F211_size : Fld Z h211 b211 s_1 "size" "I" (.int (0 : Int32)) := D211 (Or.inl (hW hw 53 rfl)) (ty := .int) (by decide)
           refine gob st211 ?_
           replace X211 := castX X211 (rfl : _ = 12) (rfl : _ = 64)
           show gO (tF T211 m 322 (la36 p0 p1 p2 p3 p4 p5 n sf al va vb v2 v11 v20 xx yy sa sb kk b30 b97 b125) [(.ref b211), (.ref b188), (.ref b185), (.ref b164), (.int sf), (.int 1), (.ref b155), (.ref b155)])
           refine go (XS.dup X211.here hx rfl (D at_322) rfl rfl) ?_
           have c232 := (c212.ext E211)
           obtain ⟨_, T231, Lc231, X231, hQ231, st231⟩ := clB X211 (X211.specialBack hx (y := M_3) rfl hown (mvT hZ (u 9)) (mvT hZ (u 10)) (mvT hZ (u 11)) (by decide) (backOf (W := 8) (rm2 l Z a0 hw [] b211 wD h211 n0 z230 A211 F211_modCount F211_elementData F211_size g225 (own_WD c232)) hZ (u 11) (u 8) (by decide) (by decide)) (g := (mkF m 323 (la36 p0 p1 p2 p3 p4 p5 n sf al va vb v2 v11 v20 xx yy sa sb kk b30 b97 b125) [(.ref b211), (.ref b211), (.ref b188), (.ref b185), (.ref b164), (.int sf), (.int 1), (.ref b155), (.ref b155)])) rfl (by rw [hml]; rfl) (Steps.refl _) (a := b211) (argsL := []) (rest := [(.ref b211), (.ref b188), (.ref b185), (.ref b164), (.int sf), (.int 1), (.ref b155), (.ref b155)]) (lenOf pd_0 rfl) rfl (wk rfl rfl) (D at_323) (fun _ _ => ⟨rfl, e211, lD rfl, lD rfl⟩)) (k := 12) (n := 64) rfl rfl
           obtain ⟨rfl, Nq231, K231, F233, F234, F235⟩ := hQ231
           have N231 := Fr.app N205 Nq231
           have z236 : n0 ≤ T231.heap.size := Nat.le_trans z230 K231.1
           refine gob (fun _ k => st231.trans k) ?_
           obtain ⟨T237, h237, X237, e237, E237, A237, D237, -, st237⟩ := newO X231 hx hZ hown (u 6) (u 7) (u 8) (rfl : T231.heap = _) (g := (mkF m 326 (la36 p0 p1 p2 p3 p4 p5 n sf al va vb v2 v11 v20 xx yy sa sb kk b30 b97 b125) [(.ref b211), (.ref b188), (.ref b185), (.ref b164), (.int sf), (.int 1), (.ref b155), (.ref b155)])) rfl (D at_326) (by decide) (by decide)
           obtain ⟨b237, g237⟩ : ∃ z, z = T231.heap.size := ⟨_, rfl⟩
           rw [← g237] at A237 D237 st237
           have c238 := (c232.keep K231 (geS g225 geN))
           have c243 := ((c217.ext E211).keep K231)
           have n244 : b30 ≠ b237 := Nat.ne_of_lt (Nat.lt_of_lt_of_le c243.lt (Nat.le_of_eq g237.symm))
           have c245 := ((c219.ext E211).keep K231)
           have n246 : b155 ≠ b237 := Nat.ne_of_lt (Nat.lt_of_lt_of_le c245.lt (Nat.le_of_eq g237.symm))
           have c247 := ((c221.ext E211).keep K231)
           have n248 : b164 ≠ b237 := Nat.ne_of_lt (Nat.lt_of_lt_of_le c247.lt (Nat.le_of_eq g237.symm))
           have c249 := ((c223.ext E211).keep K231)
           have n250 : b188 ≠ b237 := Nat.ne_of_lt (Nat.lt_of_lt_of_le c249.lt (Nat.le_of_eq g237.symm))
           have c251 := (A211.keep K231)
           have n252 : b211 ≠ b237 := Nat.ne_of_lt (Nat.lt_of_lt_of_le c251.lt (Nat.le_of_eq g237.symm))
           have g253 : n0 ≤ b237 := Nat.le_trans z236 (Nat.le_of_eq g237.symm)
           have xs254 := (own_extK (own_extE xs226 E211) K231 (allS gs227 all0))
           have gs255 : hq142.size ≤ b237 := Nat.le_trans xs254.1 (Nat.le_of_eq g237.symm)
           have xs256 := (own_extK (own_extE xs228 E211) K231 (allS gs229 all0))
           have gs257 : T183.heap.size ≤ b237 := Nat.le_trans xs256.1 (Nat.le_of_eq g237.symm)
           have z258 : n0 ≤ h237.size := Nat.le_trans z236 E237.1
           have F237_modCount : Fld Z h237 b237 s_9 s_12 "I" (.int (0 : Int32)) := D237 (Or.inl (hW hw 28 rfl)) (ty := .int) (by decide)
           have F237_elementData : Fld Z h237 b237 s_1 s_8 s_3 .null := D237 (Or.inl (hW hw 31 rfl)) (ty := (.array (.object s_0))) (by decide)
           have F237_size : Fld Z h237 b237 s_1 "size" "I" (.int (0 : Int32)) := D237 (Or.inl (hW hw 53 rfl)) (ty := .int) (by decide)
           refine gob st237 ?_
           replace X237 := castX X237 (rfl : _ = 13) (rfl : _ = 67)
           show gO (tF T237 m 329 (la36 p0 p1 p2 p3 p4 p5 n sf al va vb v2 v11 v20 xx yy sa sb kk b30 b97 b125) [(.ref b237), (.ref b211), (.ref b188), (.ref b185), (.ref b164), (.int sf), (.int 1), (.ref b155), (.ref b155)])
           refine go (XS.dup X237.here hx rfl (D at_329) rfl rfl) ?_
           have c260 := (c238.ext E237)
           obtain ⟨_, T259, Lc259, X259, hQ259, st259⟩ := clB X237 (X237.specialBack hx (y := M_3) rfl hown (mvT hZ (u 9)) (mvT hZ (u 10)) (mvT hZ (u 11)) (by decide) (backOf (W := 9) (rm2 l Z a0 hw [] b237 wD h237 n0 z258 A237 F237_modCount F237_elementData F237_size g253 (own_WD c260)) hZ (u 11) (u 8) (by decide) (by decide)) (g := (mkF m 330 (la36 p0 p1 p2 p3 p4 p5 n sf al va vb v2 v11 v20 xx yy sa sb kk b30 b97 b125) [(.ref b237), (.ref b237), (.ref b211), (.ref b188), (.ref b185), (.ref b164), (.int sf), (.int 1), (.ref b155), (.ref b155)])) rfl (by rw [hml]; rfl) (Steps.refl _) (a := b237) (argsL := []) (rest := [(.ref b237), (.ref b211), (.ref b188), (.ref b185), (.ref b164), (.int sf), (.int 1), (.ref b155), (.ref b155)]) (lenOf pd_0 rfl) rfl (wk rfl rfl) (D at_330) (fun _ _ => ⟨rfl, e237, lD rfl, lD rfl⟩)) (k := 13) (n := 67) rfl rfl
           obtain ⟨rfl, Nq259, K259, F261, F262, F263⟩ := hQ259
           have N259 := Fr.app N231 Nq259
           have z264 : n0 ≤ T259.heap.size := Nat.le_trans z258 K259.1
           refine gob (fun _ k => st259.trans k) ?_
           obtain ⟨T265, h265, X265, e265, E265, A265, D265, -, st265⟩ := newO X259 hx hZ hown (u 6) (u 7) (u 8) (rfl : T259.heap = _) (g := (mkF m 333 (la36 p0 p1 p2 p3 p4 p5 n sf al va vb v2 v11 v20 xx yy sa sb kk b30 b97 b125) [(.ref b237), (.ref b211), (.ref b188), (.ref b185), (.ref b164), (.int sf), (.int 1), (.ref b155), (.ref b155)])) rfl (D at_333) (by decide) (by decide)
           obtain ⟨b265, g265⟩ : ∃ z, z = T259.heap.size := ⟨_, rfl⟩
           rw [← g265] at A265 D265 st265
           have c266 := (c260.keep K259 (geS g253 geN))
           have c271 := ((c243.ext E237).keep K259)
           have n272 : b30 ≠ b265 := Nat.ne_of_lt (Nat.lt_of_lt_of_le c271.lt (Nat.le_of_eq g265.symm))
           have c273 := ((c245.ext E237).keep K259)
           have n274 : b155 ≠ b265 := Nat.ne_of_lt (Nat.lt_of_lt_of_le c273.lt (Nat.le_of_eq g265.symm))
           have c275 := ((c247.ext E237).keep K259)
           have n276 : b164 ≠ b265 := Nat.ne_of_lt (Nat.lt_of_lt_of_le c275.lt (Nat.le_of_eq g265.symm))
           have c277 := ((c249.ext E237).keep K259)
           have n278 : b188 ≠ b265 := Nat.ne_of_lt (Nat.lt_of_lt_of_le c277.lt (Nat.le_of_eq g265.symm))
           have c279 := ((c251.ext E237).keep K259)
           have n280 : b211 ≠ b265 := Nat.ne_of_lt (Nat.lt_of_lt_of_le c279.lt (Nat.le_of_eq g265.symm))
           have c281 := (A237.keep K259)
           have n282 : b237 ≠ b265 := Nat.ne_of_lt (Nat.lt_of_lt_of_le c281.lt (Nat.le_of_eq g265.symm))
           have g283 : n0 ≤ b265 := Nat.le_trans z264 (Nat.le_of_eq g265.symm)
           have xs284 := (own_extK (own_extE xs254 E237) K259 (allS gs255 all0))
           have gs285 : hq142.size ≤ b265 := Nat.le_trans xs284.1 (Nat.le_of_eq g265.symm)
           have xs286 := (own_extK (own_extE xs256 E237) K259 (allS gs257 all0))
           have gs287 : T183.heap.size ≤ b265 := Nat.le_trans xs286.1 (Nat.le_of_eq g265.symm)
           have z288 : n0 ≤ h265.size := Nat.le_trans z264 E265.1
           have F265_modCount : Fld Z h265 b265 s_9 s_12 "I" (.int (0 : Int32)) := D265 (Or.inl (hW hw 28 rfl)) (ty := .int) (by decide)
           have F265_elementData : Fld Z h265 b265 s_1 s_8 s_3 .null := D265 (Or.inl (hW hw 31 rfl)) (ty := (.array (.object s_0))) (by decide)
           have F265_size : Fld Z h265 b265 s_1 "size" "I" (.int (0 : Int32)) := D265 (Or.inl (hW hw 53 rfl)) (ty := .int) (by decide)
           refine gob st265 ?_
           replace X265 := castX X265 (rfl : _ = 14) (rfl : _ = 70)
           show gO (tF T265 m 336 (la36 p0 p1 p2 p3 p4 p5 n sf al va vb v2 v11 v20 xx yy sa sb kk b30 b97 b125) [(.ref b265), (.ref b237), (.ref b211), (.ref b188), (.ref b185), (.ref b164), (.int sf), (.int 1), (.ref b155), (.ref b155)])
           refine go (XS.dup X265.here hx rfl (D at_336) rfl rfl) ?_
           have c290 := (c266.ext E265)
           obtain ⟨_, T289, Lc289, X289, hQ289, st289⟩ := clB X265 (X265.specialBack hx (y := M_3) rfl hown (mvT hZ (u 9)) (mvT hZ (u 10)) (mvT hZ (u 11)) (by decide) (backOf (W := 10) (rm2 l Z a0 hw [] b265 wD h265 n0 z288 A265 F265_modCount F265_elementData F265_size g283 (own_WD c290)) hZ (u 11) (u 8) (by decide) (by decide)) (g := (mkF m 337 (la36 p0 p1 p2 p3 p4 p5 n sf al va vb v2 v11 v20 xx yy sa sb kk b30 b97 b125) [(.ref b265), (.ref b265), (.ref b237), (.ref b211), (.ref b188), (.ref b185), (.ref b164), (.int sf), (.int 1), (.ref b155), (.ref b155)])) rfl (by rw [hml]; rfl) (Steps.refl _) (a := b265) (argsL := []) (rest := [(.ref b265), (.ref b237), (.ref b211), (.ref b188), (.ref b185), (.ref b164), (.int sf), (.int 1), (.ref b155), (.ref b155)]) (lenOf pd_0 rfl) rfl (wk rfl rfl) (D at_337) (fun _ _ => ⟨rfl, e265, lD rfl, lD rfl⟩)) (k := 14) (n := 70) rfl rfl
           obtain ⟨rfl, Nq289, K289, F291, F292, F293⟩ := hQ289
           have N289 := Fr.app N259 Nq289
           have z294 : n0 ≤ T289.heap.size := Nat.le_trans z288 K289.1
           refine gob (fun _ k => st289.trans k) ?_
           obtain ⟨T295, h295, X295, e295, E295, A295, D295, -, st295⟩ := newO X289 hx hZ hown (u 6) (u 7) (u 8) (rfl : T289.heap = _) (g := (mkF m 340 (la36 p0 p1 p2 p3 p4 p5 n sf al va vb v2 v11 v20 xx yy sa sb kk b30 b97 b125) [(.ref b265), (.ref b237), (.ref b211), (.ref b188), (.ref b185), (.ref b164), (.int sf), (.int 1), (.ref b155), (.ref b155)])) rfl (D at_340) (by decide) (by decide)
           obtain ⟨b295, g295⟩ : ∃ z, z = T289.heap.size := ⟨_, rfl⟩
           rw [← g295] at A295 D295 st295
           have c296 := (c290.keep K289 (geS g283 geN))
           have c301 := ((c271.ext E265).keep K289)
           have n302 : b30 ≠ b295 := Nat.ne_of_lt (Nat.lt_of_lt_of_le c301.lt (Nat.le_of_eq g295.symm))
           have c303 := ((c273.ext E265).keep K289)
           have n304 : b155 ≠ b295 := Nat.ne_of_lt (Nat.lt_of_lt_of_le c303.lt (Nat.le_of_eq g295.symm))
           have c305 := ((c275.ext E265).keep K289)
           have n306 : b164 ≠ b295 := Nat.ne_of_lt (Nat.lt_of_lt_of_le c305.lt (Nat.le_of_eq g295.symm))
           have c307 := ((c277.ext E265).keep K289)
           have n308 : b188 ≠ b295 := Nat.ne_of_lt (Nat.lt_of_lt_of_le c307.lt (Nat.le_of_eq g295.symm))
           have c309 := ((c279.ext E265).keep K289)
           have n310 : b211 ≠ b295 := Nat.ne_of_lt (Nat.lt_of_lt_of_le c309.lt (Nat.le_of_eq g295.symm))
           have c311 := ((c281.ext E265).keep K289)
           have n312 : b237 ≠ b295 := Nat.ne_of_lt (Nat.lt_of_lt_of_le c311.lt (Nat.le_of_eq g295.symm))
           have c313 := (A265.keep K289)
           have n314 : b265 ≠ b295 := Nat.ne_of_lt (Nat.lt_of_lt_of_le c313.lt (Nat.le_of_eq g295.symm))
           have g315 : n0 ≤ b295 := Nat.le_trans z294 (Nat.le_of_eq g295.symm)
           have xs316 := (own_extK (own_extE xs284 E265) K289 (allS gs285 all0))
           have gs317 : hq142.size ≤ b295 := Nat.le_trans xs316.1 (Nat.le_of_eq g295.symm)
           have xs318 := (own_extK (own_extE xs286 E265) K289 (allS gs287 all0))
           have gs319 : T183.heap.size ≤ b295 := Nat.le_trans xs318.1 (Nat.le_of_eq g295.symm)
           have z320 : n0 ≤ h295.size := Nat.le_trans z294 E295.1
           have F295_modCount : Fld Z h295 b295 s_9 s_12 "I" (.int (0 : Int32)) := D295 (Or.inl (hW hw 28 rfl)) (ty := .int) (by decide)
           have F295_elementData : Fld Z h295 b295 s_1 s_8 s_3 .null := D295 (Or.inl (hW hw 31 rfl)) (ty := (.array (.object s_0))) (by decide)
           have F295_size : Fld Z h295 b295 s_1 "size" "I" (.int (0 : Int32)) := D295 (Or.inl (hW hw 53 rfl)) (ty := .int) (by decide)
           refine gob st295 ?_
           replace X295 := castX X295 (rfl : _ = 15) (rfl : _ = 73)
           show gO (tF T295 m 343 (la36 p0 p1 p2 p3 p4 p5 n sf al va vb v2 v11 v20 xx yy sa sb kk b30 b97 b125) [(.ref b295), (.ref b265), (.ref b237), (.ref b211), (.ref b188), (.ref b185), (.ref b164), (.int sf), (.int 1), (.ref b155), (.ref b155)])
           refine go (XS.dup X295.here hx rfl (D at_343) rfl rfl) ?_
           have c322 := (c296.ext E295)
           obtain ⟨_, T321, Lc321, X321, hQ321, st321⟩ := clB X295 (X295.specialBack hx (y := M_3) rfl hown (mvT hZ (u 9)) (mvT hZ (u 10)) (mvT hZ (u 11)) (by decide) (backOf (W := 11) (rm2 l Z a0 hw [] b295 wD h295 n0 z320 A295 F295_modCount F295_elementData F295_size g315 (own_WD c322)) hZ (u 11) (u 8) (by decide) (by decide)) (g := (mkF m 344 (la36 p0 p1 p2 p3 p4 p5 n sf al va vb v2 v11 v20 xx yy sa sb kk b30 b97 b125) [(.ref b295), (.ref b295), (.ref b265), (.ref b237), (.ref b211), (.ref b188), (.ref b185), (.ref b164), (.int sf), (.int 1), (.ref b155), (.ref b155)])) rfl (by rw [hml]; rfl) (Steps.refl _) (a := b295) (argsL := []) (rest := [(.ref b295), (.ref b265), (.ref b237), (.ref b211), (.ref b188), (.ref b185), (.ref b164), (.int sf), (.int 1), (.ref b155), (.ref b155)]) (lenOf pd_0 rfl) rfl (wk rfl rfl) (D at_344) (fun _ _ => ⟨rfl, e295, lD rfl, lD rfl⟩)) (k := 15) (n := 73) rfl rfl
           obtain ⟨rfl, Nq321, K321, F323, F324, F325⟩ := hQ321
           have N321 := Fr.app N289 Nq321
           have z326 : n0 ≤ T321.heap.size := Nat.le_trans z320 K321.1
           refine gob (fun _ k => st321.trans k) ?_
           have c328 := (c322.keep K321 (geS g315 geN))
           have xs329 := (own_extK (own_extE xs318 E295) K321 (allS gs319 all0))
           have c330 := ((c307.ext E295).keep K321)
           have c331 := ((((((((F209.ext E211).keep K231 (ninS n224 nin0)).ext E237).keep K259 (ninS n250 nin0)).ext E265).keep K289 (ninS n278 nin0)).ext E295).keep K321 (ninS n308 nin0))
           have c332 := ((c309.ext E295).keep K321)
           have c333 := ((((((F235.ext E237).keep K259 (ninS n252 nin0)).ext E265).keep K289 (ninS n280 nin0)).ext E295).keep K321 (ninS n310 nin0))
           have c334 := ((c305.ext E295).keep K321)
           have c335 := (((((((((((F181.keep K183 nin0).ext E188).keep K205 (ninS n199 nin0)).ext E211).keep K231 (ninS n222 nin0)).ext E237).keep K259 (ninS n248 nin0)).ext E265).keep K289 (ninS n276 nin0)).ext E295).keep K321 (ninS n306 nin0))
           have c336 := ((c311.ext E295).keep K321)
           have c337 := ((((F263.ext E265).keep K289 (ninS n282 nin0)).ext E295).keep K321 (ninS n312 nin0))
           have c338 := ((c313.ext E295).keep K321)
           have c339 := ((F293.ext E295).keep K321 (ninS n314 nin0))
           have c340 := (A295.keep K321)
           have c341 := ((c303.ext E295).keep K321)
           have c342 := (((((((((((((F155_round.ext E164).keep K177 (ninS n172 nin0)).keep K183 nin0).ext E188).keep K205 (ninS n197 nin0)).ext E211).keep K231 (ninS n220 nin0)).ext E237).keep K259 (ninS n246 nin0)).ext E265).keep K289 (ninS n274 nin0)).ext E295).keep K321 (ninS n304 nin0))
           have c343 := (((((((((((((F155_coordinator.ext E164).keep K177 (ninS n172 nin0)).keep K183 nin0).ext E188).keep K205 (ninS n197 nin0)).ext E211).keep K231 (ninS n220 nin0)).ext E237).keep K259 (ninS n246 nin0)).ext E265).keep K289 (ninS n274 nin0)).ext E295).keep K321 (ninS n304 nin0))
           have c344 := (((((((((((((F155_toVisit.ext E164).keep K177 (ninS n172 nin0)).keep K183 nin0).ext E188).keep K205 (ninS n197 nin0)).ext E211).keep K231 (ninS n220 nin0)).ext E237).keep K259 (ninS n246 nin0)).ext E265).keep K289 (ninS n274 nin0)).ext E295).keep K321 (ninS n304 nin0))
           have c345 := (((((((((((((F155_visited.ext E164).keep K177 (ninS n172 nin0)).keep K183 nin0).ext E188).keep K205 (ninS n197 nin0)).ext E211).keep K231 (ninS n220 nin0)).ext E237).keep K259 (ninS n246 nin0)).ext E265).keep K289 (ninS n274 nin0)).ext E295).keep K321 (ninS n304 nin0))
           have c346 := (((((((((((((F155_crashed.ext E164).keep K177 (ninS n172 nin0)).keep K183 nin0).ext E188).keep K205 (ninS n197 nin0)).ext E211).keep K231 (ninS n220 nin0)).ext E237).keep K259 (ninS n246 nin0)).ext E265).keep K289 (ninS n274 nin0)).ext E295).keep K321 (ninS n304 nin0))
           have c347 := (((((((((((((F155_found.ext E164).keep K177 (ninS n172 nin0)).keep K183 nin0).ext E188).keep K205 (ninS n197 nin0)).ext E211).keep K231 (ninS n220 nin0)).ext E237).keep K259 (ninS n246 nin0)).ext E265).keep K289 (ninS n274 nin0)).ext E295).keep K321 (ninS n304 nin0))
           have c348 := (((((((((((((F155_latest.ext E164).keep K177 (ninS n172 nin0)).keep K183 nin0).ext E188).keep K205 (ninS n197 nin0)).ext E211).keep K231 (ninS n220 nin0)).ext E237).keep K259 (ninS n246 nin0)).ext E265).keep K289 (ninS n274 nin0)).ext E295).keep K321 (ninS n304 nin0))
           have c349 := (((((((((((((F155_waiters.ext E164).keep K177 (ninS n172 nin0)).keep K183 nin0).ext E188).keep K205 (ninS n197 nin0)).ext E211).keep K231 (ninS n220 nin0)).ext E237).keep K259 (ninS n246 nin0)).ext E265).keep K289 (ninS n274 nin0)).ext E295).keep K321 (ninS n304 nin0))
           have c350 := (((((((((((((F155_queued.ext E164).keep K177 (ninS n172 nin0)).keep K183 nin0).ext E188).keep K205 (ninS n197 nin0)).ext E211).keep K231 (ninS n220 nin0)).ext E237).keep K259 (ninS n246 nin0)).ext E265).keep K289 (ninS n274 nin0)).ext E295).keep K321 (ninS n304 nin0))
           obtain ⟨_, T327, Lc327, X327, hQ327, st327⟩ := clB X321 (X321.specialBack hx (y := M_45) rfl hown (mvT hZ (u 76)) (mvT hZ (u 77)) (mvT hZ (u 78)) (by decide) (backOf (W := 1) (rm13 l Z a0 hw [] b155 (1 : Int32) sf b164 b185 b188 b211 b237 b265 b295 w_c f_ wE wL wD wA kD kA mr_ ((mm va).map (fI f_)) [] [] T321.heap n0 z326 c328 MM (I183.ext xs329) ⟨c330, c331, by decide, (fun _ q => nomatch q), Or.inl rfl⟩ ⟨c332, c333, by decide, (fun _ q => nomatch q), Or.inl rfl⟩ (Nat.zero_le _) c334 c335 c336 c337 c338 c339 c340 F325 c341 c342 g161 c343 c344 c345 c346 c347 c348 c349 c350) hZ (u 78) (u 34) (by decide) (by decide)) (g := (mkF m 347 (la36 p0 p1 p2 p3 p4 p5 n sf al va vb v2 v11 v20 xx yy sa sb kk b30 b97 b125) [(.ref b295), (.ref b265), (.ref b237), (.ref b211), (.ref b188), (.ref b185), (.ref b164), (.int sf), (.int 1), (.ref b155), (.ref b155)])) rfl (by rw [hml]; rfl) (Steps.refl _) (a := b155) (argsL := [(.int 1), (.int sf), (.ref b164), (.ref b185), (.ref b188), (.ref b211), (.ref b237), (.ref b265), (.ref b295)]) (rest := [(.ref b155)]) (lenOf pd_33 rfl) rfl (wk rfl rfl) (D at_347) (fun _ _ => ⟨rfl, (rfl : T321.heap = _), lD rfl, lD rfl⟩)) (k := 23) (n := 96) rfl rfl
           obtain ⟨rfl, Nq327, K327, I327⟩ := hQ327
           have N327 := Fr.app N321 Nq327
           have z351 : n0 ≤ T327.heap.size := Nat.le_trans z326 K327.1
           refine gob (fun _ k => st327.trans k) ?_
           refine go (XS.astore X327.here hx rfl (D at_350) rfl rfl (l' := (la37 p0 p1 p2 p3 p4 p5 n sf al va vb v2 v11 v20 xx yy sa sb kk b30 b97 b125 b155)) rfl) ?_
           obtain ⟨T352, h352, X352, e352, E352, A352, D352, -, st352⟩ := newO X327 hx hZ hown (u 32) (u 33) (u 34) (rfl : T327.heap = _) (g := (mkF m 352 (la37 p0 p1 p2 p3 p4 p5 n sf al va vb v2 v11 v20 xx yy sa sb kk b30 b97 b125 b155) [])) rfl (D at_352) (by decide) (by decide)
           obtain ⟨b352, g352⟩ : ∃ z, z = T327.heap.size := ⟨_, rfl⟩
           rw [← g352] at A352 D352 st352
           have c353 := (c328.keep K327 (geS g161 geN))
           have c358 := (((c301.ext E295).keep K321).keep K327)
           have n359 : b30 ≠ b352 := Nat.ne_of_lt (Nat.lt_of_lt_of_le c358.lt (Nat.le_of_eq g352.symm))
           have g374 : n0 ≤ b352 := Nat.le_trans z351 (Nat.le_of_eq g352.symm)
           have xs375 := (own_extK (own_extK (own_extE xs316 E295) K321 (allS gs317 all0)) K327 (allS gs162 all0))
           have gs376 : hq142.size ≤ b352 := Nat.le_trans xs375.1 (Nat.le_of_eq g352.symm)
           have gs377 : T327.heap.size ≤ b352 := Nat.le_trans (own_extR T327.heap).1 (Nat.le_of_eq g352.symm)
           have z378 : n0 ≤ h352.size := Nat.le_trans z351 E352.1
           have F352_round : Fld Z h352 b352 s_10 "round" "I" (.int (0 : Int32)) := D352 (Or.inr (hW hw 176 rfl)) (ty := .int) (by decide)
           have F352_coordinator : Fld Z h352 b352 s_10 "coordinator" "I" (.int (0 : Int32)) := D352 (Or.inr (hW hw 178 rfl)) (ty := .int) (by decide)
           have F352_toVisit : Fld Z h352 b352 s_10 "toVisit" s_11 .null := D352 (Or.inr (hW hw 180 rfl)) (ty := (.object s_2)) (by decide)
           have F352_visited : Fld Z h352 b352 s_10 "visited" s_11 .null := D352 (Or.inr (hW hw 182 rfl)) (ty := (.object s_2)) (by decide)
           have F352_crashed : Fld Z h352 b352 s_10 "crashed" s_11 .null := D352 (Or.inr (hW hw 184 rfl)) (ty := (.object s_2)) (by decide)
           have F352_found : Fld Z h352 b352 s_10 "found" s_11 .null := D352 (Or.inr (hW hw 186 rfl)) (ty := (.object s_2)) (by decide)
           have F352_latest : Fld Z h352 b352 s_10 "latest" s_11 .null := D352 (Or.inr (hW hw 188 rfl)) (ty := (.object s_2)) (by decide)
           have F352_waiters : Fld Z h352 b352 s_10 "waiters" s_11 .null := D352 (Or.inr (hW hw 190 rfl)) (ty := (.object s_2)) (by decide)
           have F352_queued : Fld Z h352 b352 s_10 "queued" s_11 .null := D352 (Or.inr (hW hw 192 rfl)) (ty := (.object s_2)) (by decide)
           refine gob st352 ?_
           replace X352 := castX X352 (rfl : _ = 24) (rfl : _ = 105)
           show gO (tF T352 m 355 (la37 p0 p1 p2 p3 p4 p5 n sf al va vb v2 v11 v20 xx yy sa sb kk b30 b97 b125 b155) [(.ref b352)])
           refine go (XS.dup X352.here hx rfl (D at_355) rfl rfl) ?_
           refine giC X352 hx (D at_356) ?_
           refine giM X352 hx (D at_357) rfl ?_
           obtain ⟨T379, h379, X379, e379, E379, A379, D379, -, st379⟩ := newO X352 hx hZ hown (u 6) (u 7) (u 8) e352 (g := (mkF m 359 (la37 p0 p1 p2 p3 p4 p5 n sf al va vb v2 v11 v20 xx yy sa sb kk b30 b97 b125 b155) [(.int sf), (.int 2), (.ref b352), (.ref b352)])) rfl (D at_359) (by decide) (by decide)
           obtain ⟨b379, g379⟩ : ∃ z, z = h352.size := ⟨_, rfl⟩
           rw [← g379] at A379 D379 st379
           have c380 := (c353.ext E352)
           have c385 := (c358.ext E352)
           have n386 : b30 ≠ b379 := Nat.ne_of_lt (Nat.lt_of_lt_of_le c385.lt (Nat.le_of_eq g379.symm))
           have n401 : b352 ≠ b379 := Nat.ne_of_lt (Nat.lt_of_lt_of_le A352.lt (Nat.le_of_eq g379.symm))
           have g402 : n0 ≤ b379 := Nat.le_trans z378 (Nat.le_of_eq g379.symm)
           have xs403 := (own_extE xs375 E352)
           have gs404 : hq142.size ≤ b379 := Nat.le_trans xs403.1 (Nat.le_of_eq g379.symm)
           have xs405 := (own_extE (own_extR T327.heap) E352)
           have gs406 : T327.heap.size ≤ b379 := Nat.le_trans xs405.1 (Nat.le_of_eq g379.symm)
           have z407 : n0 ≤ h379.size := Nat.le_trans z378 E379.1
           have F379_modCount : Fld Z h379 b379 s_9 s_12 "I" (.int (0 : Int32)) := D379 (Or.inl (hW hw 28 rfl)) (ty := .int) (by decide)
           have F379_elementData : Fld Z h379 b379 s_1 s_8 s_3 .null := D379 (Or.inl (hW hw 31 rfl)) (ty := (.array (.object s_0))) (by decide)
           have F379_size : Fld Z h379 b379 s_1 "size" "I" (.int (0 : Int32)) := D379 (Or.inl (hW hw 53 rfl)) (ty := .int) (by decide)
           refine gob st379 ?_
           replace X379 := castX X379 (rfl : _ = 25) (rfl : _ = 108)
           show gO (tF T379 m 362 (la37 p0 p1 p2 p3 p4 p5 n sf al va vb v2 v11 v20 xx yy sa sb kk b30 b97 b125 b155) [(.ref b379), (.int sf), (.int 2), (.ref b352), (.ref b352)])
           refine go (XS.dup X379.here hx rfl (D at_362) rfl rfl) ?_
           have c409 := (c380.ext E379)
           obtain ⟨_, T408, Lc408, X408, hQ408, st408⟩ := clB X379 (X379.specialBack hx (y := M_3) rfl hown (mvT hZ (u 9)) (mvT hZ (u 10)) (mvT hZ (u 11)) (by decide) (backOf (W := 5) (rm2 l Z a0 hw [] b379 wD h379 n0 z407 A379 F379_modCount F379_elementData F379_size g402 (own_WD c409)) hZ (u 11) (u 8) (by decide) (by decide)) (g := (mkF m 363 (la37 p0 p1 p2 p3 p4 p5 n sf al va vb v2 v11 v20 xx yy sa sb kk b30 b97 b125 b155) [(.ref b379), (.ref b379), (.int sf), (.int 2), (.ref b352), (.ref b352)])) rfl (by rw [hml]; rfl) (Steps.refl _) (a := b379) (argsL := []) (rest := [(.ref b379), (.int sf), (.int 2), (.ref b352), (.ref b352)]) (lenOf pd_0 rfl) rfl (wk rfl rfl) (D at_363) (fun _ _ => ⟨rfl, e379, lD rfl, lD rfl⟩)) (k := 25) (n := 108) rfl rfl
           obtain ⟨rfl, Nq408, K408, F410, F411, F412⟩ := hQ408
           have N408 := Fr.app N327 Nq408
           have z413 : n0 ≤ T408.heap.size := Nat.le_trans z407 K408.1
           refine gob (fun _ k => st408.trans k) ?_
           refine giM X408 hx (D at_366) rfl ?_
           have c415 := (c409.keep K408 (geS g402 geN))
           obtain ⟨_, T414, Lc414, X414, hQ414, st414⟩ := clS X408 (Jvm.LawKit.callS X408 hx (y := M_44) hown (mvT hZ (u 35)) (mvT hZ (u 36)) (mvT hZ (u 3)) (mvT hZ (u 37)) (by decide) (backOf (W := 5) (rm6 l Z a0 hw [] vb w_c f_ wE wL wD wA kD kA T408.heap n0 z413 c415) hZ (u 37) (u 3) (by decide) (by decide)) (g := (mkF m 368 (la37 p0 p1 p2 p3 p4 p5 n sf al va vb v2 v11 v20 xx yy sa sb kk b30 b97 b125 b155) [(.int vb), (.ref b379), (.int sf), (.int 2), (.ref b352), (.ref b352)])) rfl (by rw [hml]; rfl) (argsL := [(.int vb)]) (rest := [(.ref b379), (.int sf), (.int 2), (.ref b352), (.ref b352)]) (lenOf pd_32 rfl) rfl (wk rfl rfl) (D at_368) (fun _ _ => ⟨rfl, (rfl : T408.heap = _), lD rfl, lD rfl⟩)) (k := 27) (n := 121) rfl rfl
           obtain ⟨b416, rfl, Nq414, K414, hz414, I414⟩ := hQ414
           have N414 := Fr.app N408 Nq414
           have z418 : n0 ≤ T414.heap.size := Nat.le_trans z413 K414.1
           refine gob st414 ?_
           refine gaM X414 hx (D at_371) rfl rfl ?_
           refine gaM X414 hx (D at_373) rfl rfl ?_
           show gO (tF T414 m 375 (la37 p0 p1 p2 p3 p4 p5 n sf al va vb v2 v11 v20 xx yy sa sb kk b30 b97 b125 b155) [(.ref b125), (.ref b97), (.ref b416), (.ref b379), (.int sf), (.int 2), (.ref b352), (.ref b352)])
           obtain ⟨T419, h419, X419, e419, E419, A419, D419, -, st419⟩ := newO X414 hx hZ hown (u 6) (u 7) (u 8) (rfl : T414.heap = _) (g := (mkF m 375 (la37 p0 p1 p2 p3 p4 p5 n sf al va vb v2 v11 v20 xx yy sa sb kk b30 b97 b125 b155) [(.ref b125), (.ref b97), (.ref b416), (.ref b379), (.int sf), (.int 2), (.ref b352), (.ref b352)])) rfl (D at_375) (by decide) (by decide)
           obtain ⟨b419, g419⟩ : ∃ z, z = T414.heap.size := ⟨_, rfl⟩
           rw [← g419] at A419 D419 st419
           have c420 := (c415.keep K414 geN)
           have c425 := (((c385.ext E379).keep K408).keep K414)
           have n426 : b30 ≠ b419 := Nat.ne_of_lt (Nat.lt_of_lt_of_le c425.lt (Nat.le_of_eq g419.symm))
           have c441 := (((A352.ext E379).keep K408).keep K414)
           have n442 : b352 ≠ b419 := Nat.ne_of_lt (Nat.lt_of_lt_of_le c441.lt (Nat.le_of_eq g419.symm))
           have c443 := ((A379.keep K408).keep K414)
           have n444 : b379 ≠ b419 := Nat.ne_of_lt (Nat.lt_of_lt_of_le c443.lt (Nat.le_of_eq g419.symm))
           have g445 : n0 ≤ b419 := Nat.le_trans z418 (Nat.le_of_eq g419.symm)
           have xs446 := (own_extK (own_extK (own_extE xs403 E379) K408 (allS gs404 all0)) K414 all0)
           have gs447 : hq142.size ≤ b419 := Nat.le_trans xs446.1 (Nat.le_of_eq g419.symm)
           have xs448 := (own_extK (own_extK (own_extE xs405 E379) K408 (allS gs406 all0)) K414 all0)
           have gs449 : T327.heap.size ≤ b419 := Nat.le_trans xs448.1 (Nat.le_of_eq g419.symm)
           have gs450 : T414.heap.size ≤ b419 := Nat.le_trans (own_extR T414.heap).1 (Nat.le_of_eq g419.symm)
           have z451 : n0 ≤ h419.size := Nat.le_trans z418 E419.1
           have F419_modCount : Fld Z h419 b419 s_9 s_12 "I" (.int (0 : Int32)) := D419 (Or.inl (hW hw 28 rfl)) (ty := .int) (by decide)
           have F419_elementData : Fld Z h419 b419 s_1 s_8 s_3 .null := D419 (Or.inl (hW hw 31 rfl)) (ty := (.array (.object s_0))) (by decide)
           have F419_size : Fld Z h419 b419 s_1 "size" "I" (.int (0 : Int32)) := D419 (Or.inl (hW hw 53 rfl)) (ty := .int) (by decide)
           refine gob st419 ?_
           replace X419 := castX X419 (rfl : _ = 28) (rfl : _ = 124)
           show gO (tF T419 m 378 (la37 p0 p1 p2 p3 p4 p5 n sf al va vb v2 v11 v20 xx yy sa sb kk b30 b97 b125 b155) [(.ref b419), (.ref b125), (.ref b97), (.ref b416), (.ref b379), (.int sf), (.int 2), (.ref b352), (.ref b352)])
           refine go (XS.dup X419.here hx rfl (D at_378) rfl rfl) ?_
           have c453 := (c420.ext E419)
           obtain ⟨_, T452, Lc452, X452, hQ452, st452⟩ := clB X419 (X419.specialBack hx (y := M_3) rfl hown (mvT hZ (u 9)) (mvT hZ (u 10)) (mvT hZ (u 11)) (by decide) (backOf (W := 9) (rm2 l Z a0 hw [] b419 wD h419 n0 z451 A419 F419_modCount F419_elementData F419_size g445 (own_WD c453)) hZ (u 11) (u 8) (by decide) (by decide)) (g := (mkF m 379 (la37 p0 p1 p2 p3 p4 p5 n sf al va vb v2 v11 v20 xx yy sa sb kk b30 b97 b125 b155) [(.ref b419), (.ref b419), (.ref b125), (.ref b97), (.ref b416), (.ref b379), (.int sf), (.int 2), (.ref b352), (.ref b352)])) rfl (by rw [hml]; rfl) (Steps.refl _) (a := b419) (argsL := []) (rest := [(.ref b419), (.ref b125), (.ref b97), (.ref b416), (.ref b379), (.int sf), (.int 2), (.ref b352), (.ref b352)]) (lenOf pd_0 rfl) rfl (wk rfl rfl) (D at_379) (fun _ _ => ⟨rfl, e419, lD rfl, lD rfl⟩)) (k := 28) (n := 124) rfl rfl
           obtain ⟨rfl, Nq452, K452, F454, F455, F456⟩ := hQ452
           have N452 := Fr.app N414 Nq452
           have z457 : n0 ≤ T452.heap.size := Nat.le_trans z451 K452.1
           refine gob (fun _ k => st452.trans k) ?_
           obtain ⟨T458, h458, X458, e458, E458, A458, D458, -, st458⟩ := newO X452 hx hZ hown (u 6) (u 7) (u 8) (rfl : T452.heap = _) (g := (mkF m 382 (la37 p0 p1 p2 p3 p4 p5 n sf al va vb v2 v11 v20 xx yy sa sb kk b30 b97 b125 b155) [(.ref b419), (.ref b125), (.ref b97), (.ref b416), (.ref b379), (.int sf), (.int 2), (.ref b352), (.ref b352)])) rfl (D at_382) (by decide) (by decide)
           obtain ⟨b458, g458⟩ : ∃ z, z = T452.heap.size := ⟨_, rfl⟩
           rw [← g458] at A458 D458 st458
           have c459 := (c453.keep K452 (geS g445 geN))
           have c464 := ((c425.ext E419).keep K452)
           have n465 : b30 ≠ b458 := Nat.ne_of_lt (Nat.lt_of_lt_of_le c464.lt (Nat.le_of_eq g458.symm))
           have c480 := ((c441.ext E419).keep K452)
           have n481 : b352 ≠ b458 := Nat.ne_of_lt (Nat.lt_of_lt_of_le c480.lt (Nat.le_of_eq g458.symm))
           have c482 := ((c443.ext E419).keep K452)
           have n483 : b379 ≠ b458 := Nat.ne_of_lt (Nat.lt_of_lt_of_le c482.lt (Nat.le_of_eq g458.symm))
           have c484 := (A419.keep K452)
           have n485 : b419 ≠ b458 := Nat.ne_of_lt (Nat.lt_of_lt_of_le c484.lt (Nat.le_of_eq g458.symm))
           have g486 : n0 ≤ b458 := Nat.le_trans z457 (Nat.le_of_eq g458.symm)
           have xs487 := (own_extK (own_extE xs446 E419) K452 (allS gs447 all0))
           have gs488 : hq142.size ≤ b458 := Nat.le_trans xs487.1 (Nat.le_of_eq g458.symm)
           have xs489 := (own_extK (own_extE xs448 E419) K452 (allS gs449 all0))
           have gs490 : T327.heap.size ≤ b458 := Nat.le_trans xs489.1 (Nat.le_of_eq g458.symm)
           have xs491 := (own_extK (own_extE (own_extR T414.heap) E419) K452 (allS gs450 all0))
           have gs492 : T414.heap.size ≤ b458 := Nat.le_trans xs491.1 (Nat.le_of_eq g458.symm)
           have z493 : n0 ≤ h458.size := Nat.le_trans z457 E458.1
           have F458_modCount : Fld Z h458 b458 s_9 s_12 "I" (.int (0 : Int32)) := D458 (Or.inl (hW hw 28 rfl)) (ty := .int) (by decide)
           have F458_elementData : Fld Z h458 b458 s_1 s_8 s_3 .null := D458 (Or.inl (hW hw 31 rfl)) (ty := (.array (.object s_0))) (by decide)
           have F458_size : Fld Z h458 b458 s_1 "size" "I" (.int (0 : Int32)) := D458 (Or.inl (hW hw 53 rfl)) (ty := .int) (by decide)
           refine gob st458 ?_
           replace X458 := castX X458 (rfl : _ = 29) (rfl : _ = 127)
           show gO (tF T458 m 385 (la37 p0 p1 p2 p3 p4 p5 n sf al va vb v2 v11 v20 xx yy sa sb kk b30 b97 b125 b155) [(.ref b458), (.ref b419), (.ref b125), (.ref b97), (.ref b416), (.ref b379), (.int sf), (.int 2), (.ref b352), (.ref b352)])
           refine go (XS.dup X458.here hx rfl (D at_385) rfl rfl) ?_
           have c495 := (c459.ext E458)
           obtain ⟨_, T494, Lc494, X494, hQ494, st494⟩ := clB X458 (X458.specialBack hx (y := M_3) rfl hown (mvT hZ (u 9)) (mvT hZ (u 10)) (mvT hZ (u 11)) (by decide) (backOf (W := 10) (rm2 l Z a0 hw [] b458 wD h458 n0 z493 A458 F458_modCount F458_elementData F458_size g486 (own_WD c495)) hZ (u 11) (u 8) (by decide) (by decide)) (g := (mkF m 386 (la37 p0 p1 p2 p3 p4 p5 n sf al va vb v2 v11 v20 xx yy sa sb kk b30 b97 b125 b155) [(.ref b458), (.ref b458), (.ref b419), (.ref b125), (.ref b97), (.ref b416), (.ref b379), (.int sf), (.int 2), (.ref b352), (.ref b352)])) rfl (by rw [hml]; rfl) (Steps.refl _) (a := b458) (argsL := []) (rest := [(.ref b458), (.ref b419), (.ref b125), (.ref b97), (.ref b416), (.ref b379), (.int sf), (.int 2), (.ref b352), (.ref b352)]) (lenOf pd_0 rfl) rfl (wk rfl rfl) (D at_386) (fun _ _ => ⟨rfl, e458, lD rfl, lD rfl⟩)) (k := 29) (n := 127) rfl rfl
           obtain ⟨rfl, Nq494, K494, F496, F497, F498⟩ := hQ494
           have N494 := Fr.app N452 Nq494
           have z499 : n0 ≤ T494.heap.size := Nat.le_trans z493 K494.1
           refine gob (fun _ k => st494.trans k) ?_
           obtain ⟨T500, h500, X500, e500, E500, A500, D500, -, st500⟩ := newO X494 hx hZ hown (u 6) (u 7) (u 8) (rfl : T494.heap = _) (g := (mkF m 389 (la37 p0 p1 p2 p3 p4 p5 n sf al va vb v2 v11 v20 xx yy sa sb kk b30 b97 b125 b155) [(.ref b458), (.ref b419), (.ref b125), (.ref b97), (.ref b416), (.ref b379), (.int sf), (.int 2), (.ref b352), (.ref b352)])) rfl (D at_389) (by decide) (by decide)
           obtain ⟨b500, g500⟩ : ∃ z, z = T494.heap.size := ⟨_, rfl⟩
           rw [← g500] at A500 D500 st500
           have c501 := (c495.keep K494 (geS g486 geN))
           have c506 := ((c464.ext E458).keep K494)
           have n507 : b30 ≠ b500 := Nat.ne_of_lt (Nat.lt_of_lt_of_le c506.lt (Nat.le_of_eq g500.symm))
           have c522 := ((c480.ext E458).keep K494)
           have n523 : b352 ≠ b500 := Nat.ne_of_lt (Nat.lt_of_lt_of_le c522.lt (Nat.le_of_eq g500.symm))
           have c524 := ((c482.ext E458).keep K494)
           have n525 : b379 ≠ b500 := Nat.ne_of_lt (Nat.lt_of_lt_of_le c524.lt (Nat.le_of_eq g500.symm))
           have c526 := ((c484.ext E458).keep K494)
           have n527 : b419 ≠ b500 := Nat.ne_of_lt (Nat.lt_of_lt_of_le c526.lt (Nat.le_of_eq g500.symm))
           have c528 := (A458.keep K494)
           have n529 : b458 ≠ b500 := Nat.ne_of_lt (Nat.lt_of_lt_of_le c528.lt (Nat.le_of_eq g500.symm))
           have g530 : n0 ≤ b500 := Nat.le_trans z499 (Nat.le_of_eq g500.symm)
           have xs531 := (own_extK (own_extE xs487 E458) K494 (allS gs488 all0))
           have gs532 : hq142.size ≤ b500 := Nat.le_trans xs531.1 (Nat.le_of_eq g500.symm)
           have xs533 := (own_extK (own_extE xs489 E458) K494 (allS gs490 all0))
           have gs534 : T327.heap.size ≤ b500 := Nat.le_trans xs533.1 (Nat.le_of_eq g500.symm)
           have xs535 := (own_extK (own_extE xs491 E458) K494 (allS gs492 all0))
           have gs536 : T414.heap.size ≤ b500 := Nat.le_trans xs535.1 (Nat.le_of_eq g500.symm)
           have z537 : n0 ≤ h500.size := Nat.le_trans z499 E500.1
           have F500_modCount : Fld Z h500 b500 s_9 s_12 "I" (.int (0 : Int32)) := D500 (Or.inl (hW hw 28 rfl)) (ty := .int) (by decide)
           have F500_elementData : Fld Z h500 b500 s_1 s_8 s_3 .null := D500 (Or.inl (hW hw 31 rfl)) (ty := (.array (.object s_0))) (by decide)
           have F500_size : Fld Z h500 b500 s_1 "size" "I" (.int (0 : Int32)) := D500 (Or.inl (hW hw 53 rfl)) (ty := .int) (by decide)
           refine gob st500 ?_
           replace X500 := castX X500 (rfl : _ = 30) (rfl : _ = 130)
           show gO (tF T500 m 392 (la37 p0 p1 p2 p3 p4 p5 n sf al va vb v2 v11 v20 xx yy sa sb kk b30 b97 b125 b155) [(.ref b500), (.ref b458), (.ref b419), (.ref b125), (.ref b97), (.ref b416), (.ref b379), (.int sf), (.int 2), (.ref b352), (.ref b352)])
           refine go (XS.dup X500.here hx rfl (D at_392) rfl rfl) ?_
           have c539 := (c501.ext E500)
           obtain ⟨_, T538, Lc538, X538, hQ538, st538⟩ := clB X500 (X500.specialBack hx (y := M_3) rfl hown (mvT hZ (u 9)) (mvT hZ (u 10)) (mvT hZ (u 11)) (by decide) (backOf (W := 11) (rm2 l Z a0 hw [] b500 wD h500 n0 z537 A500 F500_modCount F500_elementData F500_size g530 (own_WD c539)) hZ (u 11) (u 8) (by decide) (by decide)) (g := (mkF m 393 (la37 p0 p1 p2 p3 p4 p5 n sf al va vb v2 v11 v20 xx yy sa sb kk b30 b97 b125 b155) [(.ref b500), (.ref b500), (.ref b458), (.ref b419), (.ref b125), (.ref b97), (.ref b416), (.ref b379), (.int sf), (.int 2), (.ref b352), (.ref b352)])) rfl (by rw [hml]; rfl) (Steps.refl _) (a := b500) (argsL := []) (rest := [(.ref b500), (.ref b458), (.ref b419), (.ref b125), (.ref b97), (.ref b416), (.ref b379), (.int sf), (.int 2), (.ref b352), (.ref b352)]) (lenOf pd_0 rfl) rfl (wk rfl rfl) (D at_393) (fun _ _ => ⟨rfl, e500, lD rfl, lD rfl⟩)) (k := 30) (n := 130) rfl rfl
           obtain ⟨rfl, Nq538, K538, F540, F541, F542⟩ := hQ538
           have N538 := Fr.app N494 Nq538
           have z543 : n0 ≤ T538.heap.size := Nat.le_trans z537 K538.1
           refine gob (fun _ k => st538.trans k) ?_
           have c545 := (c539.keep K538 (geS g530 geN))
           have xs546 := (own_extK (own_extE xs535 E500) K538 (allS gs536 all0))
           have xs547 := (own_extK (own_extE xs531 E500) K538 (allS gs532 all0))
           have c548 := ((c524.ext E500).keep K538)
           have c549 := (((((((F412.keep K414 nin0).ext E419).keep K452 (ninS n444 nin0)).ext E458).keep K494 (ninS n483 nin0)).ext E500).keep K538 (ninS n525 nin0))
           have c550 := ((c526.ext E500).keep K538)
           have c551 := ((((F456.ext E458).keep K494 (ninS n485 nin0)).ext E500).keep K538 (ninS n527 nin0))
           have c552 := ((c528.ext E500).keep K538)
           have c553 := ((F498.ext E500).keep K538 (ninS n529 nin0))
           have c554 := (A500.keep K538)
           have c555 := ((c522.ext E500).keep K538)
           have c556 := (((((((((F352_round.ext E379).keep K408 (ninS n401 nin0)).keep K414 nin0).ext E419).keep K452 (ninS n442 nin0)).ext E458).keep K494 (ninS n481 nin0)).ext E500).keep K538 (ninS n523 nin0))
           have c557 := (((((((((F352_coordinator.ext E379).keep K408 (ninS n401 nin0)).keep K414 nin0).ext E419).keep K452 (ninS n442 nin0)).ext E458).keep K494 (ninS n481 nin0)).ext E500).keep K538 (ninS n523 nin0))
           have c558 := (((((((((F352_toVisit.ext E379).keep K408 (ninS n401 nin0)).keep K414 nin0).ext E419).keep K452 (ninS n442 nin0)).ext E458).keep K494 (ninS n481 nin0)).ext E500).keep K538 (ninS n523 nin0))
           have c559 := (((((((((F352_visited.ext E379).keep K408 (ninS n401 nin0)).keep K414 nin0).ext E419).keep K452 (ninS n442 nin0)).ext E458).keep K494 (ninS n481 nin0)).ext E500).keep K538 (ninS n523 nin0))
           have c560 := (((((((((F352_crashed.ext E379).keep K408 (ninS n401 nin0)).keep K414 nin0).ext E419).keep K452 (ninS n442 nin0)).ext E458).keep K494 (ninS n481 nin0)).ext E500).keep K538 (ninS n523 nin0))
           have c561 := (((((((((F352_found.ext E379).keep K408 (ninS n401 nin0)).keep K414 nin0).ext E419).keep K452 (ninS n442 nin0)).ext E458).keep K494 (ninS n481 nin0)).ext E500).keep K538 (ninS n523 nin0))
           have c562 := (((((((((F352_latest.ext E379).keep K408 (ninS n401 nin0)).keep K414 nin0).ext E419).keep K452 (ninS n442 nin0)).ext E458).keep K494 (ninS n481 nin0)).ext E500).keep K538 (ninS n523 nin0))
           have c563 := (((((((((F352_waiters.ext E379).keep K408 (ninS n401 nin0)).keep K414 nin0).ext E419).keep K452 (ninS n442 nin0)).ext E458).keep K494 (ninS n481 nin0)).ext E500).keep K538 (ninS n523 nin0))
           have c564 := (((((((((F352_queued.ext E379).keep K408 (ninS n401 nin0)).keep K414 nin0).ext E419).keep K452 (ninS n442 nin0)).ext E458).keep K494 (ninS n481 nin0)).ext E500).keep K538 (ninS n523 nin0))
           obtain ⟨_, T544, Lc544, X544, hQ544, st544⟩ := clB X538 (X538.specialBack hx (y := M_45) rfl hown (mvT hZ (u 76)) (mvT hZ (u 77)) (mvT hZ (u 78)) (by decide) (backOf (W := 1) (rm13 l Z a0 hw [] b352 (2 : Int32) sf b379 b416 b97 b125 b419 b458 b500 w_c f_ wE wL wD wA kD kA mr_ ((mm vb).map (fI f_)) (crs.map (fI f_)) fs T538.heap n0 z543 c545 MM (I414.ext xs546) (J150.ext xs547) (J151.ext xs547) hj154 c548 c549 c550 c551 c552 c553 c554 F542 c555 c556 g374 c557 c558 c559 c560 c561 c562 c563 c564) hZ (u 78) (u 34) (by decide) (by decide)) (g := (mkF m 396 (la37 p0 p1 p2 p3 p4 p5 n sf al va vb v2 v11 v20 xx yy sa sb kk b30 b97 b125 b155) [(.ref b500), (.ref b458), (.ref b419), (.ref b125), (.ref b97), (.ref b416), (.ref b379), (.int sf), (.int 2), (.ref b352), (.ref b352)])) rfl (by rw [hml]; rfl) (Steps.refl _) (a := b352) (argsL := [(.int 2), (.int sf), (.ref b379), (.ref b416), (.ref b97), (.ref b125), (.ref b419), (.ref b458), (.ref b500)]) (rest := [(.ref b352)]) (lenOf pd_33 rfl) rfl (wk rfl rfl) (D at_396) (fun _ _ => ⟨rfl, (rfl : T538.heap = _), lD rfl, lD rfl⟩)) (k := 38) (n := 153) rfl rfl
           obtain ⟨rfl, Nq544, K544, I544⟩ := hQ544
           have N544 := Fr.app N538 Nq544
           have z565 : n0 ≤ T544.heap.size := Nat.le_trans z543 K544.1
           refine gob (fun _ k => st544.trans k) ?_
           refine go (XS.astore X544.here hx rfl (D at_399) rfl rfl (l' := (la38 p0 p1 p2 p3 p4 p5 n sf al va vb v2 v11 v20 xx yy sa sb kk b30 b97 b125 b155 b352)) rfl) ?_
           have xs566 := (own_extK (own_extK (own_extE xs533 E500) K538 (allS gs534 all0)) K544 (allS gs377 all0))
           have PS1 := (I327.ext xs566)
           have PS2 := I544
           have xs567 := (own_extK xs547 K544 (allS gs376 all0))
           have FFs := (J152.ext xs567)
           have c568 := (c545.keep K544 (geS g374 geN))
           have WS := c568
           have nS : n0 ≤ T544.heap.size := z565
           obtain ⟨T569, h569, X569, e569, E569, A569, D569, -, st569⟩ := newO X544 hx hZ hown (u 193) (u 194) (u 195) (rfl : T544.heap = _) (g := (mkF m 401 (la38 p0 p1 p2 p3 p4 p5 n sf al va vb v2 v11 v20 xx yy sa sb kk b30 b97 b125 b155 b352) [])) rfl (D at_401) (by decide) (by decide)
           obtain ⟨b569, g569⟩ : ∃ z, z = T544.heap.size := ⟨_, rfl⟩
           rw [← g569] at A569 D569 st569
           have c574 := (((c506.ext E500).keep K538).keep K544)
           have n575 : b30 ≠ b569 := Nat.ne_of_lt (Nat.lt_of_lt_of_le c574.lt (Nat.le_of_eq g569.symm))
           have gs601 : T544.heap.size ≤ b569 := Nat.le_trans (own_extR T544.heap).1 (Nat.le_of_eq g569.symm)
           have z602 : n0 ≤ h569.size := Nat.le_trans z565 E569.1
           have F569_waiters : Fld Z h569 b569 s_5 "waiters" s_25 .null := D569 (Or.inr (hW hw 220 rfl)) (ty := (.object s_7)) (by decide)
           have F569_queued : Fld Z h569 b569 s_5 "queued" s_25 .null := D569 (Or.inr (hW hw 222 rfl)) (ty := (.object s_7)) (by decide)
           have F569_suspecting : Fld Z h569 b569 s_5 "suspecting" s_11 .null := D569 (Or.inr (hW hw 226 rfl)) (ty := (.object s_2)) (by decide)
           have F569_learnedMidRound : Fld Z h569 b569 s_5 s_36 s_11 .null := D569 (Or.inr (hW hw 228 rfl)) (ty := (.object s_2)) (by decide)
           have F569_nodes : Fld Z h569 b569 s_5 "nodes" "I" (.int (0 : Int32)) := D569 (Or.inr (hW hw 230 rfl)) (ty := .int) (by decide)
           have F569_tokens : Fld Z h569 b569 s_5 "tokens" "I" (.int (0 : Int32)) := D569 (Or.inr (hW hw 232 rfl)) (ty := .int) (by decide)
           have F569_self : Fld Z h569 b569 s_5 "self" "I" (.int (0 : Int32)) := D569 (Or.inr (hW hw 234 rfl)) (ty := .int) (by decide)
           have F569_crashed : Fld Z h569 b569 s_5 "crashed" "[Z" .null := D569 (Or.inr (hW hw 245 rfl)) (ty := (.array .boolean)) (by decide)
           have F569_visitedAt : Fld Z h569 b569 s_5 "visitedAt" "[J" .null := D569 (Or.inr (hW hw 248 rfl)) (ty := (.array .long)) (by decide)
           have F569_latest : Fld Z h569 b569 s_5 "latest" s_46 .null := D569 (Or.inr (hW hw 256 rfl)) (ty := (.array (.object s_15))) (by decide)
           have F569_onItsWay : Fld Z h569 b569 s_5 "onItsWay" "Z" (.int (0 : Int32)) := D569 (Or.inl (hW hw 284 rfl)) (ty := .boolean) (by decide)
           have F569_visits : Fld Z h569 b569 s_5 "visits" "J" (.long (0 : Int64)) := D569 (Or.inl (hW hw 334 rfl)) (ty := .long) (by decide)
           have F569_upToDateFrom : Fld Z h569 b569 s_5 s_37 "J" (.long (0 : Int64)) := D569 (Or.inl (hW hw 485 rfl)) (ty := .long) (by decide)
           refine gob st569 ?_
           replace X569 := castX X569 (rfl : _ = 39) (rfl : _ = 167)
           show gO (tF T569 m 404 (la38 p0 p1 p2 p3 p4 p5 n sf al va vb v2 v11 v20 xx yy sa sb kk b30 b97 b125 b155 b352) [(.ref b569)])
           refine go (XS.dup X569.here hx rfl (D at_404) rfl rfl) ?_
           refine giM X569 hx (D at_405) rfl ?_
           refine giC X569 hx (D at_407) ?_
           refine giM X569 hx (D at_408) rfl ?_
           refine gaM X569 hx (D at_410) rfl rfl ?_
           have c604 := (c568.ext E569)
           have xs605 := (own_extE (own_extR T544.heap) E569)
           have c606 := (((((((((((((((((((((((((((J149.ext E155).ext E164).keep K177 (ninS n171 nin0)).keep K183 nin0).ext E188).keep K205 (ninS n195 nin0)).ext E211).keep K231 (ninS n218 nin0)).ext E237).keep K259 (ninS n244 nin0)).ext E265).keep K289 (ninS n272 nin0)).ext E295).keep K321 (ninS n302 nin0)).keep K327 (ninS n160 nin0)).ext E352).ext E379).keep K408 (ninS n386 nin0)).keep K414 nin0).ext E419).keep K452 (ninS n426 nin0)).ext E458).keep K494 (ninS n465 nin0)).ext E500).keep K538 (ninS n507 nin0)).keep K544 (ninS n359 nin0)).ext E569)
           have c607 := (c574.ext E569)
           obtain ⟨_, T603, Lc603, X603, hQ603, st603⟩ := clB X569 (X569.specialBack hx (y := M_65) rfl hown (mvT hZ (u 196)) (mvT hZ (u 197)) (mvT hZ (u 198)) (by decide) (backOf (W := 1) (rm28 l Z a0 hw [] b569 n sf b30 w_c f_ wE wL wD wA kD kA T544.heap k30 (nar .boolean v38) (nar .boolean v50) (nar .boolean v62) (nar .boolean v74) (nar .boolean v86) h569 n0 z602 c604 xs605 gs601 nS hnb A569 F569_waiters F569_queued F569_suspecting F569_learnedMidRound F569_nodes F569_tokens F569_self F569_crashed F569_visitedAt F569_latest F569_onItsWay F569_visits F569_upToDateFrom c606 c607 (Ne.symm n575)) hZ (u 198) (u 195) (by decide) (by decide)) (g := (mkF m 412 (la38 p0 p1 p2 p3 p4 p5 n sf al va vb v2 v11 v20 xx yy sa sb kk b30 b97 b125 b155 b352) [(.ref b30), (.int sf), (.int 0), (.int n), (.ref b569), (.ref b569)])) rfl (by rw [hml]; rfl) (Steps.refl _) (a := b569) (argsL := [(.int n), (.int 0), (.int sf), (.ref b30)]) (rest := [(.ref b569)]) (lenOf pd_34 rfl) rfl (wk rfl rfl) (D at_412) (fun _ _ => ⟨rfl, e569, lD rfl, lD rfl⟩)) (k := 47) (n := 206) rfl rfl
           obtain ⟨rfl, Nq603, C603⟩ := hQ603
           have N603 := Fr.app N544 Nq603
           have z608 : n0 ≤ T603.heap.size := Nat.le_trans nS (Cen.xt C603).1
           have IW603 := WS.ext (Cen.xt C603)
           refine gob (fun _ k => st603.trans k) ?_
           show gO (tF T603 m 415 (la38 p0 p1 p2 p3 p4 p5 n sf al va vb v2 v11 v20 xx yy sa sb kk b30 b97 b125 b155 b352) [(.ref b569)])
           refine go (XS.astore X603.here hx rfl (D at_415) rfl rfl (l' := (la39 p0 p1 p2 p3 p4 p5 n sf al va vb v2 v11 v20 xx yy sa sb kk b30 b97 b125 b155 b352 b569)) rfl) ?_
           refine gaM X603 hx (D at_417) rfl rfl ?_
           refine gaM X603 hx (D at_419) rfl rfl ?_
           refine gaM X603 hx (D at_421) rfl rfl ?_
           obtain ⟨cq609, kq609, q609a, q609b, q609c⟩ := isOf hZ (rfl : T603.heap = _) (Cen.exa C603)
           obtain ⟨_, T609, Lc609, X609, hQ609, st609⟩ := clB X603 (X603.virtualBack hx (y := M_70) (z := M_70) hown (mvT hZ (u 278)) (mvT hZ (u 279)) (notFace_of_selects (args := #[]) (mvT hZ (u 281))) (mvT hZ (u 281)) (mvT hZ (u 280)) (by decide) (backOf (W := 0) (rm35 l Z a0 hw [] b569 b155 w_c f_ wE wL wD wA kD kA T544.heap n sf (0 : Int64) (0 : Int64) (gl [(nar .boolean v38), (nar .boolean v50), (nar .boolean v62), (nar .boolean v74), (nar .boolean v86)]) (fun _ => (-1 : Int64)) ((mm va).map (fI f_)) [] [] (mm va) [] [] T603.heap n0 z608 WS C603 nS hnb PS1 rfl rfl (Or.inl ⟨rfl, rfl⟩) (Or.inl rfl) (own_mms (own_mask1 hal hva hnb)) (own_mml _) (own_rem4 (own_rem1 hsf hnb) hnb)) hZ (u 282) (u 195) (by decide) (by decide)) q609a q609c (g := (mkF m 423 (la39 p0 p1 p2 p3 p4 p5 n sf al va vb v2 v11 v20 xx yy sa sb kk b30 b97 b125 b155 b352 b569) [(.ref b155), (.ref b155), (.ref b569)])) rfl (by rw [hml]; rfl) (Steps.refl _) (argsL := [(.ref b155), (.ref b155)]) (rest := []) (lenOf pd_35 rfl) rfl (wk rfl rfl) (D at_423) (fun _ _ => ⟨rfl, (rfl : T603.heap = _), lD rfl, lD rfl⟩)) (k := 54) (n := 234) rfl rfl
           obtain ⟨rfl, Nq609, u609, gg609, hu609, hg609, C609⟩ := hQ609
           have N609 := Fr.app N603 Nq609
           have z610 : n0 ≤ T609.heap.size := Nat.le_trans nS (Cen.xt C609).1
           have IW609 := WS.ext (Cen.xt C609)
           refine gob (fun _ k => st609.trans k) ?_
           refine giM X609 hx (D at_426) rfl ?_
           show gO (tF T609 m 428 (la39 p0 p1 p2 p3 p4 p5 n sf al va vb v2 v11 v20 xx yy sa sb kk b30 b97 b125 b155 b352 b569) [(.int v2)])
           have J438 : ∀  (T611 : State) (lj612 : List Loc) (hq613 : Heap) (up3 : Int64) (g3 : Nat → Int32), Stand p l e room_1 s m #[(.int p0), (.int p1), (.int p2), (.int p3), (.int p4), (.int p5)] below meth c T611 lj612 54 234 → T611.heap = hq613 → Fr n0 lj612 → n0 ≤ hq613.size → Wd Z hq613 n0 w_c f_ wE wL wD wA kD kA → Cen Z T544.heap hq613 b569 n sf ((0 : Int64) + ((Int32.ofNat ((mm va).map (fI f_)).length).toInt64)) up3 g3 (updv (0 : Int64) (0 : Int32) (mm va) (fun _ => (-1 : Int64))) → Ext T544.heap hq613 → ((v2 = (0 : Int32) ∧ up3 = u609 ∧ g3 = gg609) ∨ (¬ (v2 = (0 : Int32)) ∧ up3 = ((0 : Int64) + ((Int32.ofNat ((mm va).map (fI f_)).length).toInt64)) ∧ g3 = (fun i => if i = (xx).toNatClampNeg then (1 : Int32) else gg609 i))) → Go p e below s (Q0 Z p0 p1 p2 p3 p4 p5 w_c f_ wE wL wD wA kD kA mr_ h0 n0) 120 576 (T611.setTop (mkF m 438 (la39 p0 p1 p2 p3 p4 p5 n sf al va vb v2 v11 v20 xx yy sa sb kk b30 b97 b125 b155 b352 b569) [])) := by
            intro T611 lj612 hq613 up3 g3 X614 e615 N616 z617 J618 J619 xs620 hj621
            show gO (tF T611 m 438 (la39 p0 p1 p2 p3 p4 p5 n sf al va vb v2 v11 v20 xx yy sa sb kk b30 b97 b125 b155 b352 b569) [])
            refine gaM X614 hx (D at_438) rfl rfl ?_
            refine gaM X614 hx (D at_440) rfl rfl ?_
            refine gaM X614 hx (D at_442) rfl rfl ?_
            obtain ⟨cq622, kq622, q622a, q622b, q622c⟩ := isOf hZ e615 (Cen.exa J619)
            obtain ⟨_, T622, Lc622, X622, hQ622, st622⟩ := clB X614 (X614.virtualBack hx (y := M_70) (z := M_70) hown (mvT hZ (u 278)) (mvT hZ (u 279)) (notFace_of_selects (args := #[]) (mvT hZ (u 281))) (mvT hZ (u 281)) (mvT hZ (u 280)) (by decide) (backOf (W := 0) (rm35 l Z a0 hw [] b569 b352 w_c f_ wE wL wD wA kD kA T544.heap n sf ((0 : Int64) + ((Int32.ofNat ((mm va).map (fI f_)).length).toInt64)) up3 g3 (updv (0 : Int64) (0 : Int32) (mm va) (fun _ => (-1 : Int64))) ((mm vb).map (fI f_)) (crs.map (fI f_)) fs (mm vb) crs ks hq613 n0 z617 WS J619 nS hnb PS2 rfl rfl FFs (own_hcr hj124 (own_rem1 hyy hnb) hnb) (own_mms (own_mask2 hal hvb hnb)) (own_mml _) (own_rem4 (own_rem1 hsf hnb) hnb)) hZ (u 282) (u 195) (by decide) (by decide)) q622a q622c (g := (mkF m 444 (la39 p0 p1 p2 p3 p4 p5 n sf al va vb v2 v11 v20 xx yy sa sb kk b30 b97 b125 b155 b352 b569) [(.ref b352), (.ref b352), (.ref b569)])) rfl (by rw [hml]; rfl) (Steps.refl _) (argsL := [(.ref b352), (.ref b352)]) (rest := []) (lenOf pd_35 rfl) rfl (wk rfl rfl) (D at_444) (fun _ _ => ⟨rfl, e615, lD rfl, lD rfl⟩)) (k := 61) (n := 262) rfl rfl
            obtain ⟨rfl, Nq622, u622, gg622, hu622, hg622, C622⟩ := hQ622
            have N622 := Fr.app N616 Nq622
            have z623 : n0 ≤ T622.heap.size := Nat.le_trans nS (Cen.xt C622).1
            have IW622 := WS.ext (Cen.xt C622)
            refine gob (fun _ k => st622.trans k) ?_
            refine gaM X622 hx (D at_447) rfl rfl ?_
            obtain ⟨cq624, kq624, q624a, q624b, q624c⟩ := isOf hZ (rfl : T622.heap = _) (Cen.exa C622)
            obtain ⟨_, T624, Lc624, X624, hQ624, st624⟩ := clB X622 (X622.virtualBack hx (y := M_68) (z := M_68) hown (mvT hZ (u 446)) (mvT hZ (u 447)) (notFace_of_selects (args := #[]) (mvT hZ (u 449))) (mvT hZ (u 449)) (mvT hZ (u 448)) (by decide) (backOf (W := 0) (rm55 l Z a0 hw [] b569 T544.heap n sf (((0 : Int64) + ((Int32.ofNat ((mm va).map (fI f_)).length).toInt64)) + ((Int32.ofNat ((mm vb).map (fI f_)).length).toInt64)) u622 gg622 (updv ((0 : Int64) + ((Int32.ofNat ((mm va).map (fI f_)).length).toInt64)) (0 : Int32) (mm vb) (updv (0 : Int64) (0 : Int32) (mm va) (fun _ => (-1 : Int64)))) T622.heap n0 z623 C622 nS hnb) hZ (u 450) (u 195) (by decide) (by decide)) q624a q624c (g := (mkF m 449 (la39 p0 p1 p2 p3 p4 p5 n sf al va vb v2 v11 v20 xx yy sa sb kk b30 b97 b125 b155 b352 b569) [(.ref b569)])) rfl (by rw [hml]; rfl) (Steps.refl _) (argsL := []) (rest := []) (lenOf pd_7 rfl) rfl (wk rfl rfl) (D at_449) (fun _ _ => ⟨rfl, (rfl : T622.heap = _), lD rfl, lD rfl⟩)) (k := 61) (n := 262) rfl rfl
            obtain ⟨r_c, rfl, hr_c, Nq624, e624⟩ := hQ624
            have N624 := Fr.app N622 Nq624
            refine gob (fun _ k => st624.trans k) ?_
            show gO (tF T624 m 452 (la39 p0 p1 p2 p3 p4 p5 n sf al va vb v2 v11 v20 xx yy sa sb kk b30 b97 b125 b155 b352 b569) [(.int r_c)])
            refine go (XS.istore X624.here hx rfl (D at_452) rfl (l' := (la40 p0 p1 p2 p3 p4 p5 n sf al va vb v2 v11 v20 xx yy sa sb kk b30 b97 b125 b155 b352 b569 r_c)) rfl) ?_
            refine giN X624 hx (D at_454) rfl ?_
            refine go (XS.bipush X624.here hx rfl (D at_455)) ?_
            refine go (XS.iand X624.here hx rfl (D at_457) rfl) ?_
            refine giM X624 hx (D at_458) rfl ?_
            have join471_627 : ∀ (T628 : State) (lj629 : List Loc) (v626 : Int32), Stand p l e room_1 s m #[(.int p0), (.int p1), (.int p2), (.int p3), (.int p4), (.int p5)] below meth c T628 lj629 61 262 → T628.heap = T622.heap → Fr n0 lj629 → (v2 = (0 : Int32) ∧ v626 = (0 : Int32)) ∨ (¬ (v2 = (0 : Int32)) ∧ v626 = ((1 : Int32) <<< (xx &&& 31))) → Go p e below s (Q0 Z p0 p1 p2 p3 p4 p5 w_c f_ wE wL wD wA kD kA mr_ h0 n0) 120 576 (T628.setTop (mkF m 471 (la40 p0 p1 p2 p3 p4 p5 n sf al va vb v2 v11 v20 xx yy sa sb kk b30 b97 b125 b155 b352 b569 r_c) [(.int v626), (.int (p2 &&& (30 : Int32)))])) := by
             intro T628 lj629 v626 X630 e631 N632 hj633
             show gO (tF T628 m 471 (la40 p0 p1 p2 p3 p4 p5 n sf al va vb v2 v11 v20 xx yy sa sb kk b30 b97 b125 b155 b352 b569 r_c) [(.int v626), (.int (p2 &&& (30 : Int32)))])
             refine go (XS.ior X630.here hx rfl (D at_471) rfl) ?_
             refine giM X630 hx (D at_472) rfl ?_
             have join485_636 : ∀ (T637 : State) (lj638 : List Loc) (v635 : Int32), Stand p l e room_1 s m #[(.int p0), (.int p1), (.int p2), (.int p3), (.int p4), (.int p5)] below meth c T637 lj638 61 262 → T637.heap = T622.heap → Fr n0 lj638 → (v11 = (0 : Int32) ∧ v635 = (0 : Int32)) ∨ (¬ (v11 = (0 : Int32)) ∧ v635 = ((1 : Int32) <<< (yy &&& 31))) → Go p e below s (Q0 Z p0 p1 p2 p3 p4 p5 w_c f_ wE wL wD wA kD kA mr_ h0 n0) 120 576 (T637.setTop (mkF m 485 (la40 p0 p1 p2 p3 p4 p5 n sf al va vb v2 v11 v20 xx yy sa sb kk b30 b97 b125 b155 b352 b569 r_c) [(.int v635), (.int ((p2 &&& (30 : Int32)) ||| v626))])) := by
              intro T637 lj638 v635 X639 e640 N641 hj642
              show gO (tF T637 m 485 (la40 p0 p1 p2 p3 p4 p5 n sf al va vb v2 v11 v20 xx yy sa sb kk b30 b97 b125 b155 b352 b569 r_c) [(.int v635), (.int ((p2 &&& (30 : Int32)) ||| v626))])
              refine go (XS.ior X639.here hx rfl (D at_485) rfl) ?_
              refine go (XS.istore X639.here hx rfl (D at_486) rfl (l' := (la41 p0 p1 p2 p3 p4 p5 n sf al va vb v2 v11 v20 xx yy sa sb kk b30 b97 b125 b155 b352 b569 r_c (((p2 &&& (30 : Int32)) ||| v626) ||| v635))) rfl) ?_
              show gO (tF T637 m 488 (la41 p0 p1 p2 p3 p4 p5 n sf al va vb v2 v11 v20 xx yy sa sb kk b30 b97 b125 b155 b352 b569 r_c (((p2 &&& (30 : Int32)) ||| v626) ||| v635)) [])
              generalize hcm : (((p2 &&& (30 : Int32)) ||| v626) ||| v635) = cm
              show gO (tF T637 m 488 (la41 p0 p1 p2 p3 p4 p5 n sf al va vb v2 v11 v20 xx yy sa sb kk b30 b97 b125 b155 b352 b569 r_c cm) [])
              refine giC X639 hx (D at_488) ?_
              refine go (XS.istore X639.here hx rfl (D at_489) rfl (l' := (la42 p0 p1 p2 p3 p4 p5 n sf al va vb v2 v11 v20 xx yy sa sb kk b30 b97 b125 b155 b352 b569 r_c cm 0)) rfl) ?_
              refine giM X639 hx (D at_491) rfl ?_
              have join500_645 : ∀ (T646 : State) (lj647 : List Loc) (v644 : Int32), Stand p l e room_1 s m #[(.int p0), (.int p1), (.int p2), (.int p3), (.int p4), (.int p5)] below meth c T646 lj647 61 262 → T646.heap = T622.heap → Fr n0 lj647 → (v2 = (0 : Int32) ∧ v644 = (0 : Int32)) ∨ (¬ (v2 = (0 : Int32)) ∧ v644 = sa) → Go p e below s (Q0 Z p0 p1 p2 p3 p4 p5 w_c f_ wE wL wD wA kD kA mr_ h0 n0) 120 576 (T646.setTop (mkF m 500 (la42 p0 p1 p2 p3 p4 p5 n sf al va vb v2 v11 v20 xx yy sa sb kk b30 b97 b125 b155 b352 b569 r_c cm v644) [])) := by
               intro T646 lj647 v644 X648 e649 N650 hj651
               show gO (tF T646 m 500 (la42 p0 p1 p2 p3 p4 p5 n sf al va vb v2 v11 v20 xx yy sa sb kk b30 b97 b125 b155 b352 b569 r_c cm v644) [])
               refine giM X648 hx (D at_500) rfl ?_
               have join517_655 : ∀ (T656 : State) (lj657 : List Loc) (v654 : Int32) (r653 : Int32), Stand p l e room_1 s m #[(.int p0), (.int p1), (.int p2), (.int p3), (.int p4), (.int p5)] below meth c T656 lj657 61 262 → T656.heap = T622.heap → Fr n0 lj657 → (v20 = (0 : Int32) ∧ v654 = v644) ∨ (¬ (v20 = (0 : Int32)) ∧ ((v644 < (sa + kk) ∧ r653 = (sa + kk)) ∨ (¬ (v644 < (sa + kk)) ∧ r653 = v644)) ∧ v654 = r653) → Go p e below s (Q0 Z p0 p1 p2 p3 p4 p5 w_c f_ wE wL wD wA kD kA mr_ h0 n0) 120 576 (T656.setTop (mkF m 517 (la42 p0 p1 p2 p3 p4 p5 n sf al va vb v2 v11 v20 xx yy sa sb kk b30 b97 b125 b155 b352 b569 r_c cm v654) [])) := by
                intro T656 lj657 v654 r653 X658 e659 N660 hj661
                show gO (tF T656 m 517 (la42 p0 p1 p2 p3 p4 p5 n sf al va vb v2 v11 v20 xx yy sa sb kk b30 b97 b125 b155 b352 b569 r_c cm v654) [])
                refine giC X658 hx (D at_517) ?_
                refine giM X658 hx (D at_518) rfl ?_
                refine giM X658 hx (D at_520) rfl ?_
                refine giM X658 hx (D at_522) rfl ?_
                refine giM X658 hx (D at_524) rfl ?_
                refine giM X658 hx (D at_526) rfl ?_
                show gO (tF T656 m 528 (la42 p0 p1 p2 p3 p4 p5 n sf al va vb v2 v11 v20 xx yy sa sb kk b30 b97 b125 b155 b352 b569 r_c cm v654) [(.int vb), (.int va), (.int cm), (.int sf), (.int n), (.int 1)])
                refine giM X658 hx (D at_528) rfl ?_
                refine giM X658 hx (D at_530) rfl ?_
                obtain ⟨_, T662, Lc662, X662, hQ662, st662⟩ := clS X658 (Jvm.LawKit.callS X658 hx (y := M_69) hown (mvT hZ (u 451)) (mvT hZ (u 452)) (mvT hZ (u 3)) (mvT hZ (u 453)) (by decide) (backOf (W := 0) (rm56 l Z a0 hw [] (1 : Int32) n sf cm va vb sa v654 T622.heap n0 z623 ) hZ (u 453) (u 3) (by decide) (by decide)) (g := (mkF m 532 (la42 p0 p1 p2 p3 p4 p5 n sf al va vb v2 v11 v20 xx yy sa sb kk b30 b97 b125 b155 b352 b569 r_c cm v654) [(.int v654), (.int sa), (.int vb), (.int va), (.int cm), (.int sf), (.int n), (.int 1)])) rfl (by rw [hml]; rfl) (argsL := [(.int 1), (.int n), (.int sf), (.int cm), (.int va), (.int vb), (.int sa), (.int v654)]) (rest := []) (lenOf pd_36 rfl) rfl (wk rfl rfl) (D at_532) (fun _ _ => ⟨rfl, e659, lD rfl, lD rfl⟩)) (k := 61) (n := 262) rfl rfl
                obtain ⟨rfl, Nq662, e662⟩ := hQ662
                have N662 := Fr.app N660 Nq662
                refine gob st662 ?_
                have join606_671 : ∀ (T672 : State) (lj673 : List Loc) (v670 : Int32), Stand p l e room_1 s m #[(.int p0), (.int p1), (.int p2), (.int p3), (.int p4), (.int p5)] below meth c T672 lj673 61 262 → T672.heap = T622.heap → Fr n0 lj673 → ((f_56 (1 : Int32) n sf cm va vb sa v654) = (0 : Int32) ∧ v670 = (0 : Int32)) ∨ (¬ ((f_56 (1 : Int32) n sf cm va vb sa v654) = (0 : Int32)) ∧ (f_56 (2 : Int32) n sf cm va vb sa v654) = (0 : Int32) ∧ v670 = (0 : Int32)) ∨ (¬ ((f_56 (1 : Int32) n sf cm va vb sa v654) = (0 : Int32)) ∧ ¬ ((f_56 (2 : Int32) n sf cm va vb sa v654) = (0 : Int32)) ∧ (f_56 (3 : Int32) n sf cm va vb sa v654) = (0 : Int32) ∧ v670 = (0 : Int32)) ∨ (¬ ((f_56 (1 : Int32) n sf cm va vb sa v654) = (0 : Int32)) ∧ ¬ ((f_56 (2 : Int32) n sf cm va vb sa v654) = (0 : Int32)) ∧ ¬ ((f_56 (3 : Int32) n sf cm va vb sa v654) = (0 : Int32)) ∧ (f_56 (4 : Int32) n sf cm va vb sa v654) = (0 : Int32) ∧ v670 = (0 : Int32)) ∨ (¬ ((f_56 (1 : Int32) n sf cm va vb sa v654) = (0 : Int32)) ∧ ¬ ((f_56 (2 : Int32) n sf cm va vb sa v654) = (0 : Int32)) ∧ ¬ ((f_56 (3 : Int32) n sf cm va vb sa v654) = (0 : Int32)) ∧ ¬ ((f_56 (4 : Int32) n sf cm va vb sa v654) = (0 : Int32)) ∧ v670 = (1 : Int32)) → Go p e below s (Q0 Z p0 p1 p2 p3 p4 p5 w_c f_ wE wL wD wA kD kA mr_ h0 n0) 120 576 (T672.setTop (mkF m 606 (la42 p0 p1 p2 p3 p4 p5 n sf al va vb v2 v11 v20 xx yy sa sb kk b30 b97 b125 b155 b352 b569 r_c cm v654) [(.int v670)])) := by
                 intro T672 lj673 v670 X674 e675 N676 hj677
                 show gO (tF T672 m 606 (la42 p0 p1 p2 p3 p4 p5 n sf al va vb v2 v11 v20 xx yy sa sb kk b30 b97 b125 b155 b352 b569 r_c cm v654) [(.int v670)])
                 refine go (XS.istore X674.here hx rfl (D at_606) rfl (l' := (la43 p0 p1 p2 p3 p4 p5 n sf al va vb v2 v11 v20 xx yy sa sb kk b30 b97 b125 b155 b352 b569 r_c cm v654 v670)) rfl) ?_
                 refine giM X674 hx (D at_608) rfl ?_
                 refine giM X674 hx (D at_610) rfl ?_
                 refine go (XS.icmpNo X674.here hx rfl (D at_612) rfl (teq (own_final hnb (own_mask1 hal hva hnb) (own_mask2 hal hvb hnb) (own_rem1 hxx hnb) (own_rem1 hyy hnb) hsa hsb hkk hj57 hj69 hj81 hj93 hj124 hj153 hu609 hg609 hj621 hu622 hg622 hr_c hj633 hj642 hcm hj651 hj661 hj677 : r_c = v670)).2) ?_
                 refine giC X674 hx (D at_615) ?_
                 refine go (XS.goto X674.here hx rfl (pc0 := 616) (pc' := 620) rfl (D at_616) (by decide) (by decide)) ?_
                 show gO (tF T672 m 620 (la43 p0 p1 p2 p3 p4 p5 n sf al va vb v2 v11 v20 xx yy sa sb kk b30 b97 b125 b155 b352 b569 r_c cm v654 v670) [(.int 1)])
                 refine goZ X674 hx hlk (t := .boolean) Bd.returns (by simp) (D at_620) (z' := (1 : Int32)) rfl ?_ (by decide) (by decide)
                 show Q0 Z p0 p1 p2 p3 p4 p5 w_c f_ wE wL wD wA kD kA mr_ h0 n0 (some (.int (1 : Int32))) T672.heap _
                 exact ⟨rfl, N676⟩
                by_cases hc535_678 : (f_56 (1 : Int32) n sf cm va vb sa v654) = (0 : Int32)
                ·skip
                 refine go (XS.ifYes X662.here hx rfl (pc0 := 535) (pc' := 605) rfl (D at_535) rfl ((if0 _ _).trans (teq hc535_678).1) (by decide) (by decide)) ?_
                 refine giC X662 hx (D at_605) ?_
                 exact join606_671 _ _ ((0 : Int32)) X662 e662 N662 (Or.inl ⟨hc535_678, rfl⟩)
                ·skip
                 refine go (XS.ifNo X662.here hx rfl (D at_535) rfl ((if0 _ _).trans (feq hc535_678).1)) ?_
                 refine giC X662 hx (D at_538) ?_
                 refine giM X662 hx (D at_539) rfl ?_
                 refine giM X662 hx (D at_541) rfl ?_
                 show gO (tF T662 m 543 (la42 p0 p1 p2 p3 p4 p5 n sf al va vb v2 v11 v20 xx yy sa sb kk b30 b97 b125 b155 b352 b569 r_c cm v654) [(.int sf), (.int n), (.int 2)])
                 refine giM X662 hx (D at_543) rfl ?_
                 refine giM X662 hx (D at_545) rfl ?_
                 refine giM X662 hx (D at_547) rfl ?_
                 refine giM X662 hx (D at_549) rfl ?_
                 refine giM X662 hx (D at_551) rfl ?_
                 obtain ⟨_, T679, Lc679, X679, hQ679, st679⟩ := clS X662 (Jvm.LawKit.callS X662 hx (y := M_69) hown (mvT hZ (u 451)) (mvT hZ (u 452)) (mvT hZ (u 3)) (mvT hZ (u 453)) (by decide) (backOf (W := 0) (rm56 l Z a0 hw [] (2 : Int32) n sf cm va vb sa v654 T622.heap n0 z623 ) hZ (u 453) (u 3) (by decide) (by decide)) (g := (mkF m 553 (la42 p0 p1 p2 p3 p4 p5 n sf al va vb v2 v11 v20 xx yy sa sb kk b30 b97 b125 b155 b352 b569 r_c cm v654) [(.int v654), (.int sa), (.int vb), (.int va), (.int cm), (.int sf), (.int n), (.int 2)])) rfl (by rw [hml]; rfl) (argsL := [(.int 2), (.int n), (.int sf), (.int cm), (.int va), (.int vb), (.int sa), (.int v654)]) (rest := []) (lenOf pd_36 rfl) rfl (wk rfl rfl) (D at_553) (fun _ _ => ⟨rfl, e662, lD rfl, lD rfl⟩)) (k := 61) (n := 262) rfl rfl
                 obtain ⟨rfl, Nq679, e679⟩ := hQ679
                 have N679 := Fr.app N662 Nq679
                 refine gob st679 ?_
                 show gO (tF T679 m 556 (la42 p0 p1 p2 p3 p4 p5 n sf al va vb v2 v11 v20 xx yy sa sb kk b30 b97 b125 b155 b352 b569 r_c cm v654) [(.int (f_56 (2 : Int32) n sf cm va vb sa v654))])
                 by_cases hc556_680 : (f_56 (2 : Int32) n sf cm va vb sa v654) = (0 : Int32)
                 ·skip
                  refine go (XS.ifYes X679.here hx rfl (pc0 := 556) (pc' := 605) rfl (D at_556) rfl ((if0 _ _).trans (teq hc556_680).1) (by decide) (by decide)) ?_
                  refine giC X679 hx (D at_605) ?_
                  exact join606_671 _ _ ((0 : Int32)) X679 e679 N679 (Or.inr (Or.inl ⟨hc535_678, hc556_680, rfl⟩))
                 ·skip
                  refine go (XS.ifNo X679.here hx rfl (D at_556) rfl ((if0 _ _).trans (feq hc556_680).1)) ?_
                  refine giC X679 hx (D at_559) ?_
                  refine giM X679 hx (D at_560) rfl ?_
                  refine giM X679 hx (D at_562) rfl ?_
                  show gO (tF T679 m 564 (la42 p0 p1 p2 p3 p4 p5 n sf al va vb v2 v11 v20 xx yy sa sb kk b30 b97 b125 b155 b352 b569 r_c cm v654) [(.int sf), (.int n), (.int 3)])
                  refine giM X679 hx (D at_564) rfl ?_
                  refine giM X679 hx (D at_566) rfl ?_
                  refine giM X679 hx (D at_568) rfl ?_
                  refine giM X679 hx (D at_570) rfl ?_
                  refine giM X679 hx (D at_572) rfl ?_
                  obtain ⟨_, T681, Lc681, X681, hQ681, st681⟩ := clS X679 (Jvm.LawKit.callS X679 hx (y := M_69) hown (mvT hZ (u 451)) (mvT hZ (u 452)) (mvT hZ (u 3)) (mvT hZ (u 453)) (by decide) (backOf (W := 0) (rm56 l Z a0 hw [] (3 : Int32) n sf cm va vb sa v654 T622.heap n0 z623 ) hZ (u 453) (u 3) (by decide) (by decide)) (g := (mkF m 574 (la42 p0 p1 p2 p3 p4 p5 n sf al va vb v2 v11 v20 xx yy sa sb kk b30 b97 b125 b155 b352 b569 r_c cm v654) [(.int v654), (.int sa), (.int vb), (.int va), (.int cm), (.int sf), (.int n), (.int 3)])) rfl (by rw [hml]; rfl) (argsL := [(.int 3), (.int n), (.int sf), (.int cm), (.int va), (.int vb), (.int sa), (.int v654)]) (rest := []) (lenOf pd_36 rfl) rfl (wk rfl rfl) (D at_574) (fun _ _ => ⟨rfl, e679, lD rfl, lD rfl⟩)) (k := 61) (n := 262) rfl rfl
                  obtain ⟨rfl, Nq681, e681⟩ := hQ681
                  have N681 := Fr.app N679 Nq681
                  refine gob st681 ?_
                  show gO (tF T681 m 577 (la42 p0 p1 p2 p3 p4 p5 n sf al va vb v2 v11 v20 xx yy sa sb kk b30 b97 b125 b155 b352 b569 r_c cm v654) [(.int (f_56 (3 : Int32) n sf cm va vb sa v654))])
                  by_cases hc577_682 : (f_56 (3 : Int32) n sf cm va vb sa v654) = (0 : Int32)
                  ·skip
                   refine go (XS.ifYes X681.here hx rfl (pc0 := 577) (pc' := 605) rfl (D at_577) rfl ((if0 _ _).trans (teq hc577_682).1) (by decide) (by decide)) ?_
                   refine giC X681 hx (D at_605) ?_
                   exact join606_671 _ _ ((0 : Int32)) X681 e681 N681 (Or.inr (Or.inr (Or.inl ⟨hc535_678, hc556_680, hc577_682, rfl⟩)))
                  ·skip
                   refine go (XS.ifNo X681.here hx rfl (D at_577) rfl ((if0 _ _).trans (feq hc577_682).1)) ?_
                   refine giC X681 hx (D at_580) ?_
                   refine giM X681 hx (D at_581) rfl ?_
                   refine giM X681 hx (D at_583) rfl ?_
                   show gO (tF T681 m 585 (la42 p0 p1 p2 p3 p4 p5 n sf al va vb v2 v11 v20 xx yy sa sb kk b30 b97 b125 b155 b352 b569 r_c cm v654) [(.int sf), (.int n), (.int 4)])
                   refine giM X681 hx (D at_585) rfl ?_
                   refine giM X681 hx (D at_587) rfl ?_
                   refine giM X681 hx (D at_589) rfl ?_
                   refine giM X681 hx (D at_591) rfl ?_
                   refine giM X681 hx (D at_593) rfl ?_
                   obtain ⟨_, T683, Lc683, X683, hQ683, st683⟩ := clS X681 (Jvm.LawKit.callS X681 hx (y := M_69) hown (mvT hZ (u 451)) (mvT hZ (u 452)) (mvT hZ (u 3)) (mvT hZ (u 453)) (by decide) (backOf (W := 0) (rm56 l Z a0 hw [] (4 : Int32) n sf cm va vb sa v654 T622.heap n0 z623 ) hZ (u 453) (u 3) (by decide) (by decide)) (g := (mkF m 595 (la42 p0 p1 p2 p3 p4 p5 n sf al va vb v2 v11 v20 xx yy sa sb kk b30 b97 b125 b155 b352 b569 r_c cm v654) [(.int v654), (.int sa), (.int vb), (.int va), (.int cm), (.int sf), (.int n), (.int 4)])) rfl (by rw [hml]; rfl) (argsL := [(.int 4), (.int n), (.int sf), (.int cm), (.int va), (.int vb), (.int sa), (.int v654)]) (rest := []) (lenOf pd_36 rfl) rfl (wk rfl rfl) (D at_595) (fun _ _ => ⟨rfl, e681, lD rfl, lD rfl⟩)) (k := 61) (n := 262) rfl rfl
                   obtain ⟨rfl, Nq683, e683⟩ := hQ683
                   have N683 := Fr.app N681 Nq683
                   refine gob st683 ?_
                   show gO (tF T683 m 598 (la42 p0 p1 p2 p3 p4 p5 n sf al va vb v2 v11 v20 xx yy sa sb kk b30 b97 b125 b155 b352 b569 r_c cm v654) [(.int (f_56 (4 : Int32) n sf cm va vb sa v654))])
                   by_cases hc598_684 : (f_56 (4 : Int32) n sf cm va vb sa v654) = (0 : Int32)
                   ·skip
                    refine go (XS.ifYes X683.here hx rfl (pc0 := 598) (pc' := 605) rfl (D at_598) rfl ((if0 _ _).trans (teq hc598_684).1) (by decide) (by decide)) ?_
                    refine giC X683 hx (D at_605) ?_
                    exact join606_671 _ _ ((0 : Int32)) X683 e683 N683 (Or.inr (Or.inr (Or.inr (Or.inl ⟨hc535_678, hc556_680, hc577_682, hc598_684, rfl⟩))))
                   ·skip
                    refine go (XS.ifNo X683.here hx rfl (D at_598) rfl ((if0 _ _).trans (feq hc598_684).1)) ?_
                    refine giC X683 hx (D at_601) ?_
                    refine go (XS.goto X683.here hx rfl (pc0 := 602) (pc' := 606) rfl (D at_602) (by decide) (by decide)) ?_
                    exact join606_671 _ _ ((1 : Int32)) X683 e683 N683 (Or.inr (Or.inr (Or.inr (Or.inr ⟨hc535_678, hc556_680, hc577_682, hc598_684, rfl⟩))))
               by_cases hc502_685 : v20 = (0 : Int32)
               ·skip
                refine go (XS.ifYes X648.here hx rfl (pc0 := 502) (pc' := 517) rfl (D at_502) rfl ((if0 _ _).trans (teq hc502_685).1) (by decide) (by decide)) ?_
                show gO (tF T646 m 517 (la42 p0 p1 p2 p3 p4 p5 n sf al va vb v2 v11 v20 xx yy sa sb kk b30 b97 b125 b155 b352 b569 r_c cm v644) [])
                exact join517_655 _ _ (v644) (0) X648 e649 N650 (Or.inl ⟨hc502_685, rfl⟩)
               ·skip
                refine go (XS.ifNo X648.here hx rfl (D at_502) rfl ((if0 _ _).trans (feq hc502_685).1)) ?_
                refine giM X648 hx (D at_505) rfl ?_
                refine giM X648 hx (D at_507) rfl ?_
                refine giM X648 hx (D at_509) rfl ?_
                refine go (XS.iadd X648.here hx rfl (D at_511) rfl) ?_
                obtain ⟨_, T686, Lc686, X686, hQ686, st686⟩ := clS X648 (Jvm.LawKit.callS X648 hx (y := M_4) hown (mvT hZ (u 494)) (mvT hZ (u 70)) (mvT hZ (u 71)) (mvT hZ (u 72)) (by decide) (backOf (W := 0) (rm12 l Z a0 hw [] v644 (sa + kk) T622.heap n0 z623 ) hZ (u 72) (u 71) (by decide) (by decide)) (g := (mkF m 512 (la42 p0 p1 p2 p3 p4 p5 n sf al va vb v2 v11 v20 xx yy sa sb kk b30 b97 b125 b155 b352 b569 r_c cm v644) [(.int (sa + kk)), (.int v644)])) rfl (by rw [hml]; rfl) (argsL := [(.int v644), (.int (sa + kk))]) (rest := []) (lenOf pd_3 rfl) rfl (wk rfl rfl) (D at_512) (fun _ _ => ⟨rfl, e649, lD rfl, lD rfl⟩)) (k := 61) (n := 262) rfl rfl
                obtain ⟨r686, rfl, hr686, Nq686, e686⟩ := hQ686
                have N686 := Fr.app N650 Nq686
                refine gob st686 ?_
                show gO (tF T686 m 515 (la42 p0 p1 p2 p3 p4 p5 n sf al va vb v2 v11 v20 xx yy sa sb kk b30 b97 b125 b155 b352 b569 r_c cm v644) [(.int r686)])
                refine go (XS.istore X686.here hx rfl (D at_515) rfl (l' := (la42 p0 p1 p2 p3 p4 p5 n sf al va vb v2 v11 v20 xx yy sa sb kk b30 b97 b125 b155 b352 b569 r_c cm r686)) rfl) ?_
                exact join517_655 _ _ (r686) (r686) X686 e686 N686 (Or.inr ⟨hc502_685, hr686, rfl⟩)
              by_cases hc493_687 : v2 = (0 : Int32)
              ·skip
               refine go (XS.ifYes X639.here hx rfl (pc0 := 493) (pc' := 500) rfl (D at_493) rfl ((if0 _ _).trans (teq hc493_687).1) (by decide) (by decide)) ?_
               exact join500_645 _ _ ((0 : Int32)) X639 e640 N641 (Or.inl ⟨hc493_687, rfl⟩)
              ·skip
               refine go (XS.ifNo X639.here hx rfl (D at_493) rfl ((if0 _ _).trans (feq hc493_687).1)) ?_
               refine giM X639 hx (D at_496) rfl ?_
               refine go (XS.istore X639.here hx rfl (D at_498) rfl (l' := (la42 p0 p1 p2 p3 p4 p5 n sf al va vb v2 v11 v20 xx yy sa sb kk b30 b97 b125 b155 b352 b569 r_c cm sa)) rfl) ?_
               exact join500_645 _ _ (sa) X639 e640 N641 (Or.inr ⟨hc493_687, rfl⟩)
             by_cases hc474_688 : v11 = (0 : Int32)
             ·skip
              refine go (XS.ifYes X630.here hx rfl (pc0 := 474) (pc' := 484) rfl (D at_474) rfl ((if0 _ _).trans (teq hc474_688).1) (by decide) (by decide)) ?_
              show gO (tF T628 m 484 (la40 p0 p1 p2 p3 p4 p5 n sf al va vb v2 v11 v20 xx yy sa sb kk b30 b97 b125 b155 b352 b569 r_c) [(.int ((p2 &&& (30 : Int32)) ||| v626))])
              refine giC X630 hx (D at_484) ?_
              exact join485_636 _ _ ((0 : Int32)) X630 e631 N632 (Or.inl ⟨hc474_688, rfl⟩)
             ·skip
              refine go (XS.ifNo X630.here hx rfl (D at_474) rfl ((if0 _ _).trans (feq hc474_688).1)) ?_
              refine giC X630 hx (D at_477) ?_
              refine giM X630 hx (D at_478) rfl ?_
              refine go (XS.ishl X630.here hx rfl (D at_480) rfl) ?_
              refine go (XS.goto X630.here hx rfl (pc0 := 481) (pc' := 485) rfl (D at_481) (by decide) (by decide)) ?_
              show gO (tF T628 m 485 (la40 p0 p1 p2 p3 p4 p5 n sf al va vb v2 v11 v20 xx yy sa sb kk b30 b97 b125 b155 b352 b569 r_c) [(.int ((1 : Int32) <<< (yy &&& 31))), (.int ((p2 &&& (30 : Int32)) ||| v626))])
              exact join485_636 _ _ (((1 : Int32) <<< (yy &&& 31))) X630 e631 N632 (Or.inr ⟨hc474_688, rfl⟩)
            by_cases hc460_689 : v2 = (0 : Int32)
            ·skip
             refine go (XS.ifYes X624.here hx rfl (pc0 := 460) (pc' := 470) rfl (D at_460) rfl ((if0 _ _).trans (teq hc460_689).1) (by decide) (by decide)) ?_
             refine giC X624 hx (D at_470) ?_
             exact join471_627 _ _ ((0 : Int32)) X624 e624 N624 (Or.inl ⟨hc460_689, rfl⟩)
            ·skip
             refine go (XS.ifNo X624.here hx rfl (D at_460) rfl ((if0 _ _).trans (feq hc460_689).1)) ?_
             refine giC X624 hx (D at_463) ?_
             refine giM X624 hx (D at_464) rfl ?_
             refine go (XS.ishl X624.here hx rfl (D at_466) rfl) ?_
             show gO (tF T624 m 467 (la40 p0 p1 p2 p3 p4 p5 n sf al va vb v2 v11 v20 xx yy sa sb kk b30 b97 b125 b155 b352 b569 r_c) [(.int ((1 : Int32) <<< (xx &&& 31))), (.int (p2 &&& (30 : Int32)))])
             refine go (XS.goto X624.here hx rfl (pc0 := 467) (pc' := 471) rfl (D at_467) (by decide) (by decide)) ?_
             exact join471_627 _ _ (((1 : Int32) <<< (xx &&& 31))) X624 e624 N624 (Or.inr ⟨hc460_689, rfl⟩)
           by_cases hc428_690 : v2 = (0 : Int32)
           ·skip
            refine go (XS.ifYes X609.here hx rfl (pc0 := 428) (pc' := 438) rfl (D at_428) rfl ((if0 _ _).trans (teq hc428_690).1) (by decide) (by decide)) ?_
            exact J438 _ _ _ (u609) (gg609) (X609.mono (by decide : 54 ≤ 54) (by decide : 234 ≤ 234)) (rfl : T609.heap = _) N609 z610  IW609 C609 (Cen.xt C609) (Or.inl ⟨hc428_690, rfl, rfl⟩)
           ·skip
            refine go (XS.ifNo X609.here hx rfl (D at_428) rfl ((if0 _ _).trans (feq hc428_690).1)) ?_
            refine gaM X609 hx (D at_431) rfl rfl ?_
            refine giM X609 hx (D at_433) rfl ?_
            obtain ⟨cq691, kq691, q691a, q691b, q691c⟩ := isOf hZ (rfl : T609.heap = _) (Cen.exa C609)
            obtain ⟨_, T691, Lc691, X691, hQ691, st691⟩ := clB X609 (X609.virtualBack hx (y := M_66) (z := M_66) hown (mvT hZ (u 519)) (mvT hZ (u 520)) (notFace_of_selects (args := #[]) (mvT hZ (u 522))) (mvT hZ (u 522)) (mvT hZ (u 521)) (by decide) (backOf (W := 0) (rm66 l Z a0 hw [] b569 xx T544.heap n sf ((0 : Int64) + ((Int32.ofNat ((mm va).map (fI f_)).length).toInt64)) u609 gg609 (updv (0 : Int64) (0 : Int32) (mm va) (fun _ => (-1 : Int64))) T609.heap n0 z610 (own_rem4 (own_rem1 hxx hnb) hnb) C609 nS hnb) hZ (u 523) (u 195) (by decide) (by decide)) q691a q691c (g := (mkF m 435 (la39 p0 p1 p2 p3 p4 p5 n sf al va vb v2 v11 v20 xx yy sa sb kk b30 b97 b125 b155 b352 b569) [(.int xx), (.ref b569)])) rfl (by rw [hml]; rfl) (Steps.refl _) (argsL := [(.int xx)]) (rest := []) (lenOf pd_37 rfl) rfl (wk rfl rfl) (D at_435) (fun _ _ => ⟨rfl, (rfl : T609.heap = _), lD rfl, lD rfl⟩)) (k := 54) (n := 234) rfl rfl
            obtain ⟨rfl, Nq691, C691⟩ := hQ691
            have N691 := Fr.app N609 Nq691
            have z692 : n0 ≤ T691.heap.size := Nat.le_trans nS (Cen.xt C691).1
            have IW691 := WS.ext (Cen.xt C691)
            refine gob (fun _ k => st691.trans k) ?_
            show gO (tF T691 m 438 (la39 p0 p1 p2 p3 p4 p5 n sf al va vb v2 v11 v20 xx yy sa sb kk b30 b97 b125 b155 b352 b569) [])
            exact J438 _ _ _ (((0 : Int64) + ((Int32.ofNat ((mm va).map (fI f_)).length).toInt64))) ((fun i => if i = (xx).toNatClampNeg then (1 : Int32) else gg609 i)) (X691.mono (by decide : 54 ≤ 54) (by decide : 234 ≤ 234)) (rfl : T691.heap = _) N691 z692  IW691 C691 (Cen.xt C691) (Or.inr ⟨hc428_690, rfl, rfl⟩)
          by_cases hc273_693 : v20 = (0 : Int32)
          ·skip
           refine go (XS.ifYes X134.here hx rfl (pc0 := 273) (pc' := 293) rfl (D at_273) rfl ((if0 _ _).trans (teq hc273_693).1) (by decide) (by decide)) ?_
           have c695 := (A125.keep K134)
           have A694 : AL Z T134.heap b125 s_21 [] := ⟨c695, F138, Nat.le_of_ble_eq_true rfl, (fun _ q => nomatch q), Or.inl rfl⟩
           have c696 := (c135.keep K134 (geS g131 geN))
           have c697 := ((J121.ext E125).keep K134)
           have c698 := ((J122.ext E125).keep K134 (ninS n130 nin0))
           have xs699 := (own_extK (own_extE (own_extR hq115) E125) K134 (allS gs132 all0))
           exact J293 _ _ _ ([]) ([]) (X134.mono (by decide : 4 ≤ 6) (by decide : 21 ≤ 33)) (rfl : T134.heap = _) N134 z139  c696 c697 c698 (J123.ext xs699) A694 (Or.inl ⟨rfl, rfl⟩)  (Or.inl ⟨hc273_693, rfl⟩) (Nat.le_of_ble_eq_true rfl)
          ·skip
           refine go (XS.ifNo X134.here hx rfl (D at_273) rfl ((if0 _ _).trans (feq hc273_693).1)) ?_
           refine gaM X134 hx (D at_276) rfl rfl ?_
           obtain ⟨T700, h700, X700, e700, E700, A700, D700, -, st700⟩ := newO X134 hx hZ hown (u 458) (u 459) (u 460) (rfl : T134.heap = _) (g := (mkF m 278 (la36 p0 p1 p2 p3 p4 p5 n sf al va vb v2 v11 v20 xx yy sa sb kk b30 b97 b125) [(.ref b125)])) rfl (D at_278) (by decide) (by decide)
           obtain ⟨b700, g700⟩ : ∃ z, z = T134.heap.size := ⟨_, rfl⟩
           rw [← g700] at A700 D700 st700
           have c701 := (c135.keep K134 (geS g131 geN))
           have c706 := ((J121.ext E125).keep K134)
           have n707 : b30 ≠ b700 := Nat.ne_of_lt (Nat.lt_of_lt_of_le c706.lt (Nat.le_of_eq g700.symm))
           have c708 := (A125.keep K134)
           have n709 : b125 ≠ b700 := Nat.ne_of_lt (Nat.lt_of_lt_of_le c708.lt (Nat.le_of_eq g700.symm))
           have g710 : n0 ≤ b700 := Nat.le_trans z139 (Nat.le_of_eq g700.symm)
           have xs711 := (own_extK (own_extE (own_extR hq115) E125) K134 (allS gs132 all0))
           have gs712 : hq115.size ≤ b700 := Nat.le_trans xs711.1 (Nat.le_of_eq g700.symm)
           have z713 : n0 ≤ h700.size := Nat.le_trans z139 E700.1
           have F700_member : Fld Z h700 b700 s_21 "member" "I" (.int (0 : Int32)) := D700 (Or.inr (hW hw 466 rfl)) (ty := .int) (by decide)
           have F700_visitedBefore : Fld Z h700 b700 s_21 s_38 "I" (.int (0 : Int32)) := D700 (Or.inr (hW hw 468 rfl)) (ty := .int) (by decide)
           refine gob st700 ?_
           replace X700 := castX X700 (rfl : _ = 5) (rfl : _ = 23)
           show gO (tF T700 m 281 (la36 p0 p1 p2 p3 p4 p5 n sf al va vb v2 v11 v20 xx yy sa sb kk b30 b97 b125) [(.ref b700), (.ref b125)])
           refine go (XS.dup X700.here hx rfl (D at_281) rfl rfl) ?_
           refine giM X700 hx (D at_282) rfl ?_
           refine giM X700 hx (D at_284) rfl ?_
           obtain ⟨_, T714, Lc714, X714, hQ714, st714⟩ := clB X700 (X700.specialBack hx (y := M_13) rfl hown (mvT hZ (u 461)) (mvT hZ (u 462)) (mvT hZ (u 463)) (by decide) (backOf (W := 2) (rm58 l Z a0 hw [] b700 yy kk h700 n0 z713 A700 F700_member g710 F700_visitedBefore) hZ (u 463) (u 460) (by decide) (by decide)) (g := (mkF m 286 (la36 p0 p1 p2 p3 p4 p5 n sf al va vb v2 v11 v20 xx yy sa sb kk b30 b97 b125) [(.int kk), (.int yy), (.ref b700), (.ref b700), (.ref b125)])) rfl (by rw [hml]; rfl) (Steps.refl _) (a := b700) (argsL := [(.int yy), (.int kk)]) (rest := [(.ref b700), (.ref b125)]) (lenOf pd_38 rfl) rfl (wk rfl rfl) (D at_286) (fun _ _ => ⟨rfl, e700, lD rfl, lD rfl⟩)) (k := 5) (n := 23) rfl rfl
           obtain ⟨rfl, Nq714, K714, F715, F716⟩ := hQ714
           have N714 := Fr.app N134 Nq714
           have z717 : n0 ≤ T714.heap.size := Nat.le_trans z713 K714.1
           refine gob (fun _ k => st714.trans k) ?_
           have c719 := ((c708.ext E700).keep K714)
           have c720 := ((F137.ext E700).keep K714 (ninS n709 nin0))
           have c721 := ((F138.ext E700).keep K714 (ninS n709 nin0))
           have c722 := ((F136.ext E700).keep K714 (ninS n709 nin0))
           have c723 := ((c701.ext E700).keep K714 (geS g710 geN))
           have c724 := (A700.keep K714)
           obtain ⟨cq718, kq718, q718a, q718b, q718c⟩ := isOf hZ (rfl : T714.heap = _) c719
           obtain ⟨_, T718, Lc718, X718, hQ718, st718⟩ := clB X714 (X714.virtualBack hx (y := M_30) (z := M_30) hown (mvT hZ (u 45)) (mvT hZ (u 46)) (notFace_of_selects (args := #[]) (mvT hZ (u 48))) (mvT hZ (u 48)) (mvT hZ (u 47)) (by decide) (backOf (W := 0) (rm8_0g l Z a0 hw [] b125 b700 wD (0 : Int32) kD s_21 T714.heap n0 z717 c719 c720 c721 c722 (own_WDv c723) n129 (own_WD c723) (u 469) c724 g131) hZ (u 49) (u 8) (by decide) (by decide)) q718a q718c (g := (mkF m 289 (la36 p0 p1 p2 p3 p4 p5 n sf al va vb v2 v11 v20 xx yy sa sb kk b30 b97 b125) [(.ref b700), (.ref b125)])) rfl (by rw [hml]; rfl) (Steps.refl _) (argsL := [(.ref b700)]) (rest := []) (lenOf pd_17 rfl) rfl (wk rfl rfl) (D at_289) (fun _ _ => ⟨rfl, (rfl : T714.heap = _), lD rfl, lD rfl⟩)) (k := 6) (n := 33) rfl rfl
           obtain ⟨b725, k726, rfl, Nq718, K718, hz727, F728, F729, F730, F731, F732, hi733⟩ := hQ718
           have N718 := Fr.app N714 Nq718
           have c739 := ((c706.ext E700).keep K714)
           have xs743 := (own_extK (own_extE xs711 E700) K714 (allS gs712 all0))
           have z745 : n0 ≤ T718.heap.size := Nat.le_trans z717 K718.1
           refine gob (fun _ k => st718.trans k) ?_
           refine go (XS.pop X718.here hx rfl (D at_292) rfl rfl) ?_
           show gO (tF T718 m 293 (la36 p0 p1 p2 p3 p4 p5 n sf al va vb v2 v11 v20 xx yy sa sb kk b30 b97 b125) [])
           have c747 := (c724.keep K718)
           have c748 := (c719.keep K718)
           have A746 : AL Z T718.heap b125 s_21 [b700] := ⟨c748, F729, Nat.le_of_ble_eq_true rfl, (allS c747 all0), Or.inr ⟨_, _, F728, F731, F732⟩⟩
           have c749 := (F716.keep K718 (ninS (Ne.symm n709) nin0))
           have c750 := (c723.keep K718 (geS g131 geN))
           have c751 := (c739.keep K718)
           have c752 := (((((J122.ext E125).keep K134 (ninS n130 nin0)).ext E700).keep K714 (ninS n707 nin0)).keep K718 (ninS n130 nin0))
           have xs753 := (own_extK xs743 K718 (allS gs132 all0))
           exact J293 _ _ _ ([b700]) ([kk]) (X718.mono (by decide : 6 ≤ 6) (by decide : 33 ≤ 33)) (rfl : T718.heap = _) N718 z745  c750 c751 c752 (J123.ext xs753) A746 (Or.inr ⟨b700, kk, rfl, rfl, c747, c749⟩)  (Or.inr ⟨hc273_693, rfl⟩) (Nat.le_of_ble_eq_true rfl)
         by_cases hc248_754 : v11 = (0 : Int32)
         ·skip
          refine go (XS.ifYes X107.here hx rfl (pc0 := 248) (pc' := 262) rfl (D at_248) rfl ((if0 _ _).trans (teq hc248_754).1) (by decide) (by decide)) ?_
          have c756 := (A97.keep K107)
          have A755 : AL Z T107.heap b97 s_4 [] := ⟨c756, F111, Nat.le_of_ble_eq_true rfl, (fun _ q => nomatch q), Or.inl rfl⟩
          have c757 := (c108.keep K107 (geS g105 geN))
          have c758 := ((c103.ext E97).keep K107)
          have c759 := ((V95.ext E97).keep K107 (ninS n104 nin0))
          exact J262 _ _ _ ([]) (X107.mono (by decide : 2 ≤ 3) (by decide : 8 ≤ 18)) (rfl : T107.heap = _) N107 z112  c757 c758 c759 A755  (Or.inl ⟨hc248_754, rfl⟩)
         ·skip
          refine go (XS.ifNo X107.here hx rfl (D at_248) rfl ((if0 _ _).trans (feq hc248_754).1)) ?_
          refine gaM X107 hx (D at_251) rfl rfl ?_
          refine giM X107 hx (D at_253) rfl ?_
          have ylo : -128 ≤ yy.toInt := by have := own_rem1 hyy hnb; omega
          have yhi : yy.toInt ≤ 127 := by have := own_rem1 hyy hnb; omega
          have c761 := (c108.keep K107 (geS g105 geN))
          obtain ⟨_, T760, Lc760, X760, hQ760, st760⟩ := clS X107 (Jvm.LawKit.callS X107 hx (y := M_31) hown (mvT hZ (u 38)) (mvT hZ (u 39)) (mvT hZ (u 40)) (mvT hZ (u 41)) (by decide) (backOf (W := 1) (rm7 l Z a0 hw [] yy w_c f_ wE wL wD wA kD kA T107.heap n0 z112 c761 ylo yhi) hZ (u 41) (u 40) (by decide) (by decide)) (g := (mkF m 255 (la35 p0 p1 p2 p3 p4 p5 n sf al va vb v2 v11 v20 xx yy sa sb kk b30 b97) [(.int yy), (.ref b97)])) rfl (by rw [hml]; rfl) (argsL := [(.int yy)]) (rest := [(.ref b97)]) (lenOf pd_16 rfl) rfl (wk rfl rfl) (D at_255) (fun _ _ => ⟨rfl, (rfl : T107.heap = _), lD rfl, lD rfl⟩)) (k := 2) (n := 8) rfl rfl
          obtain ⟨rfl, Nq760, e760⟩ := hQ760
          have N760 := Fr.app N107 Nq760
          refine gob st760 ?_
          have c763 := (A97.keep K107)
          obtain ⟨cq762, kq762, q762a, q762b, q762c⟩ := isOf hZ e760 c763
          obtain ⟨_, T762, Lc762, X762, hQ762, st762⟩ := clB X760 (X760.virtualBack hx (y := M_30) (z := M_30) hown (mvT hZ (u 45)) (mvT hZ (u 46)) (notFace_of_selects (args := #[]) (mvT hZ (u 48))) (mvT hZ (u 48)) (mvT hZ (u 47)) (by decide) (backOf (W := 0) (rm8_0g l Z a0 hw [] b97 (fI f_ yy) wD (0 : Int32) kD s_4 T107.heap n0 z112 c763 F110 F111 F109 (own_WDv c761) n102 (own_WD c761) (u 75) (own_Wint c761 ylo yhi).1 g105) hZ (u 49) (u 8) (by decide) (by decide)) q762a q762c (g := (mkF m 258 (la35 p0 p1 p2 p3 p4 p5 n sf al va vb v2 v11 v20 xx yy sa sb kk b30 b97) [(.ref (fI f_ yy)), (.ref b97)])) rfl (by rw [hml]; rfl) (Steps.refl _) (argsL := [(.ref (fI f_ yy))]) (rest := []) (lenOf pd_17 rfl) rfl (wk rfl rfl) (D at_258) (fun _ _ => ⟨rfl, e760, lD rfl, lD rfl⟩)) (k := 3) (n := 18) rfl rfl
          obtain ⟨b764, k765, rfl, Nq762, K762, hz766, F767, F768, F769, F770, F771, hi772⟩ := hQ762
          have N762 := Fr.app N760 Nq762
          have c778 := ((c103.ext E97).keep K107)
          have z782 : n0 ≤ T762.heap.size := Nat.le_trans z112 K762.1
          refine gob (fun _ k => st762.trans k) ?_
          show gO (tF T762 m 261 (la35 p0 p1 p2 p3 p4 p5 n sf al va vb v2 v11 v20 xx yy sa sb kk b30 b97) [(.int 1)])
          refine go (XS.pop X762.here hx rfl (D at_261) rfl rfl) ?_
          have c784 := (c761.keep K762 (geS g105 geN))
          have c785 := (c763.keep K762)
          have A783 : AL Z T762.heap b97 s_4 [(fI f_ yy)] := ⟨c785, F768, Nat.le_of_ble_eq_true rfl, (allS (own_Wint c784 ylo yhi).1 all0), Or.inr ⟨_, _, F767, F770, F771⟩⟩
          have c786 := (c778.keep K762)
          have c787 := (((V95.ext E97).keep K107 (ninS n104 nin0)).keep K762 (ninS n104 nin0))
          exact J262 _ _ _ ([yy]) (X762.mono (by decide : 3 ≤ 3) (by decide : 18 ≤ 18)) (rfl : T762.heap = _) N762 z782  c784 c786 c787 A783  (Or.inr ⟨hc248_754, rfl⟩)
        by_cases hc228_788 : ((p2 >>> ((4 : Int32) &&& 31)) &&& (1 : Int32)) = (0 : Int32)
        ·skip
         refine go (XS.ifYes X83.here hx rfl (pc0 := 228) (pc' := 235) rfl (D at_228) rfl ((if0 _ _).trans (teq hc228_788).1) (by decide) (by decide)) ?_
         refine giC X83 hx (D at_235) ?_
         exact join236_87 _ _ ((0 : Int32)) X83 e83 N83 (Or.inl ⟨hc228_788, rfl⟩)
        ·skip
         refine go (XS.ifNo X83.here hx rfl (D at_228) rfl ((if0 _ _).trans (feq hc228_788).1)) ?_
         refine giC X83 hx (D at_231) ?_
         refine go (XS.goto X83.here hx rfl (pc0 := 232) (pc' := 236) rfl (D at_232) (by decide) (by decide)) ?_
         show gO (tF T83 m 236 (la34 p0 p1 p2 p3 p4 p5 n sf al va vb v2 v11 v20 xx yy sa sb kk b30) [(.int 1), (.int 4), (.ref b30)])
         exact join236_87 _ _ ((1 : Int32)) X83 e83 N83 (Or.inr ⟨hc228_788, rfl⟩)
       by_cases hc211_789 : ((p2 >>> ((3 : Int32) &&& 31)) &&& (1 : Int32)) = (0 : Int32)
       ·skip
        refine go (XS.ifYes X71.here hx rfl (pc0 := 211) (pc' := 218) rfl (D at_211) rfl ((if0 _ _).trans (teq hc211_789).1) (by decide) (by decide)) ?_
        refine giC X71 hx (D at_218) ?_
        exact join219_75 _ _ ((0 : Int32)) X71 e71 N71 (Or.inl ⟨hc211_789, rfl⟩)
       ·skip
        refine go (XS.ifNo X71.here hx rfl (D at_211) rfl ((if0 _ _).trans (feq hc211_789).1)) ?_
        refine giC X71 hx (D at_214) ?_
        refine go (XS.goto X71.here hx rfl (pc0 := 215) (pc' := 219) rfl (D at_215) (by decide) (by decide)) ?_
        exact join219_75 _ _ ((1 : Int32)) X71 e71 N71 (Or.inr ⟨hc211_789, rfl⟩)
      by_cases hc194_790 : ((p2 >>> ((2 : Int32) &&& 31)) &&& (1 : Int32)) = (0 : Int32)
      ·skip
       refine go (XS.ifYes X59.here hx rfl (pc0 := 194) (pc' := 201) rfl (D at_194) rfl ((if0 _ _).trans (teq hc194_790).1) (by decide) (by decide)) ?_
       show gO (tF T59 m 201 (la34 p0 p1 p2 p3 p4 p5 n sf al va vb v2 v11 v20 xx yy sa sb kk b30) [(.int 2), (.ref b30)])
       refine giC X59 hx (D at_201) ?_
       exact join202_63 _ _ ((0 : Int32)) X59 e59 N59 (Or.inl ⟨hc194_790, rfl⟩)
      ·skip
       refine go (XS.ifNo X59.here hx rfl (D at_194) rfl ((if0 _ _).trans (feq hc194_790).1)) ?_
       refine giC X59 hx (D at_197) ?_
       refine go (XS.goto X59.here hx rfl (pc0 := 198) (pc' := 202) rfl (D at_198) (by decide) (by decide)) ?_
       exact join202_63 _ _ ((1 : Int32)) X59 e59 N59 (Or.inr ⟨hc194_790, rfl⟩)
     by_cases hc177_791 : ((p2 >>> ((1 : Int32) &&& 31)) &&& (1 : Int32)) = (0 : Int32)
     ·skip
      refine go (XS.ifYes X47.here hx rfl (pc0 := 177) (pc' := 184) rfl (D at_177) rfl ((if0 _ _).trans (teq hc177_791).1) (by decide) (by decide)) ?_
      refine giC X47 hx (D at_184) ?_
      show gO (tF T47 m 185 (la34 p0 p1 p2 p3 p4 p5 n sf al va vb v2 v11 v20 xx yy sa sb kk b30) [(.int 0), (.int 1), (.ref b30)])
      exact join185_51 _ _ ((0 : Int32)) X47 e47 N47 (Or.inl ⟨hc177_791, rfl⟩)
     ·skip
      refine go (XS.ifNo X47.here hx rfl (D at_177) rfl ((if0 _ _).trans (feq hc177_791).1)) ?_
      refine giC X47 hx (D at_180) ?_
      refine go (XS.goto X47.here hx rfl (pc0 := 181) (pc' := 185) rfl (D at_181) (by decide) (by decide)) ?_
      exact join185_51 _ _ ((1 : Int32)) X47 e47 N47 (Or.inr ⟨hc177_791, rfl⟩)
    by_cases hc160_792 : (p2 &&& (1 : Int32)) = (0 : Int32)
    ·skip
     refine go (XS.ifYes X30.here hx rfl (pc0 := 160) (pc' := 167) rfl (D at_160) rfl ((if0 _ _).trans (teq hc160_792).1) (by decide) (by decide)) ?_
     refine giC X30 hx (D at_167) ?_
     exact join168_39 _ _ ((0 : Int32)) X30 e30 N29 (Or.inl ⟨hc160_792, rfl⟩)
    ·skip
     refine go (XS.ifNo X30.here hx rfl (D at_160) rfl ((if0 _ _).trans (feq hc160_792).1)) ?_
     show gO (tF T30 m 163 (la34 p0 p1 p2 p3 p4 p5 n sf al va vb v2 v11 v20 xx yy sa sb kk b30) [(.int 0), (.ref b30)])
     refine giC X30 hx (D at_163) ?_
     refine go (XS.goto X30.here hx rfl (pc0 := 164) (pc' := 168) rfl (D at_164) (by decide) (by decide)) ?_
     exact join168_39 _ _ ((1 : Int32)) X30 e30 N29 (Or.inr ⟨hc160_792, rfl⟩)
   by_cases hc84_793 : (((p3.toUInt32 >>> ((10 : Int32) &&& 31).toUInt32).toInt32) &&& (1 : Int32)) = (0 : Int32)
   ·skip
    refine go (XS.ifYes X15.here hx rfl (pc0 := 84) (pc' := 91) rfl (D at_84) rfl ((if0 _ _).trans (teq hc84_793).1) (by decide) (by decide)) ?_
    refine giC X15 hx (D at_91) ?_
    exact join92_21 _ _ ((0 : Int32)) X15 e16 N17 (Or.inl ⟨hc84_793, rfl⟩)
   ·skip
    refine go (XS.ifNo X15.here hx rfl (D at_84) rfl ((if0 _ _).trans (feq hc84_793).1)) ?_
    refine giC X15 hx (D at_87) ?_
    show gO (tF T13 m 88 (la27 p0 p1 p2 p3 p4 p5 n sf al va vb v2 v11) [(.int 1)])
    refine go (XS.goto X15.here hx rfl (pc0 := 88) (pc' := 92) rfl (D at_88) (by decide) (by decide)) ?_
    exact join92_21 _ _ ((1 : Int32)) X15 e16 N17 (Or.inr ⟨hc84_793, rfl⟩)
  by_cases hc68_794 : (((p3.toUInt32 >>> ((9 : Int32) &&& 31).toUInt32).toInt32) &&& (1 : Int32)) = (0 : Int32)
  ·skip
   refine go (XS.ifYes X6.here hx rfl (pc0 := 68) (pc' := 75) rfl (D at_68) rfl ((if0 _ _).trans (teq hc68_794).1) (by decide) (by decide)) ?_
   refine giC X6 hx (D at_75) ?_
   exact join76_12 _ _ ((0 : Int32)) X6 e7 N8 (Or.inl ⟨hc68_794, rfl⟩)
  ·skip
   refine go (XS.ifNo X6.here hx rfl (D at_68) rfl ((if0 _ _).trans (feq hc68_794).1)) ?_
   refine giC X6 hx (D at_71) ?_
   refine go (XS.goto X6.here hx rfl (pc0 := 72) (pc' := 76) rfl (D at_72) (by decide) (by decide)) ?_
   show gO (tF T4 m 76 (la26 p0 p1 p2 p3 p4 p5 n sf al va vb v2) [(.int 1)])
   exact join76_12 _ _ ((1 : Int32)) X6 e7 N8 (Or.inr ⟨hc68_794, rfl⟩)
 by_cases hc52_795 : (((p3.toUInt32 >>> ((8 : Int32) &&& 31).toUInt32).toInt32) &&& (1 : Int32)) = (0 : Int32)
 ·skip
  refine go (XS.ifYes X0.here hx rfl (pc0 := 52) (pc' := 59) rfl (D at_52) rfl ((if0 _ _).trans (teq hc52_795).1) (by decide) (by decide)) ?_
  refine giC X0 hx (D at_59) ?_
  exact join60_3 _ _ ((0 : Int32)) X0 e0 N0 (Or.inl ⟨hc52_795, rfl⟩)
 ·skip
  refine go (XS.ifNo X0.here hx rfl (D at_52) rfl ((if0 _ _).trans (feq hc52_795).1)) ?_
  refine giC X0 hx (D at_55) ?_
  refine go (XS.goto X0.here hx rfl (pc0 := 56) (pc' := 60) rfl (D at_56) (by decide) (by decide)) ?_
  exact join60_3 _ _ ((1 : Int32)) X0 e0 N0 (Or.inr ⟨hc52_795, rfl⟩)
set_option maxRecDepth 65536 in
set_option maxHeartbeats 40000000 in
theorem comes_1 {Post : Tables → Env → Array Value → State → Outcome → State → Prop} (hpost : ∀ tb e args s v u, (limb_1_1.after args s (.returned v) u = true ∧ limb_1_2.after args s (.returned v) u = true ∧ True) → FrameEnd s (.returned v) u (Jvm.fieldLocs frame_1_writes args s ++ Jvm.arrayLocs frame_1_arrays args s ++ Jvm.staticLocs frame_1_statics s) 120 576 → Post tb e args s (.returned v) u) :
    ArmFor flags0 classFile x code maxLocals ret World_1 tables_1 room_1 Calls_1 rest_1 Pre_1 Post := by
  intro l hfl _ _ p e ha hc hk s m args below hf hA hF happ hP
  obtain ⟨hcalls, hrest, hpre⟩ := hP
  obtain ⟨-, -, -, hnamed, -, -, -, hat⟩ := (Spec.applies_iff hf).mp happ
  obtain ⟨hg, hn⟩ := and_e (Cond.before_iff.mp (show (Jvm.Cond.and given_1 narrow_1).before args s = true from hpre))
  obtain ⟨g1, g2⟩ := and_e hg
  obtain ⟨g3, g4⟩ := and_e g2
  obtain ⟨g5, g6⟩ := and_e g4
  obtain ⟨g7, g8⟩ := and_e g6
  obtain ⟨g9, g10⟩ := and_e g8
  obtain ⟨g11, g12⟩ := and_e g10
  obtain ⟨w0, w1, w2, w3, w4, w5, rfl⟩ : ∃ w0 w1 w2 w3 w4 w5 : Value, args = #[w0, w1, w2, w3, w4, w5] := by
    have hs : args.size = 6 := by simpa [Cond.value, given_1] using g1
    obtain ⟨L⟩ := args
    match L, hs with
    | [w0, w1, w2, w3, w4, w5], _ => exact ⟨w0, w1, w2, w3, w4, w5, rfl⟩
  have hw := fun d (hd : d ∈ tables_1) => atoms_spec (ws := Jvm.Cond.code x code maxLocals ret :: tables_1) hat d (List.mem_cons_of_mem _ hd)
  have hfit : Fit s := fun {y c} hc i hi => by
    obtain ⟨ha, rfl⟩ := Array.getElem?_eq_some_iff.mp hc
    have q := List.all_eq_true.mp ((Array.all_eq_true_iff_forall_mem.mp hF) _ (Array.getElem_mem ha)) i (List.mem_range.mpr hi)
    simpa [Array.getElem?_eq_getElem hi] using q
  obtain ⟨hsets, hown0⟩ := atoms_of _ (rest_1_c_eq ▸ (show rest_1_c.before _ s = true from hrest))
  have hr0 := Cond.before_iff.mp hown0
  obtain ⟨i0, ei0⟩ := is_v g3
  obtain rfl : w0 = (.int i0) := Option.some.inj ei0
  obtain ⟨i1, ei1⟩ := is_v g5
  obtain rfl : w1 = (.int i1) := Option.some.inj ei1
  obtain ⟨i2, ei2⟩ := is_v g7
  obtain rfl : w2 = (.int i2) := Option.some.inj ei2
  obtain ⟨i3, ei3⟩ := is_v g9
  obtain rfl : w3 = (.int i3) := Option.some.inj ei3
  obtain ⟨i4, ei4⟩ := is_v g11
  obtain rfl : w4 = (.int i4) := Option.some.inj ei4
  obtain ⟨i5, ei5⟩ := is_v g12
  obtain rfl : w5 = (.int i5) := Option.some.inj ei5
  have hs0 := fun (i : Nat) {d : Jvm.Cond} (h : jdkStatics_1[i]? = some d) => hsets d (List.mem_of_getElem? h)
  obtain ⟨w_c, f_, wE, wL, wD, wA, kD, kA, IC⟩ := own_world hfit (hW hw 8 rfl) (hW hw 43 rfl) (hs0 2 rfl) (hs0 6 rfl) (hs0 8 rfl) (hs0 10 rfl) (hs0 11 rfl) (hs0 12 rfl) (hs0 13 rfl) (hs0 15 rfl) (hs0 16 rfl) (hs0 18 rfl) (hs0 19 rfl) (hs0 20 rfl) (hs0 21 rfl) (hs0 22 rfl) (hs0 25 rfl) (hs0 26 rfl)
  obtain ⟨cM, kM, mr_, hM1, hM2, hM3⟩ := hcalls.1
  have MM : Mir s mr_ := ⟨cM, kM, hM1, hM2, hM3.1⟩
  obtain ⟨n, o, h1, h2, h3, _, L, rfl, ⟨rfl, N⟩, hq⟩ := rm0 l s _ hw tables_1 i0 i1 i2 i3 i4 i5 w_c f_ wE wL wD wA kD kA mr_ s.heap s.heap.size (Nat.le_refl _) IC MM p e ha hc hk s m _ below hf ((Spec.applies_iff_loose hf).mp happ).1 ⟨rfl, State.Warmed39.refl s, rfl⟩ trivial
  exact ⟨n, _, h1, h2, h3, hpost _ _ _ _ _ _ ⟨Cond.after_iff.mpr rfl, Cond.after_iff.mpr (eq_i res_at (Term.int_eval (1)) rfl), trivial⟩ ⟨hq.1, hq.2.1, (hq.2.2.sift fun y hy => Or.inr (N y hy)).mono (by decide) (by decide)⟩⟩
theorem main_1_1 : Claimed_1_1 := comes_1 fun _ _ _ _ _ _ h hF => ⟨h.1, hF⟩
theorem main_1_2 : Claimed_1_2 := comes_1 fun _ _ _ _ _ _ h hF => ⟨h.2.1, hF⟩

end Jvm.Pilot.@@N@@
namespace Jvm.Pilot.@@N@@
open Jvm Jvm.ClassFile Sem Op Lib Jvm.Free Jvm.Stand Jvm.Pilot.@@N@@.Jvm.D
/-! MADE BY PROGRAM (witnessworld.py) out of the Statement's table words and the real class files: 55 classes; the members and pool entries that the words name. The judged class is class 1, her method 1. -/
set_option maxRecDepth 65536
namespace start1
open Jvm.ClassFile
def u (s : String) : CpInfo := .utf8 (stringToUtf16 s)
def gap : Nat → List CpInfo → List CpInfo
  | 0, r => r
  | n + 1, r => .unusable :: gap n r
def poolList (es : List (Nat × CpInfo)) (last : Nat) : List CpInfo := es.foldr (fun e r => gap e.1 (e.2 :: r)) (gap last [])
def pool (es : List (Nat × CpInfo)) (last : Nat) : Array CpInfo := ⟨poolList es last⟩
def fileOf (pool : Array CpInfo) (this : Nat) (attrs : Array Attribute := #[]) (ms : Array MethodInfo := #[]) (fl : Nat := 33) (sup : Nat := 0) (ifs : Array Nat := #[]) (fds : Array FieldInfo := #[]) : ClassFile where
  minorVersion := 0
  majorVersion := 65
  constantPool := pool
  accessFlags := fl
  thisClass := this
  superClass := sup
  interfaces := ifs
  fields := fds
  methods := ms
  attributes := attrs
def ic (i : Int32) : Cell := { cls := 19, slots := #[.int i] }
abbrev pc (a : Nat) : Nat × CpInfo := (0, .class_ a)
abbrev pn (a b : Nat) : Nat × CpInfo := (0, .nameAndType a b)
abbrev pm (a b : Nat) : Nat × CpInfo := (0, .methodref a b)
abbrev pf (a b : Nat) : Nat × CpInfo := (0, .fieldref a b)
abbrev pu (s : String) : Nat × CpInfo := (0, u s)
abbrev C_0 : Jvm.Cond := Jvm.Cond.code x code maxLocals ret
abbrev C_1 : Jvm.Cond := Jvm.Cond.code ({ cls := "com/example/hot_potato/hotpotato/CensusCompletePinLaw", name := "count", desc := "(I)I" } : Jvm.MethodName) method_4_code (1 : Nat) (Option.some Jvm.ClassFile.FieldType.int)
abbrev C_2 : Jvm.Cond := Jvm.Cond.code ({ cls := "java/util/ArrayList", name := "<init>", desc := "()V" } : Jvm.MethodName) jdk_38_method_2_code (1 : Nat) (Option.none : Option Jvm.ClassFile.FieldType)
abbrev C_3 : Jvm.Cond := Jvm.Cond.code ({ cls := "java/util/AbstractList", name := "<init>", desc := "()V" } : Jvm.MethodName) jdk_39_method_1_code (1 : Nat) (Option.none : Option Jvm.ClassFile.FieldType)
abbrev C_4 : Jvm.Cond := Jvm.Cond.code ({ cls := "java/util/AbstractCollection", name := "<init>", desc := "()V" } : Jvm.MethodName) jdk_22_method_1_code (1 : Nat) (Option.none : Option Jvm.ClassFile.FieldType)
abbrev C_5 : Jvm.Cond := Jvm.Cond.code ({ cls := "java/lang/Object", name := "<init>", desc := "()V" } : Jvm.MethodName) object_method_1_code (1 : Nat) (Option.none : Option Jvm.ClassFile.FieldType)
abbrev C_6 : Jvm.Cond := Jvm.Cond.code ({ cls := "com/example/hot_potato/hotpotato/CensusCompletePinLaw", name := "members", desc := "(I)Ljava/util/ArrayList;" } : Jvm.MethodName) method_5_code (2 : Nat) (Option.some (Jvm.ClassFile.FieldType.object "java/util/ArrayList"))
abbrev C_7 : Jvm.Cond := Jvm.Cond.code ({ cls := "java/lang/Integer", name := "valueOf", desc := "(I)Ljava/lang/Integer;" } : Jvm.MethodName) jdk_33_method_22_code (1 : Nat) (Option.some (Jvm.ClassFile.FieldType.object "java/lang/Integer"))
abbrev C_8 : Jvm.Cond := Jvm.Cond.code ({ cls := "java/util/ArrayList", name := "add", desc := "(Ljava/lang/Object;)Z" } : Jvm.MethodName) jdk_38_method_25_code (2 : Nat) (Option.some Jvm.ClassFile.FieldType.boolean)
abbrev C_9 : Jvm.Cond := Jvm.Cond.code ({ cls := "java/util/ArrayList", name := "add", desc := "(Ljava/lang/Object;[Ljava/lang/Object;I)V" } : Jvm.MethodName) jdk_38_method_24_code (4 : Nat) (Option.none : Option Jvm.ClassFile.FieldType)
abbrev C_10 : Jvm.Cond := Jvm.Cond.code ({ cls := "java/util/ArrayList", name := "grow", desc := "()[Ljava/lang/Object;" } : Jvm.MethodName) jdk_38_method_7_code (1 : Nat) (Option.some (Jvm.ClassFile.FieldType.array (Jvm.ClassFile.FieldType.object "java/lang/Object")))
abbrev C_11 : Jvm.Cond := Jvm.Cond.code ({ cls := "java/util/ArrayList", name := "grow", desc := "(I)[Ljava/lang/Object;" } : Jvm.MethodName) jdk_38_method_6_code (4 : Nat) (Option.some (Jvm.ClassFile.FieldType.array (Jvm.ClassFile.FieldType.object "java/lang/Object")))
abbrev C_12 : Jvm.Cond := Jvm.Cond.code ({ cls := "java/lang/Math", name := "max", desc := "(II)I" } : Jvm.MethodName) jdk_29_method_65_code (2 : Nat) (Option.some Jvm.ClassFile.FieldType.int)
abbrev C_13 : Jvm.Cond := Jvm.Cond.code ({ cls := "com/example/hot_potato/hotpotato/Message$Probe", name := "<init>", desc := "(IILjava/util/List;Ljava/util/List;Ljava/util/List;Ljava/util/List;Ljava/util/List;Ljava/util/List;Ljava/util/List;)V" } : Jvm.MethodName) prog_26_method_1_code (10 : Nat) (Option.none : Option Jvm.ClassFile.FieldType)
abbrev C_14 : Jvm.Cond := Jvm.Cond.code ({ cls := "java/lang/Record", name := "<init>", desc := "()V" } : Jvm.MethodName) jdk_30_method_1_code (1 : Nat) (Option.none : Option Jvm.ClassFile.FieldType)
abbrev C_15 : Jvm.Cond := Jvm.Cond.code ({ cls := "java/util/List", name := "copyOf", desc := "(Ljava/util/Collection;)Ljava/util/List;" } : Jvm.MethodName) jdk_40_method_48_code (1 : Nat) (Option.some (Jvm.ClassFile.FieldType.object "java/util/List"))
abbrev C_16 : Jvm.Cond := Jvm.Cond.code ({ cls := "java/util/ImmutableCollections", name := "listCopy", desc := "(Ljava/util/Collection;)Ljava/util/List;" } : Jvm.MethodName) jdk_56_method_3_code (2 : Nat) (Option.some (Jvm.ClassFile.FieldType.object "java/util/List"))
abbrev C_17 : Jvm.Cond := Jvm.Cond.code ({ cls := "java/util/ArrayList", name := "isEmpty", desc := "()Z" } : Jvm.MethodName) jdk_38_method_9_code (1 : Nat) (Option.some Jvm.ClassFile.FieldType.boolean)
abbrev C_18 : Jvm.Cond := Jvm.Cond.code ({ cls := "java/util/List", name := "of", desc := "()Ljava/util/List;" } : Jvm.MethodName) jdk_40_method_36_code (0 : Nat) (Option.some (Jvm.ClassFile.FieldType.object "java/util/List"))
abbrev C_19 : Jvm.Cond := Jvm.Cond.code ({ cls := "java/util/ArrayList", name := "toArray", desc := "()[Ljava/lang/Object;" } : Jvm.MethodName) jdk_38_method_16_code (1 : Nat) (Option.some (Jvm.ClassFile.FieldType.array (Jvm.ClassFile.FieldType.object "java/lang/Object")))
abbrev C_20 : Jvm.Cond := Jvm.Cond.code ({ cls := "java/util/Arrays", name := "copyOf", desc := "([Ljava/lang/Object;I)[Ljava/lang/Object;" } : Jvm.MethodName) jdk_65_method_119_code (2 : Nat) (Option.some (Jvm.ClassFile.FieldType.array (Jvm.ClassFile.FieldType.object "java/lang/Object")))
abbrev C_21 : Jvm.Cond := Jvm.Cond.code ({ cls := "java/util/Arrays", name := "copyOf", desc := "([Ljava/lang/Object;ILjava/lang/Class;)[Ljava/lang/Object;" } : Jvm.MethodName) jdk_65_method_120_code (4 : Nat) (Option.some (Jvm.ClassFile.FieldType.array (Jvm.ClassFile.FieldType.object "java/lang/Object")))
abbrev C_22 : Jvm.Cond := Jvm.Cond.code ({ cls := "java/lang/Math", name := "min", desc := "(II)I" } : Jvm.MethodName) jdk_29_method_69_code (2 : Nat) (Option.some Jvm.ClassFile.FieldType.int)
abbrev C_23 : Jvm.Cond := Jvm.Cond.code ({ cls := "java/util/List", name := "of", desc := "([Ljava/lang/Object;)Ljava/util/List;" } : Jvm.MethodName) jdk_40_method_47_code (2 : Nat) (Option.some (Jvm.ClassFile.FieldType.object "java/util/List"))
abbrev C_24 : Jvm.Cond := Jvm.Cond.code ({ cls := "java/util/ImmutableCollections$List12", name := "<init>", desc := "(Ljava/lang/Object;)V" } : Jvm.MethodName) jdk_44_method_1_code (2 : Nat) (Option.none : Option Jvm.ClassFile.FieldType)
abbrev C_25 : Jvm.Cond := Jvm.Cond.code ({ cls := "java/util/ImmutableCollections$AbstractImmutableList", name := "<init>", desc := "()V" } : Jvm.MethodName) jdk_46_method_1_code (1 : Nat) (Option.none : Option Jvm.ClassFile.FieldType)
abbrev C_26 : Jvm.Cond := Jvm.Cond.code ({ cls := "java/util/ImmutableCollections$AbstractImmutableCollection", name := "<init>", desc := "()V" } : Jvm.MethodName) jdk_47_method_1_code (1 : Nat) (Option.none : Option Jvm.ClassFile.FieldType)
abbrev C_27 : Jvm.Cond := Jvm.Cond.code ({ cls := "java/util/Objects", name := "requireNonNull", desc := "(Ljava/lang/Object;)Ljava/lang/Object;" } : Jvm.MethodName) jdk_31_method_10_code (1 : Nat) (Option.some (Jvm.ClassFile.FieldType.object "java/lang/Object"))
abbrev C_28 : Jvm.Cond := Jvm.Cond.code ({ cls := "com/example/hot_potato/hotpotato/Census", name := "<init>", desc := "(III[Z)V" } : Jvm.MethodName) prog_4_method_1_code (5 : Nat) (Option.none : Option Jvm.ClassFile.FieldType)
abbrev C_29 : Jvm.Cond := Jvm.Cond.code ({ cls := "java/util/TreeMap", name := "<init>", desc := "()V" } : Jvm.MethodName) jdk_2729_method_1_code (1 : Nat) (Option.none : Option Jvm.ClassFile.FieldType)
abbrev C_30 : Jvm.Cond := Jvm.Cond.code ({ cls := "java/util/AbstractMap", name := "<init>", desc := "()V" } : Jvm.MethodName) jdk_71_method_1_code (1 : Nat) (Option.none : Option Jvm.ClassFile.FieldType)
abbrev C_31 : Jvm.Cond := Jvm.Cond.code ({ cls := "java/util/Arrays", name := "fill", desc := "([JJ)V" } : Jvm.MethodName) jdk_65_method_101_code (5 : Nat) (Option.none : Option Jvm.ClassFile.FieldType)
abbrev C_32 : Jvm.Cond := Jvm.Cond.code ({ cls := "com/example/hot_potato/hotpotato/Census", name := "unseen", desc := "()Lcom/example/hot_potato/hotpotato/Message$Probe$Sighting;" } : Jvm.MethodName) prog_4_method_19_code (0 : Nat) (Option.some (Jvm.ClassFile.FieldType.object "com/example/hot_potato/hotpotato/Message$Probe$Sighting"))
abbrev C_33 : Jvm.Cond := Jvm.Cond.code ({ cls := "com/example/hot_potato/hotpotato/Message$Probe$Sighting", name := "<init>", desc := "(IJII)V" } : Jvm.MethodName) prog_29_method_1_code (6 : Nat) (Option.none : Option Jvm.ClassFile.FieldType)
abbrev C_34 : Jvm.Cond := Jvm.Cond.code ({ cls := "java/util/Arrays", name := "fill", desc := "([Ljava/lang/Object;Ljava/lang/Object;)V" } : Jvm.MethodName) jdk_65_method_117_code (4 : Nat) (Option.none : Option Jvm.ClassFile.FieldType)
abbrev C_35 : Jvm.Cond := Jvm.Cond.code ({ cls := "com/example/hot_potato/hotpotato/Census", name := "returned", desc := "(Lcom/example/hot_potato/hotpotato/Message$Probe;Lcom/example/hot_potato/hotpotato/Message$Probe;)V" } : Jvm.MethodName) prog_4_method_5_code (7 : Nat) (Option.none : Option Jvm.ClassFile.FieldType)
abbrev C_36 : Jvm.Cond := Jvm.Cond.code ({ cls := "com/example/hot_potato/hotpotato/Message$Probe", name := "crashed", desc := "()Ljava/util/List;" } : Jvm.MethodName) prog_26_method_12_code (1 : Nat) (Option.some (Jvm.ClassFile.FieldType.object "java/util/List"))
abbrev C_37 : Jvm.Cond := Jvm.Cond.code ({ cls := "java/util/ImmutableCollections$AbstractImmutableList", name := "iterator", desc := "()Ljava/util/Iterator;" } : Jvm.MethodName) jdk_46_method_10_code (1 : Nat) (Option.some (Jvm.ClassFile.FieldType.object "java/util/Iterator"))
abbrev C_38 : Jvm.Cond := Jvm.Cond.code ({ cls := "java/util/ImmutableCollections$ListN", name := "size", desc := "()I" } : Jvm.MethodName) jdk_45_method_3_code (1 : Nat) (Option.some Jvm.ClassFile.FieldType.int)
abbrev C_39 : Jvm.Cond := Jvm.Cond.code ({ cls := "java/util/ImmutableCollections$ListItr", name := "<init>", desc := "(Ljava/util/List;I)V" } : Jvm.MethodName) jdk_53_method_1_code (3 : Nat) (Option.none : Option Jvm.ClassFile.FieldType)
abbrev C_40 : Jvm.Cond := Jvm.Cond.code ({ cls := "java/util/ImmutableCollections$ListItr", name := "hasNext", desc := "()Z" } : Jvm.MethodName) jdk_53_method_3_code (1 : Nat) (Option.some Jvm.ClassFile.FieldType.boolean)
abbrev C_41 : Jvm.Cond := Jvm.Cond.code ({ cls := "com/example/hot_potato/hotpotato/Message$Probe", name := "found", desc := "()Ljava/util/List;" } : Jvm.MethodName) prog_26_method_13_code (1 : Nat) (Option.some (Jvm.ClassFile.FieldType.object "java/util/List"))
abbrev C_42 : Jvm.Cond := Jvm.Cond.code ({ cls := "com/example/hot_potato/hotpotato/Message$Probe", name := "visited", desc := "()Ljava/util/List;" } : Jvm.MethodName) prog_26_method_11_code (1 : Nat) (Option.some (Jvm.ClassFile.FieldType.object "java/util/List"))
abbrev C_43 : Jvm.Cond := Jvm.Cond.code ({ cls := "java/util/ImmutableCollections$List12", name := "size", desc := "()I" } : Jvm.MethodName) jdk_44_method_3_code (1 : Nat) (Option.some Jvm.ClassFile.FieldType.int)
abbrev C_44 : Jvm.Cond := Jvm.Cond.code ({ cls := "java/util/ImmutableCollections$List12", name := "get", desc := "(I)Ljava/lang/Object;" } : Jvm.MethodName) jdk_44_method_5_code (2 : Nat) (Option.some (Jvm.ClassFile.FieldType.object "java/lang/Object"))
abbrev C_45 : Jvm.Cond := Jvm.Cond.code ({ cls := "java/lang/Integer", name := "intValue", desc := "()I" } : Jvm.MethodName) jdk_33_method_27_code (1 : Nat) (Option.some Jvm.ClassFile.FieldType.int)
abbrev C_46 : Jvm.Cond := Jvm.Cond.code ({ cls := "java/util/TreeMap", name := "remove", desc := "(Ljava/lang/Object;)Ljava/lang/Object;" } : Jvm.MethodName) jdk_2729_method_34_code (4 : Nat) (Option.some (Jvm.ClassFile.FieldType.object "java/lang/Object"))
abbrev C_47 : Jvm.Cond := Jvm.Cond.code ({ cls := "java/util/TreeMap", name := "getEntry", desc := "(Ljava/lang/Object;)Ljava/util/TreeMap$Entry;" } : Jvm.MethodName) jdk_2729_method_15_code (5 : Nat) (Option.some (Jvm.ClassFile.FieldType.object "java/util/TreeMap$Entry"))
abbrev C_48 : Jvm.Cond := Jvm.Cond.code ({ cls := "java/util/ArrayList", name := "iterator", desc := "()Ljava/util/Iterator;" } : Jvm.MethodName) jdk_38_method_55_code (1 : Nat) (Option.some (Jvm.ClassFile.FieldType.object "java/util/Iterator"))
abbrev C_49 : Jvm.Cond := Jvm.Cond.code ({ cls := "java/util/ArrayList$Itr", name := "<init>", desc := "(Ljava/util/ArrayList;)V" } : Jvm.MethodName) jdk_49_method_1_code (2 : Nat) (Option.none : Option Jvm.ClassFile.FieldType)
abbrev C_50 : Jvm.Cond := Jvm.Cond.code ({ cls := "java/util/ArrayList$Itr", name := "hasNext", desc := "()Z" } : Jvm.MethodName) jdk_49_method_2_code (1 : Nat) (Option.some Jvm.ClassFile.FieldType.boolean)
abbrev C_51 : Jvm.Cond := Jvm.Cond.code ({ cls := "java/util/ArrayList", name := "clear", desc := "()V" } : Jvm.MethodName) jdk_38_method_40_code (4 : Nat) (Option.none : Option Jvm.ClassFile.FieldType)
abbrev C_52 : Jvm.Cond := Jvm.Cond.code ({ cls := "com/example/hot_potato/hotpotato/Census", name := "takeIn", desc := "(Lcom/example/hot_potato/hotpotato/Message$Probe;)V" } : Jvm.MethodName) prog_4_method_16_code (4 : Nat) (Option.none : Option Jvm.ClassFile.FieldType)
abbrev C_53 : Jvm.Cond := Jvm.Cond.code ({ cls := "com/example/hot_potato/hotpotato/Message$Probe", name := "waiters", desc := "()Ljava/util/List;" } : Jvm.MethodName) prog_26_method_15_code (1 : Nat) (Option.some (Jvm.ClassFile.FieldType.object "java/util/List"))
abbrev C_54 : Jvm.Cond := Jvm.Cond.code ({ cls := "com/example/hot_potato/hotpotato/Message$Probe", name := "queued", desc := "()Ljava/util/List;" } : Jvm.MethodName) prog_26_method_16_code (1 : Nat) (Option.some (Jvm.ClassFile.FieldType.object "java/util/List"))
abbrev C_55 : Jvm.Cond := Jvm.Cond.code ({ cls := "com/example/hot_potato/hotpotato/Census", name := "complete", desc := "()Z" } : Jvm.MethodName) prog_4_method_8_code (2 : Nat) (Option.some Jvm.ClassFile.FieldType.boolean)
abbrev C_56 : Jvm.Cond := Jvm.Cond.code ({ cls := "com/example/hot_potato/hotpotato/CensusCompletePinLaw", name := "fine", desc := "(IIIIIIII)Z" } : Jvm.MethodName) method_3_code (9 : Nat) (Option.some Jvm.ClassFile.FieldType.boolean)
abbrev C_57 : Jvm.Cond := Jvm.Cond.code ({ cls := "com/example/hot_potato/hotpotato/Census", name := "upToDate", desc := "(I)Z" } : Jvm.MethodName) prog_4_method_15_code (2 : Nat) (Option.some Jvm.ClassFile.FieldType.boolean)
abbrev C_58 : Jvm.Cond := Jvm.Cond.code ({ cls := "com/example/hot_potato/hotpotato/Message$Probe$Found", name := "<init>", desc := "(II)V" } : Jvm.MethodName) prog_27_method_1_code (3 : Nat) (Option.none : Option Jvm.ClassFile.FieldType)
abbrev C_59 : Jvm.Cond := Jvm.Cond.code ({ cls := "com/example/hot_potato/hotpotato/Message$Probe$Found", name := "visitedBefore", desc := "()I" } : Jvm.MethodName) prog_27_method_6_code (1 : Nat) (Option.some Jvm.ClassFile.FieldType.int)
abbrev C_60 : Jvm.Cond := Jvm.Cond.code ({ cls := "java/lang/Math", name := "max", desc := "(JJ)J" } : Jvm.MethodName) jdk_29_method_66_code (4 : Nat) (Option.some Jvm.ClassFile.FieldType.long)
abbrev C_61 : Jvm.Cond := Jvm.Cond.code ({ cls := "java/util/ImmutableCollections$List12", name := "<init>", desc := "(Ljava/lang/Object;Ljava/lang/Object;)V" } : Jvm.MethodName) jdk_44_method_2_code (3 : Nat) (Option.none : Option Jvm.ClassFile.FieldType)
abbrev C_62 : Jvm.Cond := Jvm.Cond.code ({ cls := "java/util/ImmutableCollections", name := "listFromArray", desc := "([Ljava/lang/Object;)Ljava/util/List;" } : Jvm.MethodName) jdk_56_method_4_code (3 : Nat) (Option.some (Jvm.ClassFile.FieldType.object "java/util/List"))
abbrev C_63 : Jvm.Cond := Jvm.Cond.code ({ cls := "java/util/ImmutableCollections$ListN", name := "<init>", desc := "([Ljava/lang/Object;Z)V" } : Jvm.MethodName) jdk_45_method_1_code (3 : Nat) (Option.none : Option Jvm.ClassFile.FieldType)
abbrev C_64 : Jvm.Cond := Jvm.Cond.code ({ cls := "java/util/ImmutableCollections$ListN", name := "get", desc := "(I)Ljava/lang/Object;" } : Jvm.MethodName) jdk_45_method_4_code (2 : Nat) (Option.some (Jvm.ClassFile.FieldType.object "java/lang/Object"))
abbrev C_65 : Jvm.Cond := Jvm.Cond.code ({ cls := "com/example/hot_potato/hotpotato/Census", name := "learned", desc := "(I)V" } : Jvm.MethodName) prog_4_method_6_code (2 : Nat) (Option.none : Option Jvm.ClassFile.FieldType)
def mi (a b c : Nat) : MethodInfo := { accessFlags := a, nameIndex := b, descriptorIndex := c, attributes := #[] }
def fi (a b c : Nat) : FieldInfo := { accessFlags := a, nameIndex := b, descriptorIndex := c, attributes := #[] }
def cd (a b : Nat) (c : ByteArray) : Code := { maxStack := a, maxLocals := b, code := c, exceptionTable := #[], attributes := #[] }
def md (n d : String) (ps : List FieldType) (r : Option FieldType) (a : Nat) (c : Option Code) : Method := { name := n, desc := d, sig := { parameters := ps, returnType := r }, accessFlags := a, code := c }
def fd (n : String) (t : FieldType) (a s : Nat) : Field := { name := n, type := t, accessFlags := a, slot := s, constantValue := 0 }
def plain (name : String) (sup : Option ClassId) : Class where
  name := name
  kind := .ordinary
  loader := none
  accessFlags := 33
  super := sup
  interfaces := #[]
  cf := none
  fields := #[]
  methods := #[]
  instanceTypes := #[]
  staticTypes := #[]
  resolved := #[]
  callSites := []
  init := .initialized
  statics := none
  mirror := none
def pool0 : Array CpInfo := pool [(5, u "<init>"), pu "()V", (1, .class_ 10), (1, u s_0), pu "getClass", pu "()Ljava/lang/Class;", (83, u "clone"), pu "()Ljava/lang/Object;"] 26
def k0c0 : Code := cd 0 1 object_method_1_code
def k0m0 : Method := md "<init>" "()V" [] none 1 (some k0c0)
def k0m1 : Method := md "getClass" "()Ljava/lang/Class;" [] (some (.object "java/lang/Class")) 273 none
def k0m2 : Method := md "clone" "()Ljava/lang/Object;" [] (some (.object s_0)) 260 none
def k0 : Class := { plain s_0 none with
  accessFlags := 33
  interfaces := #[]
  cf := some (fileOf pool0 8 #[] #[mi 1 5 6, mi 273 11 12, mi 260 96 97] 33 0 #[] #[])
  fields := #[]
  methods := #[k0m0, k0m1, k0m2]
  instanceTypes := #[]
  staticTypes := #[]
  resolved := Array.replicate 124 none
  statics := none }
def pool1 : Array CpInfo := pool [(2, .class_ 4), pn 5 6, pu s_0, pu "<init>", pu "()V", (0, .integer 2147483647), pm 9 10, pc 11, pn 12 13, pu s_42, pu "count", pu "(I)I", pc 15, pu s_1, pm 14 3, pm 18 19, pc 20, pn 21 22, pu s_4, pu "valueOf", pu "(I)Ljava/lang/Integer;", pm 14 24, pn 25 26, pu "add", pu "(Ljava/lang/Object;)Z", pc 28, pu s_21, pm 27 30, pn 5 31, pu "(II)V", pc 33, pu s_10, pm 9 35, pn 36 37, pu "members", pu "(I)Ljava/util/ArrayList;", pm 32 39, pn 5 40, pu "(IILjava/util/List;Ljava/util/List;Ljava/util/List;Ljava/util/List;Ljava/util/List;Ljava/util/List;Ljava/util/List;)V", pc 42, pu s_5, pm 41 44, pn 5 45, pu "(III[Z)V", pm 41 47, pn 48 49, pu "returned", pu "(Lcom/example/hot_potato/hotpotato/Message$Probe;Lcom/example/hot_potato/hotpotato/Message$Probe;)V", pm 41 51, pn 52 53, pu "learned", pu "(I)V", pm 41 55, pn 56 57, pu "complete", pu "()Z", pm 59 60, pc 61, pn 62 63, pu s_34, pu "max", pu "(II)I", pm 9 65, pn 66 67, pu "fine", pu "(IIIIIIII)Z", (2, u "law"), pu "(IIIIII)Z"] 12
def k1m0 : Method := md "<init>" "()V" [] none 2 none
def k1c1 : Code := cd 12 29 code
def k1m1 : Method := md "law" "(IIIIII)Z" [.int, .int, .int, .int, .int, .int] (some .boolean) 9 (some k1c1)
def k1c2 : Code := cd 5 9 method_3_code
def k1m2 : Method := md "fine" "(IIIIIIII)Z" [.int, .int, .int, .int, .int, .int, .int, .int] (some .boolean) 10 (some k1c2)
def k1c3 : Code := cd 3 1 method_4_code
def k1m3 : Method := md "count" "(I)I" [.int] (some .int) 10 (some k1c3)
def k1c4 : Code := cd 2 2 method_5_code
def k1m4 : Method := md "members" "(I)Ljava/util/ArrayList;" [.int] (some (.object s_1)) 10 (some k1c4)
def k1 : Class := { plain s_42 (some 0) with
  accessFlags := 49
  interfaces := #[]
  cf := some (fileOf pool1 9 #[] #[mi 2 5 6, mi 9 70 71, mi 10 66 67, mi 10 12 13, mi 10 36 37] 49 2 #[] #[])
  fields := #[]
  methods := #[k1m0, k1m1, k1m2, k1m3, k1m4]
  instanceTypes := #[]
  staticTypes := #[]
  resolved := Array.replicate 84 none
  statics := none }
def pool2 : Array CpInfo := pool [(8, .class_ 10), (1, u "java/lang/Iterable"), (24, .class_ 36), pu s_0] 25
def k2 : Class := { plain "java/lang/Iterable" (some 0) with
  accessFlags := 1537
  interfaces := #[]
  cf := some (fileOf pool2 8 #[] #[] 1537 35 #[] #[])
  fields := #[]
  methods := #[]
  instanceTypes := #[]
  staticTypes := #[]
  resolved := Array.replicate 62 none
  statics := none }
def pool3 : Array CpInfo := pool [(10, .class_ 12), (1, u "java/util/Collection"), pu "toArray", (16, u "()Z"), (29, .class_ 61), pu s_0, pc 63, pu "java/lang/Iterable", (2, u "isEmpty"), (3, u "()[Ljava/lang/Object;")] 44
def k3m0 : Method := md "isEmpty" "()Z" [] (some .boolean) 1025 none
def k3m1 : Method := md "toArray" "()[Ljava/lang/Object;" [] (some (.array (.object s_0))) 1025 none
def k3 : Class := { plain "java/util/Collection" (some 0) with
  accessFlags := 1537
  interfaces := #[2]
  cf := some (fileOf pool3 10 #[] #[mi 1025 66 30, mi 1025 13 70] 1537 60 #[62] #[])
  fields := #[]
  methods := #[k3m0, k3m1]
  instanceTypes := #[]
  staticTypes := #[]
  resolved := Array.replicate 115 none
  statics := none }
def pool4 : Array CpInfo := pool [(1, .methodref 2 3), pc 4, pn 5 6, pu s_0, pu "<init>", pu "()V", (1, .class_ 10), (1, u s_41), pu "size", pu "()I", (64, .class_ 78), pu "java/util/Collection"] 81
def k4c0 : Code := cd 1 1 jdk_22_method_1_code
def k4m0 : Method := md "<init>" "()V" [] none 4 (some k4c0)
def k4m1 : Method := md "size" "()I" [] (some .int) 1025 none
def k4 : Class := { plain s_41 (some 0) with
  accessFlags := 1057
  interfaces := #[3]
  cf := some (fileOf pool4 8 #[] #[mi 4 5 6, mi 1025 11 12] 1057 2 #[77] #[])
  fields := #[]
  methods := #[k4m0, k4m1]
  instanceTypes := #[]
  staticTypes := #[]
  resolved := Array.replicate 160 none
  statics := none }
def pool5 : Array CpInfo := pool [(8, .class_ 10), (1, u "java/util/SequencedCollection"), (15, .class_ 27), pu s_0, pc 29, pu "java/util/Collection"] 27
def k5 : Class := { plain "java/util/SequencedCollection" (some 0) with
  accessFlags := 1537
  interfaces := #[3]
  cf := some (fileOf pool5 8 #[] #[] 1537 26 #[28] #[])
  fields := #[]
  methods := #[]
  instanceTypes := #[]
  staticTypes := #[]
  resolved := Array.replicate 57 none
  statics := none }
def pool6 : Array CpInfo := pool [(8, .class_ 10), (1, u s_2), (20, u "(Ljava/lang/Object;)V"), (16, u "<init>"), (11, u "add"), (3, u "(Ljava/lang/Object;)Z"), (7, u "()V"), (2, u "get"), pu "(I)Ljava/lang/Object;", (2, u "size"), pu "()I", (7, u "of"), (1, .fieldref 91 92), pc 93, pn 94 95, pu s_18, pu s_26, pu s_27, pc 97, pu s_13, pm 96 99, pn 48 31, pm 96 101, pn 48 102, pu "(Ljava/lang/Object;Ljava/lang/Object;)V", pc 104, pu s_0, (3, u "([Ljava/lang/Object;)Ljava/util/List;"), pm 91 110, pn 111 108, pu "listFromArray", pm 91 113, pn 114 115, pu "listCopy", pu "(Ljava/util/Collection;)Ljava/util/List;", (3, u "()Ljava/util/List;"), pc 121, pu "java/util/SequencedCollection", (1, u "iterator"), pu "()Ljava/util/Iterator;", (44, u "clear"), (64, u "copyOf")] 16
def k6m0 : Method := md "size" "()I" [] (some .int) 1025 none
def k6m1 : Method := md "iterator" "()Ljava/util/Iterator;" [] (some (.object s_44)) 1025 none
def k6m2 : Method := md "add" "(Ljava/lang/Object;)Z" [(.object s_0)] (some .boolean) 1025 none
def k6m3 : Method := md "clear" "()V" [] none 1025 none
def k6m4 : Method := md "get" "(I)Ljava/lang/Object;" [.int] (some (.object s_0)) 1025 none
def k6c5 : Code := cd 1 0 jdk_40_method_36_code
def k6m5 : Method := md "of" "()Ljava/util/List;" [] (some (.object s_2)) 9 (some k6c5)
def k6c6 : Code := cd 5 2 jdk_40_method_47_code
def k6m6 : Method := md "of" "([Ljava/lang/Object;)Ljava/util/List;" [(.array (.object s_0))] (some (.object s_2)) 137 (some k6c6)
def k6c7 : Code := cd 1 1 jdk_40_method_48_code
def k6m7 : Method := md "copyOf" "(Ljava/util/Collection;)Ljava/util/List;" [(.object "java/util/Collection")] (some (.object s_2)) 9 (some k6c7)
def k6 : Class := { plain s_2 (some 0) with
  accessFlags := 1537
  interfaces := #[5]
  cf := some (fileOf pool6 8 #[] #[mi 1025 79 80, mi 1025 123 124, mi 1025 60 64, mi 1025 169 72, mi 1025 75 76, mi 9 88 119, mi 137 88 108, mi 9 234 115] 1537 103 #[120] #[])
  fields := #[]
  methods := #[k6m0, k6m1, k6m2, k6m3, k6m4, k6m5, k6m6, k6m7]
  instanceTypes := #[]
  staticTypes := #[]
  resolved := Array.replicate 251 none
  statics := none }
def pool7 : Array CpInfo := pool [(1, .methodref 2 3), pc 4, pn 5 6, pu s_41, pu "<init>", pu "()V", pf 8 9, pc 10, pn 11 12, pu s_9, pu s_12, pu "I", (64, .class_ 78), pu "java/util/AbstractList$Itr", (3, .class_ 83), pu "java/util/AbstractList$ListItr", (9, .class_ 94), pu "java/util/AbstractList$RandomAccessSubList", (3, .class_ 99), pu "java/util/AbstractList$SubList", (33, .class_ 134), pu s_2, (73, .class_ 209), pu "java/util/AbstractList$SubList$1", pc 211, pu "java/util/AbstractList$RandomAccessSpliterator"] 6
def k7c0 : Code := cd 2 1 jdk_39_method_1_code
def k7m0 : Method := md "<init>" "()V" [] none 4 (some k7c0)
def k7 : Class := { plain s_9 (some 4) with
  accessFlags := 1057
  interfaces := #[6]
  cf := some (fileOf pool7 8 #[.nestMembers #[93, 98, 208, 210, 82, 77]] #[mi 4 5 6] 1057 2 #[133] #[fi 132 11 12])
  fields := #[fd s_12 .int 132 0]
  methods := #[k7m0]
  instanceTypes := #[.int]
  staticTypes := #[]
  resolved := Array.replicate 218 none
  statics := none }
def pool8 : Array CpInfo := pool [(1, .class_ 2), pu "java/util/RandomAccess", pc 4, pu s_0] 2
def k8 : Class := { plain "java/util/RandomAccess" (some 0) with
  accessFlags := 1537
  interfaces := #[]
  cf := some (fileOf pool8 1 #[] #[] 1537 3 #[] #[])
  fields := #[]
  methods := #[]
  instanceTypes := #[]
  staticTypes := #[]
  resolved := Array.replicate 7 none
  statics := none }
def pool9 : Array CpInfo := pool [(1, .class_ 2), pu "java/lang/Cloneable", pc 4, pu s_0] 2
def k9 : Class := { plain "java/lang/Cloneable" (some 0) with
  accessFlags := 1537
  interfaces := #[]
  cf := some (fileOf pool9 1 #[] #[] 1537 3 #[] #[])
  fields := #[]
  methods := #[]
  instanceTypes := #[]
  staticTypes := #[]
  resolved := Array.replicate 7 none
  statics := none }
def pool10 : Array CpInfo := pool [(1, .class_ 2), pu "java/io/Serializable", pc 4, pu s_0] 2
def k10 : Class := { plain "java/io/Serializable" (some 0) with
  accessFlags := 1537
  interfaces := #[]
  cf := some (fileOf pool10 1 #[] #[] 1537 3 #[] #[])
  fields := #[]
  methods := #[]
  instanceTypes := #[]
  staticTypes := #[]
  resolved := Array.replicate 7 none
  statics := none }
def pool11 : Array CpInfo := pool [(1, .methodref 2 3), pc 4, pn 5 6, pu s_9, pu "<init>", pu "()V", pc 8, pu s_0, pf 10 11, pc 12, pn 13 14, pu s_1, pu s_8, pu s_3, (2, u "EMPTY_ELEMENTDATA"), (21, .fieldref 10 40), pn 41 14, pu s_28, (4, u "toArray"), pu "()[Ljava/lang/Object;", pf 10 49, pn 50 51, pu "size", pu "I", (6, .class_ 60), (1, u s_30), pu "copyOf", (1, .fieldref 10 64), pn 65 51, pu s_12, pm 58 67, pn 61 68, pu "([Ljava/lang/Object;I)[Ljava/lang/Object;", pm 10 70, pn 71 72, pu "grow", pu "(I)[Ljava/lang/Object;", (6, .methodref 80 81), pc 82, pn 83 84, pu s_34, pu "max", pu "(II)I", (11, u "(Ljava/lang/Object;)Z"), (32, .methodref 10 130), pn 71 47, pm 10 132, pn 133 134, pu "add", pu "(Ljava/lang/Object;[Ljava/lang/Object;I)V", (13, .class_ 149), pu s_2, (16, u "iterator"), pu "()Ljava/util/Iterator;", (5, u "()Z"), (88, .class_ 263), pu "java/util/ArrayList$ListItr", (3, .class_ 268), pu s_19, pm 267 270, pn 5 271, pu "(Ljava/util/ArrayList;)V", (4, .class_ 277), pu "java/util/ArrayList$SubList", (12, .class_ 291), pu "java/util/ArrayList$ArrayListSpliterator", (37, .class_ 330), pu "java/util/RandomAccess", pc 332, pu "java/lang/Cloneable", pc 334, pu "java/io/Serializable", pu "serialVersionUID", pu "J", (3, u "DEFAULT_CAPACITY"), (22, u "isEmpty"), (55, u "clear"), (80, .class_ 501), pu "java/util/ArrayList$SubList$2", pc 503, pu "java/util/ArrayList$SubList$1"] 5
def k11c0 : Code := cd 2 1 jdk_38_method_2_code
def k11m0 : Method := md "<init>" "()V" [] none 1 (some k11c0)
def k11c1 : Code := cd 4 4 jdk_38_method_6_code
def k11m1 : Method := md "grow" "(I)[Ljava/lang/Object;" [.int] (some (.array (.object s_0))) 2 (some k11c1)
def k11c2 : Code := cd 3 1 jdk_38_method_7_code
def k11m2 : Method := md "grow" "()[Ljava/lang/Object;" [] (some (.array (.object s_0))) 2 (some k11c2)
def k11c3 : Code := cd 1 1 jdk_38_method_9_code
def k11m3 : Method := md "isEmpty" "()Z" [] (some .boolean) 1 (some k11c3)
def k11c4 : Code := cd 2 1 jdk_38_method_16_code
def k11m4 : Method := md "toArray" "()[Ljava/lang/Object;" [] (some (.array (.object s_0))) 1 (some k11c4)
def k11c5 : Code := cd 3 4 jdk_38_method_24_code
def k11m5 : Method := md "add" "(Ljava/lang/Object;[Ljava/lang/Object;I)V" [(.object s_0), (.array (.object s_0)), .int] none 2 (some k11c5)
def k11c6 : Code := cd 4 2 jdk_38_method_25_code
def k11m6 : Method := md "add" "(Ljava/lang/Object;)Z" [(.object s_0)] (some .boolean) 1 (some k11c6)
def k11c7 : Code := cd 3 4 jdk_38_method_40_code
def k11m7 : Method := md "clear" "()V" [] none 1 (some k11c7)
def k11c8 : Code := cd 3 1 jdk_38_method_55_code
def k11m8 : Method := md "iterator" "()Ljava/util/Iterator;" [] (some (.object s_44)) 1 (some k11c8)
def k11 : Class := { plain s_1 (some 7) with
  accessFlags := 33
  interfaces := #[6, 8, 9, 10]
  cf := some (fileOf pool11 10 #[.nestMembers #[290, 276, 500, 502, 262, 267]] #[mi 1 5 6, mi 2 71 72, mi 2 71 47, mi 1 363 173, mi 1 46 47, mi 2 133 134, mi 1 133 96, mi 1 419 6, mi 1 166 167] 33 2 #[148, 329, 331, 333] #[fi 26 335 336, fi 26 340 51, fi 26 17 14, fi 26 41 14, fi 128 13 14, fi 2 50 51])
  fields := #[fd "serialVersionUID" .long 26 0, fd "DEFAULT_CAPACITY" .int 26 1, fd "EMPTY_ELEMENTDATA" (.array (.object s_0)) 26 2, fd s_28 (.array (.object s_0)) 26 3, fd s_8 (.array (.object s_0)) 128 1, fd "size" .int 2 2]
  methods := #[k11m0, k11m1, k11m2, k11m3, k11m4, k11m5, k11m6, k11m7, k11m8]
  instanceTypes := #[.int, (.array (.object s_0)), .int]
  staticTypes := #[.long, .int, (.array (.object s_0)), (.array (.object s_0))]
  resolved := Array.replicate 509 none
  statics := some 0 }
def pool12 : Array CpInfo := pool [(1, .methodref 2 3), pc 4, pn 5 6, pu s_0, pu "<init>", pu "()V", pc 8, pu "java/lang/Record"] 13
def k12c0 : Code := cd 1 1 jdk_30_method_1_code
def k12m0 : Method := md "<init>" "()V" [] none 4 (some k12c0)
def k12 : Class := { plain "java/lang/Record" (some 0) with
  accessFlags := 1057
  interfaces := #[]
  cf := some (fileOf pool12 7 #[] #[mi 4 5 6] 1057 2 #[] #[])
  fields := #[]
  methods := #[k12m0]
  instanceTypes := #[]
  staticTypes := #[]
  resolved := Array.replicate 22 none
  statics := none }
def pool13 : Array CpInfo := pool [(7, .class_ 8), pu "com/example/hot_potato/hotpotato/Message", pc 10, pu s_0, pu "HEADER_WORDS", pu "I", (14, .class_ 28), pu "com/example/hot_potato/hotpotato/Message$Reply", pc 30, pu "com/example/hot_potato/hotpotato/Message$PermissionRequest", pc 32, pu "com/example/hot_potato/hotpotato/Message$Ping", pc 34, pu s_10, pc 36, pu "com/example/hot_potato/hotpotato/Message$Probe$Queued", pc 38, pu "com/example/hot_potato/hotpotato/Message$Probe$Waiter", pc 40, pu s_15, pc 42, pu s_21, pc 44, pu "com/example/hot_potato/hotpotato/Message$Check", pc 46, pu "com/example/hot_potato/hotpotato/Message$Inform", pc 48, pu "com/example/hot_potato/hotpotato/Message$Token", pc 50, pu "com/example/hot_potato/hotpotato/Message$Request", pc 52, pu "com/example/hot_potato/hotpotato/Message$Kind"] 15
def k13 : Class := { plain "com/example/hot_potato/hotpotato/Message" (some 0) with
  accessFlags := 1536
  interfaces := #[]
  cf := some (fileOf pool13 7 #[.nestMembers #[27, 29, 31, 33, 35, 37, 39, 41, 43, 45, 47, 49, 51]] #[] 1536 9 #[] #[fi 25 11 12])
  fields := #[fd "HEADER_WORDS" .int 25 0]
  methods := #[]
  instanceTypes := #[]
  staticTypes := #[.int]
  resolved := Array.replicate 68 none
  statics := none }
def pool14 : Array CpInfo := pool [(4, .nameAndType 5 6), pu "<init>", pu "()V", (6, .class_ 15), (1, u s_2), (2, .class_ 19), pu s_10, (3, u "()Ljava/util/List;"), (2, u "(IILjava/util/List;Ljava/util/List;Ljava/util/List;Ljava/util/List;Ljava/util/List;Ljava/util/List;Ljava/util/List;)V"), pm 28 4, pc 29, pu "java/lang/Record", (0, .interfaceMethodref 13 31), pn 32 33, pu "copyOf", pu "(Ljava/util/Collection;)Ljava/util/List;", pf 18 35, pn 36 37, pu "round", pu "I", pf 18 39, pn 40 37, pu "coordinator", pf 18 42, pn 43 44, pu "toVisit", pu s_11, pf 18 46, pn 47 44, pu "visited", pf 18 49, pn 50 44, pu "crashed", pf 18 52, pn 53 44, pu "found", pf 18 55, pn 56 44, pu "latest", pf 18 58, pn 59 44, pu "waiters", pf 18 61, pn 62 44, pu "queued", (6, .class_ 70), pu "com/example/hot_potato/hotpotato/Message"] 80
def k14c0 : Code := cd 2 10 prog_26_method_1_code
def k14m0 : Method := md "<init>" "(IILjava/util/List;Ljava/util/List;Ljava/util/List;Ljava/util/List;Ljava/util/List;Ljava/util/List;Ljava/util/List;)V" [.int, .int, (.object s_2), (.object s_2), (.object s_2), (.object s_2), (.object s_2), (.object s_2), (.object s_2)] none 1 (some k14c0)
def k14c1 : Code := cd 1 1 prog_26_method_11_code
def k14m1 : Method := md "visited" "()Ljava/util/List;" [] (some (.object s_2)) 1 (some k14c1)
def k14c2 : Code := cd 1 1 prog_26_method_12_code
def k14m2 : Method := md "crashed" "()Ljava/util/List;" [] (some (.object s_2)) 1 (some k14c2)
def k14c3 : Code := cd 1 1 prog_26_method_13_code
def k14m3 : Method := md "found" "()Ljava/util/List;" [] (some (.object s_2)) 1 (some k14c3)
def k14c4 : Code := cd 1 1 prog_26_method_15_code
def k14m4 : Method := md "waiters" "()Ljava/util/List;" [] (some (.object s_2)) 1 (some k14c4)
def k14c5 : Code := cd 1 1 prog_26_method_16_code
def k14m5 : Method := md "queued" "()Ljava/util/List;" [] (some (.object s_2)) 1 (some k14c5)
def k14 : Class := { plain s_10 (some 12) with
  accessFlags := 49
  interfaces := #[13]
  cf := some (fileOf pool14 18 #[.nestHost 69] #[mi 1 5 26, mi 1 47 23, mi 1 50 23, mi 1 53 23, mi 1 59 23, mi 1 62 23] 49 28 #[69] #[fi 18 36 37, fi 18 40 37, fi 18 43 44, fi 18 47 44, fi 18 50 44, fi 18 53 44, fi 18 56 44, fi 18 59 44, fi 18 62 44])
  fields := #[fd "round" .int 18 0, fd "coordinator" .int 18 1, fd "toVisit" (.object s_2) 18 2, fd "visited" (.object s_2) 18 3, fd "crashed" (.object s_2) 18 4, fd "found" (.object s_2) 18 5, fd "latest" (.object s_2) 18 6, fd "waiters" (.object s_2) 18 7, fd "queued" (.object s_2) 18 8]
  methods := #[k14m0, k14m1, k14m2, k14m3, k14m4, k14m5]
  instanceTypes := #[.int, .int, (.object s_2), (.object s_2), (.object s_2), (.object s_2), (.object s_2), (.object s_2), (.object s_2)]
  staticTypes := #[]
  resolved := Array.replicate 151 none
  statics := none }
def pool15 : Array CpInfo := pool [(2, .class_ 4), (1, u s_0), pu "<init>", pu "()V", (1, .class_ 10), (1, u "java/lang/Number"), (2, .class_ 14), pu "java/io/Serializable", pu "serialVersionUID", pu "J"] 20
def k15m0 : Method := md "<init>" "()V" [] none 1 none
def k15 : Class := { plain "java/lang/Number" (some 0) with
  accessFlags := 1057
  interfaces := #[10]
  cf := some (fileOf pool15 8 #[] #[mi 1 5 6] 1057 2 #[13] #[fi 26 15 16])
  fields := #[fd "serialVersionUID" .long 26 0]
  methods := #[k15m0]
  instanceTypes := #[]
  staticTypes := #[.long]
  resolved := Array.replicate 37 none
  statics := none }
def pool16 : Array CpInfo := pool [(1, .class_ 2), pu "java/lang/Comparable", pc 4, pu s_0] 7
def k16 : Class := { plain "java/lang/Comparable" (some 0) with
  accessFlags := 1537
  interfaces := #[]
  cf := some (fileOf pool16 1 #[] #[] 1537 3 #[] #[])
  fields := #[]
  methods := #[]
  instanceTypes := #[]
  staticTypes := #[]
  resolved := Array.replicate 12 none
  statics := none }
def pool17 : Array CpInfo := pool [(1, .class_ 2), pu "java/lang/constant/Constable", pc 4, pu s_0] 6
def k17 : Class := { plain "java/lang/constant/Constable" (some 0) with
  accessFlags := 1537
  interfaces := #[]
  cf := some (fileOf pool17 1 #[] #[] 1537 3 #[] #[])
  fields := #[]
  methods := #[]
  instanceTypes := #[]
  staticTypes := #[]
  resolved := Array.replicate 11 none
  statics := none }
def pool18 : Array CpInfo := pool [(1, .class_ 2), pu "java/lang/constant/ConstantDesc", pc 4, pu s_0] 32
def k18 : Class := { plain "java/lang/constant/ConstantDesc" (some 0) with
  accessFlags := 1537
  interfaces := #[]
  cf := some (fileOf pool18 1 #[] #[] 1537 3 #[] #[])
  fields := #[]
  methods := #[]
  instanceTypes := #[]
  staticTypes := #[]
  resolved := Array.replicate 37 none
  statics := none }
def pool19 : Array CpInfo := pool [(1, .class_ 2), pu s_4, (16, u "digits"), pu "[C", (64, u "DigitOnes"), pu "[B", (2, u "DigitTens"), (31, u "()I"), (65, u "valueOf"), pu "(I)Ljava/lang/Integer;", pc 190, pu s_31, pf 189 192, pn 193 194, pu "high", pu "I", pf 189 196, pn 197 198, pu "cache", pu s_40, (4, .class_ 204), pu "java/lang/Number", pf 1 206, pn 207 194, pu "value", (5, u "intValue"), (88, u "TYPE"), pu "Ljava/lang/Class;", pc 305, pu "java/lang/Comparable", pc 307, pu "java/lang/constant/Constable", pc 309, pu "java/lang/constant/ConstantDesc", pu "MIN_VALUE", (1, u "MAX_VALUE"), (3, u "SIZE"), (1, u "BYTES"), (1, u "serialVersionUID"), pu "J"] 131
def k19c0 : Code := cd 3 1 jdk_33_method_22_code
def k19m0 : Method := md "valueOf" "(I)Ljava/lang/Integer;" [.int] (some (.object s_4)) 9 (some k19c0)
def k19c1 : Code := cd 1 1 jdk_33_method_27_code
def k19m1 : Method := md "intValue" "()I" [] (some .int) 1 (some k19c1)
def k19 : Class := { plain s_4 (some 15) with
  accessFlags := 49
  interfaces := #[16, 17, 18]
  cf := some (fileOf pool19 1 #[.nestMembers #[189]] #[mi 9 187 188, mi 1 213 121] 49 203 #[304, 306, 308] #[fi 25 310 194, fi 25 312 194, fi 25 302 303, fi 24 19 20, fi 24 89 86, fi 24 85 86, fi 18 207 194, fi 25 316 194, fi 25 318 194, fi 26 320 321])
  fields := #[fd "MIN_VALUE" .int 25 0, fd "MAX_VALUE" .int 25 1, fd "TYPE" (.object "java/lang/Class") 25 2, fd "digits" (.array .char) 24 3, fd "DigitTens" (.array .byte) 24 4, fd "DigitOnes" (.array .byte) 24 5, fd "value" .int 18 0, fd "SIZE" .int 25 6, fd "BYTES" .int 25 7, fd "serialVersionUID" .long 26 8]
  methods := #[k19m0, k19m1]
  instanceTypes := #[.int]
  staticTypes := #[.int, .int, (.object "java/lang/Class"), (.array .char), (.array .byte), (.array .byte), .int, .int, .long]
  resolved := Array.replicate 453 none
  statics := none }
def pool20 : Array CpInfo := pool [(2, .class_ 4), (1, u s_0), pu "<init>", pu "()V", pc 8, pu s_4, (7, .class_ 18), (1, u s_31), pu "$assertionsDisabled", pu "Z", (26, u "high"), pu "I", (8, u "archivedCache"), pu s_40, (12, u "cache"), pu "low"] 27
def k20m0 : Method := md "<init>" "()V" [] none 2 none
def k20 : Class := { plain s_31 (some 0) with
  accessFlags := 48
  interfaces := #[]
  cf := some (fileOf pool20 16 #[.nestHost 7] #[mi 2 5 6] 48 2 #[] #[fi 24 72 48, fi 24 47 48, fi 24 71 58, fi 8 57 58, fi 4120 19 20])
  fields := #[fd "low" .int 24 0, fd "high" .int 24 1, fd "cache" (.array (.object s_4)) 24 2, fd "archivedCache" (.array (.object s_4)) 8 3, fd "$assertionsDisabled" .boolean 4120 4]
  methods := #[k20m0]
  instanceTypes := #[]
  staticTypes := #[.int, .int, (.array (.object s_4)), (.array (.object s_4)), .boolean]
  resolved := Array.replicate 100 none
  statics := some 1 }
def pool21 : Array CpInfo := pool [(1, .class_ 2), pu s_34, (1, .class_ 6), (1, u s_0), pu "<init>", pu "()V", (89, .class_ 100), (1, u "java/lang/Math$RandomNumberGeneratorHolder"), (20, u "(JJ)J"), (50, u "negativeZeroFloatBits"), pu "J", (2, u "negativeZeroDoubleBits"), (21, u "max"), (2, u "min"), (43, u "$assertionsDisabled"), pu "Z", (88, u "(II)I"), (2, u "twoToTheDoubleScaleDown"), pu "D", (4, u "twoToTheDoubleScaleUp"), (9, u "E"), (3, u "PI"), (2, u "TAU"), (2, u "DEGREES_TO_RADIANS"), pu "RADIANS_TO_DEGREES"] 94
def k21m0 : Method := md "<init>" "()V" [] none 2 none
def k21c1 : Code := cd 2 2 jdk_29_method_65_code
def k21m1 : Method := md "max" "(II)I" [.int, .int] (some .int) 9 (some k21c1)
def k21c2 : Code := cd 4 4 jdk_29_method_66_code
def k21m2 : Method := md "max" "(JJ)J" [.long, .long] (some .long) 9 (some k21c2)
def k21c3 : Code := cd 2 2 jdk_29_method_69_code
def k21m3 : Method := md "min" "(II)I" [.int, .int] (some .int) 9 (some k21c3)
def k21 : Class := { plain s_34 (some 0) with
  accessFlags := 49
  interfaces := #[]
  cf := some (fileOf pool21 1 #[.nestMembers #[98]] #[mi 2 7 8, mi 9 198 335, mi 9 198 121, mi 9 201 335] 49 4 #[] #[fi 25 354 339, fi 25 358 339, fi 25 361 339, fi 26 364 339, fi 26 365 339, fi 26 172 173, fi 26 176 173, fi 8 344 339, fi 8 338 339, fi 4120 245 246])
  fields := #[fd "E" .double 25 0, fd "PI" .double 25 1, fd "TAU" .double 25 2, fd "DEGREES_TO_RADIANS" .double 26 3, fd "RADIANS_TO_DEGREES" .double 26 4, fd "negativeZeroFloatBits" .long 26 5, fd "negativeZeroDoubleBits" .long 26 6, fd "twoToTheDoubleScaleUp" .double 8 7, fd "twoToTheDoubleScaleDown" .double 8 8, fd "$assertionsDisabled" .boolean 4120 9]
  methods := #[k21m0, k21m1, k21m2, k21m3]
  instanceTypes := #[]
  staticTypes := #[.double, .double, .double, .double, .double, .long, .long, .double, .double, .boolean]
  resolved := Array.replicate 460 none
  statics := none }
def pool22 : Array CpInfo := pool [(2, .class_ 4), (1, u s_0), pu "<init>", pu "()V", (3, .class_ 11), pu s_13, pc 13, pu s_16, (3, u "Z"), pc 19, pu s_2, (0, .interfaceMethodref 21 22), pc 23, pn 24 25, pu "java/util/Collection", pu "isEmpty", pu "()Z", (0, .interfaceMethodref 18 27), pn 28 29, pu "of", pu "()Ljava/util/List;", (0, .interfaceMethodref 21 31), pn 32 33, pu "toArray", pu "()[Ljava/lang/Object;", (0, .interfaceMethodref 18 35), pn 28 36, pu "([Ljava/lang/Object;)Ljava/util/List;", pm 38 39, pc 40, pn 41 42, pu "java/util/Objects", pu "requireNonNull", pu "(Ljava/lang/Object;)Ljava/lang/Object;", pm 12 44, pn 5 45, pu "([Ljava/lang/Object;Z)V", (1, .class_ 49), (1, u s_18), pu "$assertionsDisabled", (5, u s_3), (5, u s_26), pu s_27, (8, u "EMPTY_LIST_NULLS"), (22, u "SALT32L"), pu "J", (2, u "REVERSE"), (6, u "archivedObjects"), (2, u "EMPTY"), pu s_17, pc 112, pu "java/util/ImmutableCollections$SetN", (5, u "EMPTY_SET"), pu "Ljava/util/ImmutableCollections$SetN;", pc 121, pu "java/util/ImmutableCollections$MapN", (3, u "EMPTY_MAP"), pu "Ljava/util/ImmutableCollections$MapN;", (4, u "EXPAND_FACTOR"), pu "I", (9, u "listCopy"), pu "(Ljava/util/Collection;)Ljava/util/List;", (7, u "listFromArray"), (17, .class_ 170), pu "java/util/ImmutableCollections$MapN$MapNIterator", pc 172, pu "java/util/ImmutableCollections$MapN$1", pc 174, pu "java/util/ImmutableCollections$Map1", pc 176, pu "java/util/ImmutableCollections$AbstractImmutableMap", pc 178, pu "java/util/ImmutableCollections$SetN$SetNIterator", pc 180, pu "java/util/ImmutableCollections$Set12", pc 182, pu "java/util/ImmutableCollections$Set12$1", pc 184, pu "java/util/ImmutableCollections$AbstractImmutableSet", pc 186, pu "java/util/ImmutableCollections$SubList", pc 188, pu s_6, pc 190, pu s_45, pc 192, pu "java/util/ImmutableCollections$AbstractImmutableCollection", pc 194, pu "java/util/ImmutableCollections$Access", pc 196, pu "java/util/ImmutableCollections$Access$1"] 16
def k22m0 : Method := md "<init>" "()V" [] none 2 none
def k22c1 : Code := cd 1 2 jdk_56_method_3_code
def k22m1 : Method := md "listCopy" "(Ljava/util/Collection;)Ljava/util/List;" [(.object "java/util/Collection")] (some (.object s_2)) 8 (some k22c1)
def k22c2 : Code := cd 4 3 jdk_56_method_4_code
def k22m2 : Method := md "listFromArray" "([Ljava/lang/Object;)Ljava/util/List;" [(.array (.object s_0))] (some (.object s_2)) 136 (some k22c2)
def k22 : Class := { plain s_18 (some 0) with
  accessFlags := 32
  interfaces := #[]
  cf := some (fileOf pool22 47 #[.nestMembers #[120, 169, 171, 173, 175, 111, 177, 179, 181, 183, 12, 10, 185, 187, 189, 191, 193, 195]] #[mi 2 5 6, mi 8 142 143, mi 136 151 36] 32 2 #[] #[fi 26 95 96, fi 26 99 17, fi 10 106 56, fi 26 109 110, fi 24 62 63, fi 24 72 63, fi 24 118 119, fi 24 125 126, fi 24 131 132, fi 4120 50 17])
  fields := #[fd "SALT32L" .long 26 0, fd "REVERSE" .boolean 26 1, fd "archivedObjects" (.array (.object s_0)) 10 2, fd "EMPTY" (.object s_0) 26 3, fd s_26 (.object s_16) 24 4, fd "EMPTY_LIST_NULLS" (.object s_16) 24 5, fd "EMPTY_SET" (.object "java/util/ImmutableCollections$SetN") 24 6, fd "EMPTY_MAP" (.object "java/util/ImmutableCollections$MapN") 24 7, fd "EXPAND_FACTOR" .int 24 8, fd "$assertionsDisabled" .boolean 4120 9]
  methods := #[k22m0, k22m1, k22m2]
  instanceTypes := #[]
  staticTypes := #[.long, .boolean, (.array (.object s_0)), (.object s_0), (.object s_16), (.object s_16), (.object "java/util/ImmutableCollections$SetN"), (.object "java/util/ImmutableCollections$MapN"), .int, .boolean]
  resolved := Array.replicate 213 none
  statics := some 2 }
def pool23 : Array CpInfo := pool [(1, .methodref 2 3), pc 4, pn 5 6, pu s_41, pu "<init>", pu "()V", (1, .class_ 10), (1, u s_18), (2, .class_ 14), pu "java/util/ImmutableCollections$AbstractImmutableCollection"] 41
def k23c0 : Code := cd 1 1 jdk_47_method_1_code
def k23m0 : Method := md "<init>" "()V" [] none 0 (some k23c0)
def k23 : Class := { plain "java/util/ImmutableCollections$AbstractImmutableCollection" (some 4) with
  accessFlags := 1056
  interfaces := #[]
  cf := some (fileOf pool23 13 #[.nestHost 8] #[mi 0 5 6] 1056 2 #[] #[])
  fields := #[]
  methods := #[k23m0]
  instanceTypes := #[]
  staticTypes := #[]
  resolved := Array.replicate 56 none
  statics := none }
def pool24 : Array CpInfo := pool [(1, .methodref 2 3), pc 4, pn 5 6, pu "java/util/ImmutableCollections$AbstractImmutableCollection", pu "<init>", pu "()V", (1, .class_ 10), (1, u s_18), (2, .methodref 14 15), pc 16, pn 17 18, pu s_45, pu "size", pu "()I", (42, .class_ 62), pu s_6, pm 61 64, pn 5 65, pu "(Ljava/util/List;I)V", (11, .class_ 78), pu s_2, (2, u "iterator"), pu "()Ljava/util/Iterator;", (41, .class_ 125), pu "java/util/RandomAccess"] 70
def k24c0 : Code := cd 1 1 jdk_46_method_1_code
def k24m0 : Method := md "<init>" "()V" [] none 0 (some k24c0)
def k24c1 : Code := cd 4 1 jdk_46_method_10_code
def k24m1 : Method := md "iterator" "()Ljava/util/Iterator;" [] (some (.object s_44)) 1 (some k24c1)
def k24 : Class := { plain s_45 (some 23) with
  accessFlags := 1056
  interfaces := #[6, 8]
  cf := some (fileOf pool24 14 #[.nestHost 8] #[mi 0 5 6, mi 1 81 82] 1056 2 #[77, 124] #[])
  fields := #[]
  methods := #[k24m0, k24m1]
  instanceTypes := #[]
  staticTypes := #[]
  resolved := Array.replicate 196 none
  statics := none }
def pool25 : Array CpInfo := pool [(1, .methodref 2 3), pc 4, pn 5 6, pu s_45, pu "<init>", pu "()V", pm 8 9, pc 10, pn 11 12, pu "java/util/Objects", pu "requireNonNull", pu "(Ljava/lang/Object;)Ljava/lang/Object;", pf 14 15, pc 16, pn 17 18, pu s_13, pu "e0", pu s_17, pf 20 21, pc 22, pn 23 18, pu s_18, pu "EMPTY", pf 14 25, pn 26 18, pu "e1", (24, u "size"), pu "()I", (17, .class_ 71), pu "java/io/Serializable", (4, u "(Ljava/lang/Object;)V"), (8, u "(Ljava/lang/Object;Ljava/lang/Object;)V"), (4, u "get"), pu "(I)Ljava/lang/Object;"] 33
def k25c0 : Code := cd 2 2 jdk_44_method_1_code
def k25m0 : Method := md "<init>" "(Ljava/lang/Object;)V" [(.object s_0)] none 0 (some k25c0)
def k25c1 : Code := cd 2 3 jdk_44_method_2_code
def k25m1 : Method := md "<init>" "(Ljava/lang/Object;Ljava/lang/Object;)V" [(.object s_0), (.object s_0)] none 0 (some k25c1)
def k25c2 : Code := cd 2 1 jdk_44_method_3_code
def k25m2 : Method := md "size" "()I" [] (some .int) 1 (some k25c2)
def k25c3 : Code := cd 2 2 jdk_44_method_5_code
def k25m3 : Method := md "get" "(I)Ljava/lang/Object;" [.int] (some (.object s_0)) 1 (some k25c3)
def k25 : Class := { plain s_13 (some 24) with
  accessFlags := 48
  interfaces := #[10]
  cf := some (fileOf pool25 14 #[.nestHost 20] #[mi 0 5 76, mi 0 5 85, mi 1 51 52, mi 1 90 91] 48 2 #[70] #[fi 18 17 18, fi 18 26 18])
  fields := #[fd "e0" (.object s_0) 18 0, fd "e1" (.object s_0) 18 1]
  methods := #[k25m0, k25m1, k25m2, k25m3]
  instanceTypes := #[(.object s_0), (.object s_0)]
  staticTypes := #[]
  resolved := Array.replicate 125 none
  statics := none }
def pool26 : Array CpInfo := pool [(1, .methodref 2 3), pc 4, pn 5 6, pu s_45, pu "<init>", pu "()V", pf 8 9, pc 10, pn 11 12, pu s_16, pu s_20, pu s_3, pf 8 14, pn 15 16, pu s_29, pu "Z", (42, .class_ 60), pu "java/io/Serializable", (4, u "([Ljava/lang/Object;Z)V"), (11, u "size"), pu "()I", pu "get", pu "(I)Ljava/lang/Object;", (33, .class_ 115), pu s_18] 3
def k26c0 : Code := cd 2 3 jdk_45_method_1_code
def k26m0 : Method := md "<init>" "([Ljava/lang/Object;Z)V" [(.array (.object s_0)), .boolean] none 2 (some k26c0)
def k26c1 : Code := cd 1 1 jdk_45_method_3_code
def k26m1 : Method := md "size" "()I" [] (some .int) 1 (some k26c1)
def k26c2 : Code := cd 2 2 jdk_45_method_4_code
def k26m2 : Method := md "get" "(I)Ljava/lang/Object;" [.int] (some (.object s_0)) 1 (some k26c2)
def k26 : Class := { plain s_16 (some 24) with
  accessFlags := 48
  interfaces := #[10]
  cf := some (fileOf pool26 8 #[.nestHost 114] #[mi 2 5 65, mi 1 77 78, mi 1 79 80] 48 2 #[59] #[fi 18 11 12, fi 18 15 16])
  fields := #[fd s_20 (.array (.object s_0)) 18 0, fd s_29 .boolean 18 1]
  methods := #[k26m0, k26m1, k26m2]
  instanceTypes := #[(.array (.object s_0)), .boolean]
  staticTypes := #[]
  resolved := Array.replicate 119 none
  statics := none }
def pool27 : Array CpInfo := pool [(2, .class_ 4), (1, u s_0), pu "<init>", pu "()V", (7, .class_ 16), (1, u s_30), (57, .class_ 76), (1, u "java/util/Arrays$NaturalOrder"), (9, .methodref 2 87), pn 88 89, pu "getClass", pu "()Ljava/lang/Class;", (20, .class_ 111), pu s_3, (1, .class_ 115), (1, u "java/util/Arrays$LegacyMergeSort"), (1, u "Z"), (32, .methodref 151 152), pc 153, pn 154 155, pu "java/lang/System", pu "arraycopy", pu "(Ljava/lang/Object;ILjava/lang/Object;II)V", (144, .methodref 14 301), pn 302 303, pu "copyOf", pu "([Ljava/lang/Object;ILjava/lang/Class;)[Ljava/lang/Object;", pm 305 306, pc 307, pn 308 309, pu s_34, pu "min", pu "(II)I", (65, .class_ 376), pu "java/util/Arrays$ArrayList", (68, u "$assertionsDisabled"), (269, u "MIN_ARRAY_SORT_GRAN"), pu "I", (2, u "INSERTIONSORT_THRESHOLD"), (120, u "fill"), pu "([JJ)V", (16, u "([Ljava/lang/Object;Ljava/lang/Object;)V"), (1, u "([Ljava/lang/Object;I)[Ljava/lang/Object;"), (114, .class_ 976), pu "java/util/Arrays$ArrayItr"] 52
def k27m0 : Method := md "<init>" "()V" [] none 2 none
def k27c1 : Code := cd 4 5 jdk_65_method_101_code
def k27m1 : Method := md "fill" "([JJ)V" [(.array .long), .long] none 9 (some k27c1)
def k27c2 : Code := cd 3 4 jdk_65_method_117_code
def k27m2 : Method := md "fill" "([Ljava/lang/Object;Ljava/lang/Object;)V" [(.array (.object s_0)), (.object s_0)] none 9 (some k27c2)
def k27c3 : Code := cd 3 2 jdk_65_method_119_code
def k27m3 : Method := md "copyOf" "([Ljava/lang/Object;I)[Ljava/lang/Object;" [(.array (.object s_0)), .int] (some (.array (.object s_0))) 9 (some k27c3)
def k27c4 : Code := cd 6 4 jdk_65_method_120_code
def k27m4 : Method := md "copyOf" "([Ljava/lang/Object;ILjava/lang/Class;)[Ljava/lang/Object;" [(.array (.object s_0)), .int, (.object "java/lang/Class")] (some (.array (.object s_0))) 9 (some k27c4)
def k27 : Class := { plain s_30 (some 0) with
  accessFlags := 49
  interfaces := #[]
  cf := some (fileOf pool27 14 #[.nestMembers #[975, 375, 113, 74]] #[mi 2 5 6, mi 9 840 841, mi 9 840 858, mi 9 302 860, mi 9 302 303] 49 2 #[] #[fi 26 715 716, fi 26 719 716, fi 4120 445 117])
  fields := #[fd "MIN_ARRAY_SORT_GRAN" .int 26 0, fd "INSERTIONSORT_THRESHOLD" .int 26 1, fd "$assertionsDisabled" .boolean 4120 2]
  methods := #[k27m0, k27m1, k27m2, k27m3, k27m4]
  instanceTypes := #[]
  staticTypes := #[.int, .int, .boolean]
  resolved := Array.replicate 1029 none
  statics := none }
def pool28 : Array CpInfo := pool [(2, .class_ 4), (1, u s_0), pu "<init>", pu "()V", (1, .class_ 10), (1, u "java/lang/System"), pu "allowSecurityManager", pu "I", (16, u "cons"), pu "Ljava/io/Console;", (77, .class_ 110), (1, u "java/lang/System$CallersHolder"), (43, u "initialErrStream"), pu "Ljava/io/PrintStream;", (19, u "security"), pu "Ljava/lang/SecurityManager;", (31, .class_ 209), pu "java/lang/System$1", (7, u "props"), pu "Ljava/util/Properties;", (2, u "lineSeparator"), pu "Ljava/lang/String;", (96, .class_ 321), (1, u "java/lang/System$LoggerFinder"), (5, .class_ 328), pu "java/lang/System$Logger", (67, u "err"), (2, u "out"), (91, u "notSupportedJnuEncoding"), (15, u "in"), (17, u "initialIn"), pu "Ljava/io/InputStream;", (35, u "bootLayer"), pu "Ljava/lang/ModuleLayer;", (99, .class_ 664), pu "java/lang/System$2", (9, u "NEVER"), (2, u "MAYBE"), (49, u "arraycopy"), pu "(Ljava/lang/Object;ILjava/lang/Object;II)V", (72, .class_ 802), pu "java/lang/System$Logger$Level"] 31
def k28m0 : Method := md "<init>" "()V" [] none 2 none
def k28m1 : Method := md "arraycopy" "(Ljava/lang/Object;ILjava/lang/Object;II)V" [(.object s_0), .int, (.object s_0), .int, .int] none 265 none
def k28 : Class := { plain "java/lang/System" (some 0) with
  accessFlags := 49
  interfaces := #[]
  cf := some (fileOf pool28 8 #[.nestMembers #[319, 327, 801, 108, 663, 208]] #[mi 2 5 6, mi 265 727 728] 49 2 #[] #[fi 25 507 526, fi 25 399 155, fi 25 396 155, fi 10 525 526, fi 26 674 12, fi 26 677 12, fi 10 11 12, fi 74 175 176, fi 10 491 222, fi 74 29 30, fi 74 154 155, fi 10 217 218, fi 10 221 222, fi 8 562 563])
  fields := #[fd "in" (.object "java/io/InputStream") 25 0, fd "out" (.object "java/io/PrintStream") 25 1, fd "err" (.object "java/io/PrintStream") 25 2, fd "initialIn" (.object "java/io/InputStream") 10 3, fd "NEVER" .int 26 4, fd "MAYBE" .int 26 5, fd "allowSecurityManager" .int 10 6, fd "security" (.object "java/lang/SecurityManager") 74 7, fd "notSupportedJnuEncoding" (.object "java/lang/String") 10 8, fd "cons" (.object "java/io/Console") 74 9, fd "initialErrStream" (.object "java/io/PrintStream") 74 10, fd "props" (.object "java/util/Properties") 10 11, fd "lineSeparator" (.object "java/lang/String") 10 12, fd "bootLayer" (.object "java/lang/ModuleLayer") 8 13]
  methods := #[k28m0, k28m1]
  instanceTypes := #[]
  staticTypes := #[(.object "java/io/InputStream"), (.object "java/io/PrintStream"), (.object "java/io/PrintStream"), (.object "java/io/InputStream"), .int, .int, .int, (.object "java/lang/SecurityManager"), (.object "java/lang/String"), (.object "java/io/Console"), (.object "java/io/PrintStream"), (.object "java/util/Properties"), (.object "java/lang/String"), (.object "java/lang/ModuleLayer")]
  resolved := Array.replicate 834 none
  statics := none }
def pool29 : Array CpInfo := pool [(2, .class_ 4), (1, u s_0), pu "<init>", pu "()V", (35, .class_ 44), (1, u "java/util/Objects"), pu "requireNonNull", pu "(Ljava/lang/Object;)Ljava/lang/Object;"] 137
def k29m0 : Method := md "<init>" "()V" [] none 2 none
def k29c1 : Code := cd 2 1 jdk_31_method_10_code
def k29m1 : Method := md "requireNonNull" "(Ljava/lang/Object;)Ljava/lang/Object;" [(.object s_0)] (some (.object s_0)) 9 (some k29c1)
def k29 : Class := { plain "java/util/Objects" (some 0) with
  accessFlags := 49
  interfaces := #[]
  cf := some (fileOf pool29 42 #[] #[mi 2 5 6, mi 9 45 46] 49 2 #[] #[])
  fields := #[]
  methods := #[k29m0, k29m1]
  instanceTypes := #[]
  staticTypes := #[]
  resolved := Array.replicate 184 none
  statics := none }
def pool30 : Array CpInfo := pool [(1, .methodref 2 3), pc 4, pn 5 6, pu s_0, pu "<init>", pu "()V", pc 8, pu s_14, pm 7 3, pf 11 12, pc 13, pn 14 15, pu s_5, pu "waiters", pu s_25, pf 11 17, pn 18 15, pu "queued", pc 20, pu s_1, pm 19 3, pf 11 23, pn 24 25, pu "suspecting", pu s_11, pf 11 27, pn 28 25, pu s_36, pf 11 30, pn 31 32, pu "nodes", pu "I", pf 11 34, pn 35 32, pu "tokens", pf 11 37, pn 38 32, pu "self", pm 40 41, pc 42, pn 43 44, pu "[Z", pu "clone", pu "()Ljava/lang/Object;", pf 11 46, pn 47 42, pu "crashed", pf 11 49, pn 50 51, pu "visitedAt", pu "[J", (0, .long 18446744073709551615), (1, .methodref 55 56), pc 57, pn 58 59, pu s_30, pu "fill", pu "([JJ)V", pc 61, pu s_15, pf 11 63, pn 64 65, pu "latest", pu s_46, pm 11 67, pn 68 69, pu "unseen", pu "()Lcom/example/hot_potato/hotpotato/Message$Probe$Sighting;", pm 55 71, pn 58 72, pu "([Ljava/lang/Object;Ljava/lang/Object;)V", (2, u "round"), pf 11 77, pn 78 79, pu "onItsWay", pu "Z", pm 11 81, pn 82 83, pu "upToDate", pu "(I)Z", pm 85 86, pc 87, pn 88 89, pu s_4, pu "valueOf", pu "(I)Ljava/lang/Integer;", (0, .interfaceMethodref 91 92), pc 93, pn 94 95, pu s_2, pu "add", pu "(Ljava/lang/Object;)Z", (3, u "()Ljava/util/List;"), (1, .class_ 103), (1, u s_10), (2, .methodref 101 107), pn 47 99, (0, .interfaceMethodref 91 109), pn 110 111, pu "iterator", pu "()Ljava/util/Iterator;", (0, .interfaceMethodref 113 114), pc 115, pn 116 117, pu s_44, pu "hasNext", pu "()Z", (0, .interfaceMethodref 113 119), pn 120 44, pu "next", pm 85 122, pn 123 124, pu "intValue", pu "()I", pf 11 126, pn 127 128, pu "visits", pu "J", pm 101 130, pn 131 99, pu "found", pc 133, pu s_21, pf 11 135, pn 136 128, pu s_37, pm 132 138, pn 139 124, pu s_38, pm 141 142, pc 143, pn 144 145, pu s_34, pu "max", pu "(JJ)J", pm 101 147, pn 148 99, pu "visited", (0, .interfaceMethodref 91 150), pn 151 124, pu "size", (0, .interfaceMethodref 91 153), pn 154 155, pu "get", pu "(I)Ljava/lang/Object;", (0, .interfaceMethodref 157 158), pc 159, pn 160 161, pu s_7, pu "remove", pu "(Ljava/lang/Object;)Ljava/lang/Object;", (3, .interfaceMethodref 91 166), pn 167 6, pu "clear", pm 11 169, pn 170 171, pu "takeIn", pu "(Lcom/example/hot_potato/hotpotato/Message$Probe;)V", (14, .class_ 188), (1, u "com/example/hot_potato/hotpotato/Census$Fate"), (11, .class_ 201), pu "com/example/hot_potato/hotpotato/Census$Verdict", (22, .class_ 225), pu "com/example/hot_potato/hotpotato/Census$Lost", (47, .methodref 101 274), pn 14 99, (7, .methodref 101 283), pn 18 99, (18, .methodref 60 303), pn 5 304, pu "(IJII)V", pu "NONE", (6, u "(III[Z)V"), (5, u "returned"), pu "(Lcom/example/hot_potato/hotpotato/Message$Probe;Lcom/example/hot_potato/hotpotato/Message$Probe;)V", pu "learned", pu "(I)V", (1, u "complete")] 44
def k30c0 : Code := cd 3 5 prog_4_method_1_code
def k30m0 : Method := md "<init>" "(III[Z)V" [.int, .int, .int, (.array .boolean)] none 0 (some k30c0)
def k30c1 : Code := cd 7 7 prog_4_method_5_code
def k30m1 : Method := md "returned" "(Lcom/example/hot_potato/hotpotato/Message$Probe;Lcom/example/hot_potato/hotpotato/Message$Probe;)V" [(.object s_10), (.object s_10)] none 0 (some k30c1)
def k30c2 : Code := cd 3 2 prog_4_method_6_code
def k30m2 : Method := md "learned" "(I)V" [.int] none 0 (some k30c2)
def k30c3 : Code := cd 2 2 prog_4_method_8_code
def k30m3 : Method := md "complete" "()Z" [] (some .boolean) 0 (some k30c3)
def k30c4 : Code := cd 4 2 prog_4_method_15_code
def k30m4 : Method := md "upToDate" "(I)Z" [.int] (some .boolean) 2 (some k30c4)
def k30c5 : Code := cd 3 4 prog_4_method_16_code
def k30m5 : Method := md "takeIn" "(Lcom/example/hot_potato/hotpotato/Message$Probe;)V" [(.object s_10)] none 2 (some k30c5)
def k30c6 : Code := cd 7 0 prog_4_method_19_code
def k30m6 : Method := md "unseen" "()Lcom/example/hot_potato/hotpotato/Message$Probe$Sighting;" [] (some (.object s_15)) 10 (some k30c6)
def k30 : Class := { plain s_5 (some 0) with
  accessFlags := 48
  interfaces := #[]
  cf := some (fileOf pool30 11 #[.nestMembers #[224, 200, 186]] #[mi 0 5 312, mi 0 318 319, mi 0 320 321, mi 0 323 117, mi 2 82 83, mi 2 170 171, mi 10 68 69] 48 2 #[] #[fi 26 305 32, fi 18 31 32, fi 18 35 32, fi 18 38 32, fi 18 47 42, fi 18 50 51, fi 18 64 65, fi 18 14 15, fi 18 18 15, fi 18 24 25, fi 2 127 128, fi 2 136 128, fi 18 28 25, fi 2 75 32, fi 2 78 79])
  fields := #[fd "NONE" .int 26 0, fd "nodes" .int 18 0, fd "tokens" .int 18 1, fd "self" .int 18 2, fd "crashed" (.array .boolean) 18 3, fd "visitedAt" (.array .long) 18 4, fd "latest" (.array (.object s_15)) 18 5, fd "waiters" (.object s_7) 18 6, fd "queued" (.object s_7) 18 7, fd "suspecting" (.object s_2) 18 8, fd "visits" .long 2 9, fd s_37 .long 2 10, fd s_36 (.object s_2) 18 11, fd "round" .int 2 12, fd "onItsWay" .boolean 2 13]
  methods := #[k30m0, k30m1, k30m2, k30m3, k30m4, k30m5, k30m6]
  instanceTypes := #[.int, .int, .int, (.array .boolean), (.array .long), (.array (.object s_15)), (.object s_7), (.object s_7), (.object s_2), .long, .long, (.object s_2), .int, .boolean]
  staticTypes := #[.int]
  resolved := Array.replicate 368 none
  statics := none }
def pool31 : Array CpInfo := pool [(2, .class_ 4), (1, u s_7), (1, u "(Ljava/lang/Object;)Ljava/lang/Object;"), (29, .class_ 37), pu "java/util/Map$Entry", (38, u "remove"), (16, .class_ 94), pu s_0] 168
def k31m0 : Method := md "remove" "(Ljava/lang/Object;)Ljava/lang/Object;" [(.object s_0)] (some (.object s_0)) 1025 none
def k31 : Class := { plain s_7 (some 0) with
  accessFlags := 1537
  interfaces := #[]
  cf := some (fileOf pool31 2 #[.nestMembers #[36]] #[mi 1025 76 6] 1537 93 #[] #[])
  fields := #[]
  methods := #[k31m0]
  instanceTypes := #[]
  staticTypes := #[]
  resolved := Array.replicate 263 none
  statics := none }
def pool32 : Array CpInfo := pool [(1, .methodref 2 3), pc 4, pn 5 6, pu s_0, pu "<init>", pu "()V", (1, .class_ 10), (1, u "java/util/AbstractMap"), (42, .class_ 54), pu s_7, (9, u "keySet"), pu "Ljava/util/Set;", pc 67, pu "java/util/AbstractMap$1", (5, u "values"), pu "Ljava/util/Collection;", pc 76, pu "java/util/AbstractMap$2", (104, .class_ 182), pu "java/util/AbstractMap$ViewCollection", pc 184, pu "java/util/AbstractMap$SimpleImmutableEntry", pc 186, pu "java/util/AbstractMap$SimpleEntry", pc 188, pu "java/util/AbstractMap$2$1", pc 190, pu "java/util/AbstractMap$1$1"] 5
def k32c0 : Code := cd 1 1 jdk_71_method_1_code
def k32m0 : Method := md "<init>" "()V" [] none 4 (some k32c0)
def k32 : Class := { plain "java/util/AbstractMap" (some 0) with
  accessFlags := 1057
  interfaces := #[31]
  cf := some (fileOf pool32 8 #[.nestMembers #[181, 183, 185, 75, 187, 66, 189]] #[mi 4 5 6] 1057 2 #[53] #[fi 128 64 65, fi 128 73 74])
  fields := #[fd "keySet" (.object "java/util/Set") 128 0, fd "values" (.object "java/util/Collection") 128 1]
  methods := #[k32m0]
  instanceTypes := #[(.object "java/util/Set"), (.object "java/util/Collection")]
  staticTypes := #[]
  resolved := Array.replicate 196 none
  statics := none }
def pool33 : Array CpInfo := pool [(2, .class_ 4), (1, u "java/util/SequencedMap"), (38, .class_ 44), pu "java/util/SequencedMap$1SeqKeySet", (3, .class_ 49), pu "java/util/SequencedMap$1SeqValues", (1, .class_ 52), pu "java/util/SequencedMap$1SeqEntrySet", (1, .class_ 55), pu s_0, pc 57, pu s_7] 48
def k33 : Class := { plain "java/util/SequencedMap" (some 0) with
  accessFlags := 1537
  interfaces := #[31]
  cf := some (fileOf pool33 2 #[.nestMembers #[51, 48, 43]] #[] 1537 54 #[56] #[])
  fields := #[]
  methods := #[]
  instanceTypes := #[]
  staticTypes := #[]
  resolved := Array.replicate 106 none
  statics := none }
def pool34 : Array CpInfo := pool [(14, .class_ 16), (1, u "java/util/SortedMap"), (2, .class_ 20), pu s_0, pc 22, pu "java/util/SequencedMap"] 50
def k34 : Class := { plain "java/util/SortedMap" (some 0) with
  accessFlags := 1537
  interfaces := #[33]
  cf := some (fileOf pool34 14 #[] #[] 1537 19 #[21] #[])
  fields := #[]
  methods := #[]
  instanceTypes := #[]
  staticTypes := #[]
  resolved := Array.replicate 73 none
  statics := none }
def pool35 : Array CpInfo := pool [(2, .class_ 4), (1, u "java/util/NavigableMap"), (5, .class_ 11), pu s_0, pc 13, pu "java/util/SortedMap"] 53
def k35 : Class := { plain "java/util/NavigableMap" (some 0) with
  accessFlags := 1537
  interfaces := #[34]
  cf := some (fileOf pool35 2 #[] #[] 1537 10 #[12] #[])
  fields := #[]
  methods := #[]
  instanceTypes := #[]
  staticTypes := #[]
  resolved := Array.replicate 67 none
  statics := none }
def pool36 : Array CpInfo := pool [(1, .methodref 2 3), pc 4, pn 5 6, pu "java/util/AbstractMap", pu "<init>", pu "()V", pf 8 9, pc 10, pn 11 12, pu s_14, pu "size", pu "I", pf 8 14, pn 15 12, pu s_12, pf 8 17, pn 18 19, pu s_22, pu s_23, (14, u "entrySet"), (15, .methodref 8 51), pn 52 53, pu "getEntry", pu "(Ljava/lang/Object;)Ljava/util/TreeMap$Entry;", (5, .class_ 61), (1, u s_35), (1, u s_17), (22, .class_ 88), (1, u "java/util/Objects"), (6, .methodref 86 96), pn 97 98, pu "requireNonNull", pu "(Ljava/lang/Object;)Ljava/lang/Object;", pc 100, pu "java/lang/Comparable", pf 8 102, pn 103 104, pu "root", pu s_24, (85, u "Ljava/util/TreeMap$EntrySet;"), (2, u "navigableKeySet"), pu "Ljava/util/TreeMap$KeySet;", (2, u "descendingMap"), pu "Ljava/util/NavigableMap;", (23, .class_ 223), pu "java/util/TreeMap$KeySet", (7, .class_ 232), pu "java/util/NavigableMap", (4, .class_ 238), pu "java/util/TreeMap$Values", (3, .class_ 243), pu "java/util/TreeMap$EntrySet", (1, .class_ 246), pu "java/util/TreeMap$DescendingSubMap", (3, .class_ 251), pu "java/util/TreeMap$AscendingSubMap", (17, .class_ 270), pu "java/util/TreeMap$KeyIterator", (3, .class_ 275), pu "java/util/TreeMap$DescendingKeyIterator", (17, u "Z"), (94, .class_ 389), pu "java/util/TreeMap$NavigableSubMap", (1, .class_ 392), pu "java/util/TreeMap$KeySpliterator", (3, .class_ 397), pu "java/util/TreeMap$DescendingKeySpliterator", (4, u "UNBOUNDED"), pc 404, pu "java/lang/Cloneable", pc 406, pu "java/io/Serializable", (6, u "RED"), (2, u "BLACK"), (1, u "serialVersionUID"), pu "J", (75, u "remove"), (138, .class_ 635), pu "java/util/TreeMap$EntrySpliterator", pc 637, pu "java/util/TreeMap$ValueSpliterator", pc 639, pu "java/util/TreeMap$TreeMapSpliterator", pc 641, pu "java/util/TreeMap$SubMap", pc 643, pu "java/util/TreeMap$DescendingSubMap$DescendingEntrySetView", pc 645, pu "java/util/TreeMap$AscendingSubMap$AscendingEntrySetView", pc 647, pu "java/util/TreeMap$NavigableSubMap$DescendingSubMapKeyIterator", pc 649, pu "java/util/TreeMap$NavigableSubMap$SubMapKeyIterator", pc 651, pu "java/util/TreeMap$NavigableSubMap$DescendingSubMapEntryIterator", pc 653, pu "java/util/TreeMap$NavigableSubMap$SubMapEntryIterator", pc 655, pu "java/util/TreeMap$NavigableSubMap$SubMapIterator", pc 657, pu "java/util/TreeMap$NavigableSubMap$EntrySetView", pc 659, pu "java/util/TreeMap$ValueIterator", pc 661, pu "java/util/TreeMap$EntryIterator", pc 663, pu "java/util/TreeMap$PrivateEntryIterator"] 28
def k36c0 : Code := cd 2 1 jdk_2729_method_1_code
def k36m0 : Method := md "<init>" "()V" [] none 1 (some k36c0)
def k36c1 : Code := cd 2 5 jdk_2729_method_15_code
def k36m1 : Method := md "getEntry" "(Ljava/lang/Object;)Ljava/util/TreeMap$Entry;" [(.object s_0)] (some (.object s_35)) 16 (some k36c1)
def k36c2 : Code := cd 2 4 jdk_2729_method_34_code
def k36m2 : Method := md "remove" "(Ljava/lang/Object;)Ljava/lang/Object;" [(.object s_0)] (some (.object s_0)) 1 (some k36c2)
def k36 : Class := { plain s_14 (some 32) with
  accessFlags := 33
  interfaces := #[35, 9, 10]
  cf := some (fileOf pool36 8 #[.nestMembers #[634, 636, 396, 391, 638, 59, 640, 245, 642, 250, 644, 388, 646, 648, 650, 652, 654, 656, 274, 269, 658, 660, 662, 222, 242, 237]] #[mi 1 5 6, mi 16 52 53, mi 1 495 98] 33 2 #[231, 403, 405] #[fi 18 18 19, fi 130 103 104, fi 130 11 12, fi 130 15 12, fi 130 34 190, fi 130 193 194, fi 130 197 198, fi 26 402 63, fi 26 413 293, fi 26 416 293, fi 26 418 419])
  fields := #[fd s_22 (.object s_32) 18 2, fd "root" (.object s_35) 130 3, fd "size" .int 130 4, fd s_12 .int 130 5, fd "entrySet" (.object "java/util/TreeMap$EntrySet") 130 6, fd "navigableKeySet" (.object "java/util/TreeMap$KeySet") 130 7, fd "descendingMap" (.object "java/util/NavigableMap") 130 8, fd "UNBOUNDED" (.object s_0) 26 0, fd "RED" .boolean 26 1, fd "BLACK" .boolean 26 2, fd "serialVersionUID" .long 26 3]
  methods := #[k36m0, k36m1, k36m2]
  instanceTypes := #[(.object "java/util/Set"), (.object "java/util/Collection"), (.object s_32), (.object s_35), .int, .int, (.object "java/util/TreeMap$EntrySet"), (.object "java/util/TreeMap$KeySet"), (.object "java/util/NavigableMap")]
  staticTypes := #[(.object s_0), .boolean, .boolean, .long]
  resolved := Array.replicate 692 none
  statics := none }
def pool37 : Array CpInfo := pool [(1, .methodref 2 3), pc 4, pn 5 6, pu "java/lang/Record", pu "<init>", pu "()V", pf 8 9, pc 10, pn 11 12, pu s_15, pu "generation", pu "I", pf 8 14, pn 15 16, pu "hop", pu "J", pf 8 18, pn 19 12, pu "at", pf 8 21, pn 22 12, pu "passedTo", (12, u "UNSEEN"), (2, u "(IJII)V"), (13, .class_ 53), pu "com/example/hot_potato/hotpotato/Message"] 25
def k37c0 : Code := cd 3 6 prog_29_method_1_code
def k37m0 : Method := md "<init>" "(IJII)V" [.int, .long, .int, .int] none 0 (some k37c0)
def k37 : Class := { plain s_15 (some 12) with
  accessFlags := 48
  interfaces := #[]
  cf := some (fileOf pool37 8 #[.nestHost 52] #[mi 0 5 38] 48 2 #[] #[fi 18 11 12, fi 18 15 16, fi 18 19 12, fi 18 22 12, fi 24 35 12])
  fields := #[fd "generation" .int 18 0, fd "hop" .long 18 1, fd "at" .int 18 2, fd "passedTo" .int 18 3, fd "UNSEEN" .int 24 0]
  methods := #[k37m0]
  instanceTypes := #[.int, .long, .int, .int]
  staticTypes := #[.int]
  resolved := Array.replicate 79 none
  statics := none }
def pool38 : Array CpInfo := pool [(16, .class_ 18), (1, u s_44), pu "hasNext", pu "()Z", (2, u "next"), pu "()Ljava/lang/Object;", (6, .class_ 32), pu s_0] 20
def k38m0 : Method := md "hasNext" "()Z" [] (some .boolean) 1025 none
def k38m1 : Method := md "next" "()Ljava/lang/Object;" [] (some (.object s_0)) 1025 none
def k38 : Class := { plain s_44 (some 0) with
  accessFlags := 1537
  interfaces := #[]
  cf := some (fileOf pool38 16 #[] #[mi 1025 19 20, mi 1025 23 24] 1537 31 #[] #[])
  fields := #[]
  methods := #[k38m0, k38m1]
  instanceTypes := #[]
  staticTypes := #[]
  resolved := Array.replicate 53 none
  statics := none }
def pool39 : Array CpInfo := pool [(1, .class_ 2), pu "java/util/ListIterator", pc 4, pu s_0, pc 6, pu s_44] 20
def k39 : Class := { plain "java/util/ListIterator" (some 0) with
  accessFlags := 1537
  interfaces := #[38]
  cf := some (fileOf pool39 1 #[] #[] 1537 3 #[5] #[])
  fields := #[]
  methods := #[]
  instanceTypes := #[]
  staticTypes := #[]
  resolved := Array.replicate 27 none
  statics := none }
def pool40 : Array CpInfo := pool [(1, .methodref 2 3), pc 4, pn 5 6, pu s_0, pu "<init>", pu "()V", pf 8 9, pc 10, pn 11 12, pu s_6, pu "list", pu s_11, pf 8 14, pn 15 16, pu "size", pu "I", pf 8 18, pn 19 16, pu "cursor", pf 8 21, pn 22 23, pu s_33, pu "Z", (0, .interfaceMethodref 25 26), pc 27, pn 28 29, pu s_2, pu "get", pu "(I)Ljava/lang/Object;", (6, .class_ 38), (1, u s_18), (2, .class_ 42), pu "java/util/ListIterator", (4, u "(Ljava/util/List;I)V"), (11, u "hasNext"), pu "()Z", (1, u "next"), pu "()Ljava/lang/Object;"] 22
def k40c0 : Code := cd 2 3 jdk_53_method_1_code
def k40m0 : Method := md "<init>" "(Ljava/util/List;I)V" [(.object s_2), .int] none 0 (some k40c0)
def k40c1 : Code := cd 2 1 jdk_53_method_3_code
def k40m1 : Method := md "hasNext" "()Z" [] (some .boolean) 1 (some k40c1)
def k40c2 : Code := { maxStack := 3, maxLocals := 3, code := jdk_53_method_4_code, exceptionTable := #[{ startPc := 0, endPc := 24, handlerPc := 25, catchType := 30 }], attributes := #[] }
def k40m2 : Method := md "next" "()Ljava/lang/Object;" [] (some (.object s_0)) 1 (some k40c2)
def k40 : Class := { plain s_6 (some 0) with
  accessFlags := 48
  interfaces := #[39]
  cf := some (fileOf pool40 8 #[.nestHost 36] #[mi 0 5 47, mi 1 59 60, mi 1 62 63] 48 2 #[41] #[fi 18 11 12, fi 18 15 16, fi 18 22 23, fi 2 19 16])
  fields := #[fd "list" (.object s_2) 18 0, fd "size" .int 18 1, fd s_33 .boolean 18 2, fd "cursor" .int 2 3]
  methods := #[k40m0, k40m1, k40m2]
  instanceTypes := #[(.object s_2), .int, .boolean, .int]
  staticTypes := #[]
  resolved := Array.replicate 86 none
  statics := none }
def pool41 : Array CpInfo := pool [(1, .fieldref 2 3), pc 4, pn 5 6, pu s_19, pu "this$0", pu s_39, pm 8 9, pc 10, pn 11 12, pu s_0, pu "<init>", pu "()V", pf 2 14, pn 15 16, pu "lastRet", pu "I", pf 18 19, pc 20, pn 21 16, pu s_1, pu s_12, pf 2 23, pn 24 16, pu s_43, pf 2 26, pn 27 16, pu "cursor", pf 18 29, pn 30 16, pu "size", (38, .class_ 70), pu s_44, pu "(Ljava/util/ArrayList;)V", (8, u "hasNext"), pu "()Z"] 22
def k41c0 : Code := cd 2 2 jdk_49_method_1_code
def k41m0 : Method := md "<init>" "(Ljava/util/ArrayList;)V" [(.object s_1)] none 0 (some k41c0)
def k41c1 : Code := cd 2 1 jdk_49_method_2_code
def k41m1 : Method := md "hasNext" "()Z" [] (some .boolean) 1 (some k41c1)
def k41 : Class := { plain s_19 (some 0) with
  accessFlags := 32
  interfaces := #[38]
  cf := some (fileOf pool41 2 #[.nestHost 18] #[mi 0 11 71, mi 1 80 81] 32 8 #[69] #[fi 0 27 16, fi 0 15 16, fi 0 24 16, fi 4112 5 6])
  fields := #[fd "cursor" .int 0 0, fd "lastRet" .int 0 1, fd s_43 .int 0 2, fd "this$0" (.object s_1) 4112 3]
  methods := #[k41m0, k41m1]
  instanceTypes := #[.int, .int, .int, (.object s_1)]
  staticTypes := #[]
  resolved := Array.replicate 104 none
  statics := none }
def pool42 : Array CpInfo := pool [(1, .methodref 2 3), pc 4, pn 5 6, pu "java/lang/Record", pu "<init>", pu "()V", pf 8 9, pc 10, pn 11 12, pu s_21, pu "member", pu "I", pf 8 14, pn 15 12, pu s_38, (12, u "(II)V"), (4, u "()I"), (4, .class_ 39), pu "com/example/hot_potato/hotpotato/Message"] 23
def k42c0 : Code := cd 2 3 prog_27_method_1_code
def k42m0 : Method := md "<init>" "(II)V" [.int, .int] none 0 (some k42c0)
def k42c1 : Code := cd 1 1 prog_27_method_6_code
def k42m1 : Method := md s_38 "()I" [] (some .int) 1 (some k42c1)
def k42 : Class := { plain s_21 (some 12) with
  accessFlags := 48
  interfaces := #[]
  cf := some (fileOf pool42 8 #[.nestHost 38] #[mi 0 5 28, mi 1 15 33] 48 2 #[] #[fi 18 11 12, fi 18 15 12])
  fields := #[fd "member" .int 18 0, fd s_38 .int 18 1]
  methods := #[k42m0, k42m1]
  instanceTypes := #[.int, .int]
  staticTypes := #[]
  resolved := Array.replicate 63 none
  statics := none }
def pool43 : Array CpInfo := pool [(1, u "java/lang/Class"), pc 1, pu s_0, pc 3] 3
def k43 : Class := { plain "java/lang/Class" (some 0) with
  accessFlags := 49
  interfaces := #[]
  cf := some (fileOf pool43 2 #[] #[] 49 4 #[] #[])
  fields := #[]
  methods := #[]
  instanceTypes := #[]
  staticTypes := #[]
  resolved := Array.replicate 8 none
  statics := none }
def k44 : Class := { plain "boolean" none with kind := .primitive 'Z', accessFlags := 0x411 }
def k45 : Class := { plain "[Z" (some 0) with kind := .array 44 .boolean, interfaces := #[9, 10], accessFlags := 1041 }
def k46 : Class := { plain "byte" none with kind := .primitive 'B', accessFlags := 0x411 }
def k47 : Class := { plain "[B" (some 0) with kind := .array 46 .byte, interfaces := #[9, 10], accessFlags := 1041 }
def k48 : Class := { plain "int" none with kind := .primitive 'I', accessFlags := 0x411 }
def k49 : Class := { plain "[I" (some 0) with kind := .array 48 .int, interfaces := #[9, 10], accessFlags := 1041 }
def k50 : Class := { plain "long" none with kind := .primitive 'J', accessFlags := 0x411 }
def k51 : Class := { plain "[J" (some 0) with kind := .array 50 .long, interfaces := #[9, 10], accessFlags := 1041 }
def k52 : Class := { plain s_46 (some 0) with kind := .array 37 (.object s_15), interfaces := #[9, 10], accessFlags := 1041 }
def k53 : Class := { plain s_40 (some 0) with kind := .array 19 (.object s_4), interfaces := #[9, 10], accessFlags := 1041 }
def k54 : Class := { plain s_3 (some 0) with kind := .array 0 (.object s_0), interfaces := #[9, 10], accessFlags := 1041, mirror := some 3 }
def heap : Heap := #[{ cls := 11, slots := #[.long 0, .int 0, .ref 263, .ref 264], vm := .statics 11 },
  { cls := 20, slots := #[.int 0, .int 127, .ref 4, .null, .int 0], vm := .statics 20 },
  { cls := 22, slots := #[.long 0, .int 0, .null, .ref 265, .ref 262, .null, .null, .null, .int 0, .int 1], vm := .statics 22 },
  { cls := 43, slots := #[], vm := .mirror 54 },
  { cls := 53, slots := #[.ref 6, .ref 7, .ref 8, .ref 9, .ref 10, .ref 11, .ref 12, .ref 13, .ref 14, .ref 15, .ref 16, .ref 17, .ref 18, .ref 19, .ref 20, .ref 21, .ref 22, .ref 23, .ref 24, .ref 25, .ref 26, .ref 27, .ref 28, .ref 29, .ref 30, .ref 31, .ref 32, .ref 33, .ref 34, .ref 35, .ref 36, .ref 37, .ref 38, .ref 39, .ref 40, .ref 41, .ref 42, .ref 43, .ref 44, .ref 45, .ref 46, .ref 47, .ref 48, .ref 49, .ref 50, .ref 51, .ref 52, .ref 53, .ref 54, .ref 55, .ref 56, .ref 57, .ref 58, .ref 59, .ref 60, .ref 61, .ref 62, .ref 63, .ref 64, .ref 65, .ref 66, .ref 67, .ref 68, .ref 69, .ref 70, .ref 71, .ref 72, .ref 73, .ref 74, .ref 75, .ref 76, .ref 77, .ref 78, .ref 79, .ref 80, .ref 81, .ref 82, .ref 83, .ref 84, .ref 85, .ref 86, .ref 87, .ref 88, .ref 89, .ref 90, .ref 91, .ref 92, .ref 93, .ref 94, .ref 95, .ref 96, .ref 97, .ref 98, .ref 99, .ref 100, .ref 101, .ref 102, .ref 103, .ref 104, .ref 105, .ref 106, .ref 107, .ref 108, .ref 109, .ref 110, .ref 111, .ref 112, .ref 113, .ref 114, .ref 115, .ref 116, .ref 117, .ref 118, .ref 119, .ref 120, .ref 121, .ref 122, .ref 123, .ref 124, .ref 125, .ref 126, .ref 127, .ref 128, .ref 129, .ref 130, .ref 131, .ref 132, .ref 133, .ref 134, .ref 135, .ref 136, .ref 137, .ref 138, .ref 139, .ref 140, .ref 141, .ref 142, .ref 143, .ref 144, .ref 145, .ref 146, .ref 147, .ref 148, .ref 149, .ref 150, .ref 151, .ref 152, .ref 153, .ref 154, .ref 155, .ref 156, .ref 157, .ref 158, .ref 159, .ref 160, .ref 161, .ref 162, .ref 163, .ref 164, .ref 165, .ref 166, .ref 167, .ref 168, .ref 169, .ref 170, .ref 171, .ref 172, .ref 173, .ref 174, .ref 175, .ref 176, .ref 177, .ref 178, .ref 179, .ref 180, .ref 181, .ref 182, .ref 183, .ref 184, .ref 185, .ref 186, .ref 187, .ref 188, .ref 189, .ref 190, .ref 191, .ref 192, .ref 193, .ref 194, .ref 195, .ref 196, .ref 197, .ref 198, .ref 199, .ref 200, .ref 201, .ref 202, .ref 203, .ref 204, .ref 205, .ref 206, .ref 207, .ref 208, .ref 209, .ref 210, .ref 211, .ref 212, .ref 213, .ref 214, .ref 215, .ref 216, .ref 217, .ref 218, .ref 219, .ref 220, .ref 221, .ref 222, .ref 223, .ref 224, .ref 225, .ref 226, .ref 227, .ref 228, .ref 229, .ref 230, .ref 231, .ref 232, .ref 233, .ref 234, .ref 235, .ref 236, .ref 237, .ref 238, .ref 239, .ref 240, .ref 241, .ref 242, .ref 243, .ref 244, .ref 245, .ref 246, .ref 247, .ref 248, .ref 249, .ref 250, .ref 251, .ref 252, .ref 253, .ref 254, .ref 255, .ref 256, .ref 257, .ref 258, .ref 259, .ref 260, .ref 261], vm := .none },
  { cls := 54, slots := #[], vm := .none },
  ic (-128),
  ic (-127),
  ic (-126),
  ic (-125),
  ic (-124),
  ic (-123),
  ic (-122),
  ic (-121),
  ic (-120),
  ic (-119),
  ic (-118),
  ic (-117),
  ic (-116),
  ic (-115),
  ic (-114),
  ic (-113),
  ic (-112),
  ic (-111),
  ic (-110),
  ic (-109),
  ic (-108),
  ic (-107),
  ic (-106),
  ic (-105),
  ic (-104),
  ic (-103),
  ic (-102),
  ic (-101),
  ic (-100),
  ic (-99),
  ic (-98),
  ic (-97),
  ic (-96),
  ic (-95),
  ic (-94),
  ic (-93),
  ic (-92),
  ic (-91),
  ic (-90),
  ic (-89),
  ic (-88),
  ic (-87),
  ic (-86),
  ic (-85),
  ic (-84),
  ic (-83),
  ic (-82),
  ic (-81),
  ic (-80),
  ic (-79),
  ic (-78),
  ic (-77),
  ic (-76),
  ic (-75),
  ic (-74),
  ic (-73),
  ic (-72),
  ic (-71),
  ic (-70),
  ic (-69),
  ic (-68),
  ic (-67),
  ic (-66),
  ic (-65),
  ic (-64),
  ic (-63),
  ic (-62),
  ic (-61),
  ic (-60),
  ic (-59),
  ic (-58),
  ic (-57),
  ic (-56),
  ic (-55),
  ic (-54),
  ic (-53),
  ic (-52),
  ic (-51),
  ic (-50),
  ic (-49),
  ic (-48),
  ic (-47),
  ic (-46),
  ic (-45),
  ic (-44),
  ic (-43),
  ic (-42),
  ic (-41),
  ic (-40),
  ic (-39),
  ic (-38),
  ic (-37),
  ic (-36),
  ic (-35),
  ic (-34),
  ic (-33),
  ic (-32),
  ic (-31),
  ic (-30),
  ic (-29),
  ic (-28),
  ic (-27),
  ic (-26),
  ic (-25),
  ic (-24),
  ic (-23),
  ic (-22),
  ic (-21),
  ic (-20),
  ic (-19),
  ic (-18),
  ic (-17),
  ic (-16),
  ic (-15),
  ic (-14),
  ic (-13),
  ic (-12),
  ic (-11),
  ic (-10),
  ic (-9),
  ic (-8),
  ic (-7),
  ic (-6),
  ic (-5),
  ic (-4),
  ic (-3),
  ic (-2),
  ic (-1),
  ic 0,
  ic 1,
  ic 2,
  ic 3,
  ic 4,
  ic 5,
  ic 6,
  ic 7,
  ic 8,
  ic 9,
  ic 10,
  ic 11,
  ic 12,
  ic 13,
  ic 14,
  ic 15,
  ic 16,
  ic 17,
  ic 18,
  ic 19,
  ic 20,
  ic 21,
  ic 22,
  ic 23,
  ic 24,
  ic 25,
  ic 26,
  ic 27,
  ic 28,
  ic 29,
  ic 30,
  ic 31,
  ic 32,
  ic 33,
  ic 34,
  ic 35,
  ic 36,
  ic 37,
  ic 38,
  ic 39,
  ic 40,
  ic 41,
  ic 42,
  ic 43,
  ic 44,
  ic 45,
  ic 46,
  ic 47,
  ic 48,
  ic 49,
  ic 50,
  ic 51,
  ic 52,
  ic 53,
  ic 54,
  ic 55,
  ic 56,
  ic 57,
  ic 58,
  ic 59,
  ic 60,
  ic 61,
  ic 62,
  ic 63,
  ic 64,
  ic 65,
  ic 66,
  ic 67,
  ic 68,
  ic 69,
  ic 70,
  ic 71,
  ic 72,
  ic 73,
  ic 74,
  ic 75,
  ic 76,
  ic 77,
  ic 78,
  ic 79,
  ic 80,
  ic 81,
  ic 82,
  ic 83,
  ic 84,
  ic 85,
  ic 86,
  ic 87,
  ic 88,
  ic 89,
  ic 90,
  ic 91,
  ic 92,
  ic 93,
  ic 94,
  ic 95,
  ic 96,
  ic 97,
  ic 98,
  ic 99,
  ic 100,
  ic 101,
  ic 102,
  ic 103,
  ic 104,
  ic 105,
  ic 106,
  ic 107,
  ic 108,
  ic 109,
  ic 110,
  ic 111,
  ic 112,
  ic 113,
  ic 114,
  ic 115,
  ic 116,
  ic 117,
  ic 118,
  ic 119,
  ic 120,
  ic 121,
  ic 122,
  ic 123,
  ic 124,
  ic 125,
  ic 126,
  ic 127,
  { cls := 26, slots := #[.ref 5, .int 0], vm := .none },
  { cls := 54, slots := #[], vm := .none },
  { cls := 54, slots := #[], vm := .none },
  { cls := 0, slots := #[], vm := .none }]
def classes : Array Class := #[k0, k1, k2, k3, k4, k5, k6, k7, k8, k9, k10, k11, k12, k13, k14, k15, k16, k17, k18, k19, k20, k21, k22, k23, k24, k25, k26, k27, k28, k29, k30, k31, k32, k33, k34, k35, k36, k37, k38, k39, k40, k41, k42, k43, k44, k45, k46, k47, k48, k49, k50, k51, k52, k53, k54]
def interned : List (Array UInt16 × Addr) := []
def slotsUsed : Nat := 533
def theMethod : MethodId := ⟨1, 1⟩
def args0 : Array Value := #[.int 0, .int 0, .int 0, .int 0, .int 0, .int 0]
def aboutOver (below : List Frame) : State where
  vm := { classes := classes, interned := interned.toArray }
  heap := heap
  slotsUsed := slotsUsed
  threads := #[{ frames := .invoking theMethod args0 :: below }]
def below0 : List Frame := [.native { method := ⟨0, 0⟩, args := #[] }]
def about1 : State := aboutOver below0
def p0 : Program := .bare "" "" ""
def e0 : Env := launch0.env 0 0 0
theorem w_frames : about1.frames = Frame.invoking theMethod args0 :: below0 := rfl
theorem w_args : argsFit about1.vm theMethod args0 = true := by decide +kernel
theorem w_heap : heapFits about1 = true := by decide +kernel
theorem w_runnable : about1.curStatus? = some .runnable := by decide +kernel
theorem w_alone : about1.alone = true := by decide +kernel
theorem w_named : about1.methodNamed? x = some theMethod := by decide +kernel
theorem w_hears : about1.hears theMethod below0 = true := by decide +kernel
theorem w_ripe : about1.ripe theMethod args0 below0 = true := by decide +kernel
theorem w_running : about1.status = .running := rfl
theorem w_room : about1.hasRoom e0.platform room_1 = true :=
  launch0.hasRoom_least _ room_1 (by decide +kernel) (by decide +kernel) (by decide +kernel) (by decide +kernel) (by decide +kernel) (by decide +kernel)
theorem allAtoms_all (ts : List Jvm.Cond) (a : Array Jvm.Value) (st : Jvm.State) : (allAtoms ts).before a st = ts.all (fun c => c.before a st) := by
  induction ts with
  | nil => rfl
  | cons c t ih =>
    show (Jvm.Cond.and c (allAtoms t)).before a st = _
    rw [Jvm.Cond.before_and, ih, List.all_cons]
def words1 : List Jvm.Cond := C_0 :: tables_1
theorem code_word {y : MethodName} {bytes : ByteArray} {mx : Nat} {rt : Option FieldType} {a : Array Value} {s : State} {m : MethodId} {meth : Method} {c : Code} (h1 : s.methodNamed? y = some m) (h2 : s.vm.method? m = some meth) (h3 : meth.code = some c) (h4 : c.code = bytes)
    (h5 : (c.maxLocals == mx && c.exceptionTable.isEmpty && decide (c.maxStack ≤ mostOperands) && decide (meth.sig.returnType = rt) && !meth.locks && decide (parseMethodDescriptor y.desc = some meth.sig)) = true) : (Jvm.Cond.code y bytes mx rt).before a s = true := by
  simp only [Bool.and_eq_true, beq_iff_eq, Bool.not_eq_true', decide_eq_true_eq] at h5
  obtain ⟨⟨⟨⟨⟨g1, g2⟩, g3⟩, g4⟩, g5⟩, g6⟩ := h5
  simp [Cond.before, Cond.holds, Cond.value, h1, h2, h3, h4, g1, g2, g3, g4, g5, g6]
def isCode : Jvm.Cond → Bool
  | .code _ _ _ _ => true
  | _ => false
theorem all_split {L : List Jvm.Cond} {P : Jvm.Cond → Bool} (h1 : L.all (fun c => isCode c || P c) = true) (h2 : ∀ c ∈ L.filter isCode, P c = true) : L.all P = true := by
  refine List.all_eq_true.mpr fun c hc => ?_
  have h := List.all_eq_true.mp h1 c hc
  rcases Bool.eq_false_or_eq_true (isCode c) with hi | hi
  · exact h2 c (List.mem_filter.mpr ⟨hc, hi⟩)
  · simpa [hi] using h
theorem w_c0 : C_0.before args0 about1 = true := code_word (m := ⟨1, 1⟩) (meth := k1m1) (c := k1c1) (by decide +kernel) rfl rfl rfl (by decide +kernel)
theorem w_c1 : C_1.before args0 about1 = true := code_word (m := ⟨1, 3⟩) (meth := k1m3) (c := k1c3) (by decide +kernel) rfl rfl rfl (by decide +kernel)
theorem w_c2 : C_2.before args0 about1 = true := code_word (m := ⟨11, 0⟩) (meth := k11m0) (c := k11c0) (by decide +kernel) rfl rfl rfl (by decide +kernel)
theorem w_c3 : C_3.before args0 about1 = true := code_word (m := ⟨7, 0⟩) (meth := k7m0) (c := k7c0) (by decide +kernel) rfl rfl rfl (by decide +kernel)
theorem w_c4 : C_4.before args0 about1 = true := code_word (m := ⟨4, 0⟩) (meth := k4m0) (c := k4c0) (by decide +kernel) rfl rfl rfl (by decide +kernel)
theorem w_c5 : C_5.before args0 about1 = true := code_word (m := ⟨0, 0⟩) (meth := k0m0) (c := k0c0) (by decide +kernel) rfl rfl rfl (by decide +kernel)
theorem w_c6 : C_6.before args0 about1 = true := code_word (m := ⟨1, 4⟩) (meth := k1m4) (c := k1c4) (by decide +kernel) rfl rfl rfl (by decide +kernel)
theorem w_c7 : C_7.before args0 about1 = true := code_word (m := ⟨19, 0⟩) (meth := k19m0) (c := k19c0) (by decide +kernel) rfl rfl rfl (by decide +kernel)
theorem w_c8 : C_8.before args0 about1 = true := code_word (m := ⟨11, 6⟩) (meth := k11m6) (c := k11c6) (by decide +kernel) rfl rfl rfl (by decide +kernel)
theorem w_c9 : C_9.before args0 about1 = true := code_word (m := ⟨11, 5⟩) (meth := k11m5) (c := k11c5) (by decide +kernel) rfl rfl rfl (by decide +kernel)
theorem w_c10 : C_10.before args0 about1 = true := code_word (m := ⟨11, 2⟩) (meth := k11m2) (c := k11c2) (by decide +kernel) rfl rfl rfl (by decide +kernel)
theorem w_c11 : C_11.before args0 about1 = true := code_word (m := ⟨11, 1⟩) (meth := k11m1) (c := k11c1) (by decide +kernel) rfl rfl rfl (by decide +kernel)
theorem w_c12 : C_12.before args0 about1 = true := code_word (m := ⟨21, 1⟩) (meth := k21m1) (c := k21c1) (by decide +kernel) rfl rfl rfl (by decide +kernel)
theorem w_c13 : C_13.before args0 about1 = true := code_word (m := ⟨14, 0⟩) (meth := k14m0) (c := k14c0) (by decide +kernel) rfl rfl rfl (by decide +kernel)
theorem w_c14 : C_14.before args0 about1 = true := code_word (m := ⟨12, 0⟩) (meth := k12m0) (c := k12c0) (by decide +kernel) rfl rfl rfl (by decide +kernel)
theorem w_c15 : C_15.before args0 about1 = true := code_word (m := ⟨6, 7⟩) (meth := k6m7) (c := k6c7) (by decide +kernel) rfl rfl rfl (by decide +kernel)
theorem w_c16 : C_16.before args0 about1 = true := code_word (m := ⟨22, 1⟩) (meth := k22m1) (c := k22c1) (by decide +kernel) rfl rfl rfl (by decide +kernel)
theorem w_c17 : C_17.before args0 about1 = true := code_word (m := ⟨11, 3⟩) (meth := k11m3) (c := k11c3) (by decide +kernel) rfl rfl rfl (by decide +kernel)
theorem w_c18 : C_18.before args0 about1 = true := code_word (m := ⟨6, 5⟩) (meth := k6m5) (c := k6c5) (by decide +kernel) rfl rfl rfl (by decide +kernel)
theorem w_c19 : C_19.before args0 about1 = true := code_word (m := ⟨11, 4⟩) (meth := k11m4) (c := k11c4) (by decide +kernel) rfl rfl rfl (by decide +kernel)
theorem w_c20 : C_20.before args0 about1 = true := code_word (m := ⟨27, 3⟩) (meth := k27m3) (c := k27c3) (by decide +kernel) rfl rfl rfl (by decide +kernel)
theorem w_c21 : C_21.before args0 about1 = true := code_word (m := ⟨27, 4⟩) (meth := k27m4) (c := k27c4) (by decide +kernel) rfl rfl rfl (by decide +kernel)
theorem w_c22 : C_22.before args0 about1 = true := code_word (m := ⟨21, 3⟩) (meth := k21m3) (c := k21c3) (by decide +kernel) rfl rfl rfl (by decide +kernel)
theorem w_c23 : C_23.before args0 about1 = true := code_word (m := ⟨6, 6⟩) (meth := k6m6) (c := k6c6) (by decide +kernel) rfl rfl rfl (by decide +kernel)
theorem w_c24 : C_24.before args0 about1 = true := code_word (m := ⟨25, 0⟩) (meth := k25m0) (c := k25c0) (by decide +kernel) rfl rfl rfl (by decide +kernel)
theorem w_c25 : C_25.before args0 about1 = true := code_word (m := ⟨24, 0⟩) (meth := k24m0) (c := k24c0) (by decide +kernel) rfl rfl rfl (by decide +kernel)
theorem w_c26 : C_26.before args0 about1 = true := code_word (m := ⟨23, 0⟩) (meth := k23m0) (c := k23c0) (by decide +kernel) rfl rfl rfl (by decide +kernel)
theorem w_c27 : C_27.before args0 about1 = true := code_word (m := ⟨29, 1⟩) (meth := k29m1) (c := k29c1) (by decide +kernel) rfl rfl rfl (by decide +kernel)
theorem w_c28 : C_28.before args0 about1 = true := code_word (m := ⟨30, 0⟩) (meth := k30m0) (c := k30c0) (by decide +kernel) rfl rfl rfl (by decide +kernel)
theorem w_c29 : C_29.before args0 about1 = true := code_word (m := ⟨36, 0⟩) (meth := k36m0) (c := k36c0) (by decide +kernel) rfl rfl rfl (by decide +kernel)
theorem w_c30 : C_30.before args0 about1 = true := code_word (m := ⟨32, 0⟩) (meth := k32m0) (c := k32c0) (by decide +kernel) rfl rfl rfl (by decide +kernel)
theorem w_c31 : C_31.before args0 about1 = true := code_word (m := ⟨27, 1⟩) (meth := k27m1) (c := k27c1) (by decide +kernel) rfl rfl rfl (by decide +kernel)
theorem w_c32 : C_32.before args0 about1 = true := code_word (m := ⟨30, 6⟩) (meth := k30m6) (c := k30c6) (by decide +kernel) rfl rfl rfl (by decide +kernel)
theorem w_c33 : C_33.before args0 about1 = true := code_word (m := ⟨37, 0⟩) (meth := k37m0) (c := k37c0) (by decide +kernel) rfl rfl rfl (by decide +kernel)
theorem w_c34 : C_34.before args0 about1 = true := code_word (m := ⟨27, 2⟩) (meth := k27m2) (c := k27c2) (by decide +kernel) rfl rfl rfl (by decide +kernel)
theorem w_c35 : C_35.before args0 about1 = true := code_word (m := ⟨30, 1⟩) (meth := k30m1) (c := k30c1) (by decide +kernel) rfl rfl rfl (by decide +kernel)
theorem w_c36 : C_36.before args0 about1 = true := code_word (m := ⟨14, 2⟩) (meth := k14m2) (c := k14c2) (by decide +kernel) rfl rfl rfl (by decide +kernel)
theorem w_c37 : C_37.before args0 about1 = true := code_word (m := ⟨24, 1⟩) (meth := k24m1) (c := k24c1) (by decide +kernel) rfl rfl rfl (by decide +kernel)
theorem w_c38 : C_38.before args0 about1 = true := code_word (m := ⟨26, 1⟩) (meth := k26m1) (c := k26c1) (by decide +kernel) rfl rfl rfl (by decide +kernel)
theorem w_c39 : C_39.before args0 about1 = true := code_word (m := ⟨40, 0⟩) (meth := k40m0) (c := k40c0) (by decide +kernel) rfl rfl rfl (by decide +kernel)
theorem w_c40 : C_40.before args0 about1 = true := code_word (m := ⟨40, 1⟩) (meth := k40m1) (c := k40c1) (by decide +kernel) rfl rfl rfl (by decide +kernel)
theorem w_c41 : C_41.before args0 about1 = true := code_word (m := ⟨14, 3⟩) (meth := k14m3) (c := k14c3) (by decide +kernel) rfl rfl rfl (by decide +kernel)
theorem w_c42 : C_42.before args0 about1 = true := code_word (m := ⟨14, 1⟩) (meth := k14m1) (c := k14c1) (by decide +kernel) rfl rfl rfl (by decide +kernel)
theorem w_c43 : C_43.before args0 about1 = true := code_word (m := ⟨25, 2⟩) (meth := k25m2) (c := k25c2) (by decide +kernel) rfl rfl rfl (by decide +kernel)
theorem w_c44 : C_44.before args0 about1 = true := code_word (m := ⟨25, 3⟩) (meth := k25m3) (c := k25c3) (by decide +kernel) rfl rfl rfl (by decide +kernel)
theorem w_c45 : C_45.before args0 about1 = true := code_word (m := ⟨19, 1⟩) (meth := k19m1) (c := k19c1) (by decide +kernel) rfl rfl rfl (by decide +kernel)
theorem w_c46 : C_46.before args0 about1 = true := code_word (m := ⟨36, 2⟩) (meth := k36m2) (c := k36c2) (by decide +kernel) rfl rfl rfl (by decide +kernel)
theorem w_c47 : C_47.before args0 about1 = true := code_word (m := ⟨36, 1⟩) (meth := k36m1) (c := k36c1) (by decide +kernel) rfl rfl rfl (by decide +kernel)
theorem w_c48 : C_48.before args0 about1 = true := code_word (m := ⟨11, 8⟩) (meth := k11m8) (c := k11c8) (by decide +kernel) rfl rfl rfl (by decide +kernel)
theorem w_c49 : C_49.before args0 about1 = true := code_word (m := ⟨41, 0⟩) (meth := k41m0) (c := k41c0) (by decide +kernel) rfl rfl rfl (by decide +kernel)
theorem w_c50 : C_50.before args0 about1 = true := code_word (m := ⟨41, 1⟩) (meth := k41m1) (c := k41c1) (by decide +kernel) rfl rfl rfl (by decide +kernel)
theorem w_c51 : C_51.before args0 about1 = true := code_word (m := ⟨11, 7⟩) (meth := k11m7) (c := k11c7) (by decide +kernel) rfl rfl rfl (by decide +kernel)
theorem w_c52 : C_52.before args0 about1 = true := code_word (m := ⟨30, 5⟩) (meth := k30m5) (c := k30c5) (by decide +kernel) rfl rfl rfl (by decide +kernel)
theorem w_c53 : C_53.before args0 about1 = true := code_word (m := ⟨14, 4⟩) (meth := k14m4) (c := k14c4) (by decide +kernel) rfl rfl rfl (by decide +kernel)
theorem w_c54 : C_54.before args0 about1 = true := code_word (m := ⟨14, 5⟩) (meth := k14m5) (c := k14c5) (by decide +kernel) rfl rfl rfl (by decide +kernel)
theorem w_c55 : C_55.before args0 about1 = true := code_word (m := ⟨30, 3⟩) (meth := k30m3) (c := k30c3) (by decide +kernel) rfl rfl rfl (by decide +kernel)
theorem w_c56 : C_56.before args0 about1 = true := code_word (m := ⟨1, 2⟩) (meth := k1m2) (c := k1c2) (by decide +kernel) rfl rfl rfl (by decide +kernel)
theorem w_c57 : C_57.before args0 about1 = true := code_word (m := ⟨30, 4⟩) (meth := k30m4) (c := k30c4) (by decide +kernel) rfl rfl rfl (by decide +kernel)
theorem w_c58 : C_58.before args0 about1 = true := code_word (m := ⟨42, 0⟩) (meth := k42m0) (c := k42c0) (by decide +kernel) rfl rfl rfl (by decide +kernel)
theorem w_c59 : C_59.before args0 about1 = true := code_word (m := ⟨42, 1⟩) (meth := k42m1) (c := k42c1) (by decide +kernel) rfl rfl rfl (by decide +kernel)
theorem w_c60 : C_60.before args0 about1 = true := code_word (m := ⟨21, 2⟩) (meth := k21m2) (c := k21c2) (by decide +kernel) rfl rfl rfl (by decide +kernel)
theorem w_c61 : C_61.before args0 about1 = true := code_word (m := ⟨25, 1⟩) (meth := k25m1) (c := k25c1) (by decide +kernel) rfl rfl rfl (by decide +kernel)
theorem w_c62 : C_62.before args0 about1 = true := code_word (m := ⟨22, 2⟩) (meth := k22m2) (c := k22c2) (by decide +kernel) rfl rfl rfl (by decide +kernel)
theorem w_c63 : C_63.before args0 about1 = true := code_word (m := ⟨26, 0⟩) (meth := k26m0) (c := k26c0) (by decide +kernel) rfl rfl rfl (by decide +kernel)
theorem w_c64 : C_64.before args0 about1 = true := code_word (m := ⟨26, 2⟩) (meth := k26m2) (c := k26c2) (by decide +kernel) rfl rfl rfl (by decide +kernel)
theorem w_c65 : C_65.before args0 about1 = true := code_word (m := ⟨30, 2⟩) (meth := k30m2) (c := k30c2) (by decide +kernel) rfl rfl rfl (by decide +kernel)
def codes1 : List Jvm.Cond := [C_0, C_1, C_2, C_3, C_4, C_5, C_6, C_7, C_8, C_9, C_10, C_11, C_12, C_13, C_14, C_15, C_16, C_17, C_18, C_19, C_20, C_21, C_22, C_23, C_24, C_25, C_26, C_27, C_28, C_29, C_30, C_31, C_32, C_33, C_34, C_35, C_36, C_37, C_38, C_39, C_40, C_41, C_42, C_43, C_44, C_45, C_46, C_47, C_48, C_49, C_50, C_51, C_52, C_53, C_54, C_55, C_56, C_57, C_58, C_59, C_60, C_61, C_62, C_63, C_64, C_65]
theorem codes_eq : words1.filter isCode = codes1 := rfl
theorem w_codes : ∀ c ∈ words1.filter isCode, c.before args0 about1 = true := by
  rw [codes_eq]
  intro c hc
  simp only [codes1, List.mem_cons, List.not_mem_nil, or_false] at hc
  rcases hc with rfl | rfl | rfl | rfl | rfl | rfl | rfl | rfl | rfl | rfl | rfl | rfl | rfl | rfl | rfl | rfl | rfl | rfl | rfl | rfl | rfl | rfl | rfl | rfl | rfl | rfl | rfl | rfl | rfl | rfl | rfl | rfl | rfl | rfl | rfl | rfl | rfl | rfl | rfl | rfl | rfl | rfl | rfl | rfl | rfl | rfl | rfl | rfl | rfl | rfl | rfl | rfl | rfl | rfl | rfl | rfl | rfl | rfl | rfl | rfl | rfl | rfl | rfl | rfl | rfl | rfl
  · exact w_c0
  · exact w_c1
  · exact w_c2
  · exact w_c3
  · exact w_c4
  · exact w_c5
  · exact w_c6
  · exact w_c7
  · exact w_c8
  · exact w_c9
  · exact w_c10
  · exact w_c11
  · exact w_c12
  · exact w_c13
  · exact w_c14
  · exact w_c15
  · exact w_c16
  · exact w_c17
  · exact w_c18
  · exact w_c19
  · exact w_c20
  · exact w_c21
  · exact w_c22
  · exact w_c23
  · exact w_c24
  · exact w_c25
  · exact w_c26
  · exact w_c27
  · exact w_c28
  · exact w_c29
  · exact w_c30
  · exact w_c31
  · exact w_c32
  · exact w_c33
  · exact w_c34
  · exact w_c35
  · exact w_c36
  · exact w_c37
  · exact w_c38
  · exact w_c39
  · exact w_c40
  · exact w_c41
  · exact w_c42
  · exact w_c43
  · exact w_c44
  · exact w_c45
  · exact w_c46
  · exact w_c47
  · exact w_c48
  · exact w_c49
  · exact w_c50
  · exact w_c51
  · exact w_c52
  · exact w_c53
  · exact w_c54
  · exact w_c55
  · exact w_c56
  · exact w_c57
  · exact w_c58
  · exact w_c59
  · exact w_c60
  · exact w_c61
  · exact w_c62
  · exact w_c63
  · exact w_c64
  · exact w_c65
theorem w_t1 : (words1.take 24).all (fun c => isCode c || c.before args0 about1) = true := by decide +kernel
theorem w_t2 : ((words1.drop 24).take 24).all (fun c => isCode c || c.before args0 about1) = true := by decide +kernel
theorem w_t3 : (((words1.drop 24).drop 24).take 24).all (fun c => isCode c || c.before args0 about1) = true := by decide +kernel
theorem w_t4 : ((((words1.drop 24).drop 24).drop 24).take 24).all (fun c => isCode c || c.before args0 about1) = true := by decide +kernel
theorem w_t5 : (((((words1.drop 24).drop 24).drop 24).drop 24).take 24).all (fun c => isCode c || c.before args0 about1) = true := by decide +kernel
theorem w_t6 : ((((((words1.drop 24).drop 24).drop 24).drop 24).drop 24).take 24).all (fun c => isCode c || c.before args0 about1) = true := by decide +kernel
theorem w_t7 : (((((((words1.drop 24).drop 24).drop 24).drop 24).drop 24).drop 24).take 24).all (fun c => isCode c || c.before args0 about1) = true := by decide +kernel
theorem w_t8 : ((((((((words1.drop 24).drop 24).drop 24).drop 24).drop 24).drop 24).drop 24).take 24).all (fun c => isCode c || c.before args0 about1) = true := by decide +kernel
theorem w_t9 : (((((((((words1.drop 24).drop 24).drop 24).drop 24).drop 24).drop 24).drop 24).drop 24).take 24).all (fun c => isCode c || c.before args0 about1) = true := by decide +kernel
theorem w_t10 : ((((((((((words1.drop 24).drop 24).drop 24).drop 24).drop 24).drop 24).drop 24).drop 24).drop 24).take 24).all (fun c => isCode c || c.before args0 about1) = true := by decide +kernel
theorem w_t11 : (((((((((((words1.drop 24).drop 24).drop 24).drop 24).drop 24).drop 24).drop 24).drop 24).drop 24).drop 24).take 24).all (fun c => isCode c || c.before args0 about1) = true := by decide +kernel
theorem w_t12 : ((((((((((((words1.drop 24).drop 24).drop 24).drop 24).drop 24).drop 24).drop 24).drop 24).drop 24).drop 24).drop 24).take 24).all (fun c => isCode c || c.before args0 about1) = true := by decide +kernel
theorem w_t13 : (((((((((((((words1.drop 24).drop 24).drop 24).drop 24).drop 24).drop 24).drop 24).drop 24).drop 24).drop 24).drop 24).drop 24).take 24).all (fun c => isCode c || c.before args0 about1) = true := by decide +kernel
theorem w_t14 : ((((((((((((((words1.drop 24).drop 24).drop 24).drop 24).drop 24).drop 24).drop 24).drop 24).drop 24).drop 24).drop 24).drop 24).drop 24).take 24).all (fun c => isCode c || c.before args0 about1) = true := by decide +kernel
theorem w_t15 : (((((((((((((((words1.drop 24).drop 24).drop 24).drop 24).drop 24).drop 24).drop 24).drop 24).drop 24).drop 24).drop 24).drop 24).drop 24).drop 24).take 24).all (fun c => isCode c || c.before args0 about1) = true := by decide +kernel
theorem w_t16 : ((((((((((((((((words1.drop 24).drop 24).drop 24).drop 24).drop 24).drop 24).drop 24).drop 24).drop 24).drop 24).drop 24).drop 24).drop 24).drop 24).drop 24).take 24).all (fun c => isCode c || c.before args0 about1) = true := by decide +kernel
theorem w_t17 : (((((((((((((((((words1.drop 24).drop 24).drop 24).drop 24).drop 24).drop 24).drop 24).drop 24).drop 24).drop 24).drop 24).drop 24).drop 24).drop 24).drop 24).drop 24).take 24).all (fun c => isCode c || c.before args0 about1) = true := by decide +kernel
theorem w_t18 : ((((((((((((((((((words1.drop 24).drop 24).drop 24).drop 24).drop 24).drop 24).drop 24).drop 24).drop 24).drop 24).drop 24).drop 24).drop 24).drop 24).drop 24).drop 24).drop 24).take 24).all (fun c => isCode c || c.before args0 about1) = true := by decide +kernel
theorem w_t19 : (((((((((((((((((((words1.drop 24).drop 24).drop 24).drop 24).drop 24).drop 24).drop 24).drop 24).drop 24).drop 24).drop 24).drop 24).drop 24).drop 24).drop 24).drop 24).drop 24).drop 24).take 24).all (fun c => isCode c || c.before args0 about1) = true := by decide +kernel
theorem w_t20 : ((((((((((((((((((((words1.drop 24).drop 24).drop 24).drop 24).drop 24).drop 24).drop 24).drop 24).drop 24).drop 24).drop 24).drop 24).drop 24).drop 24).drop 24).drop 24).drop 24).drop 24).drop 24).take 24).all (fun c => isCode c || c.before args0 about1) = true := by decide +kernel
theorem w_t21 : (((((((((((((((((((((words1.drop 24).drop 24).drop 24).drop 24).drop 24).drop 24).drop 24).drop 24).drop 24).drop 24).drop 24).drop 24).drop 24).drop 24).drop 24).drop 24).drop 24).drop 24).drop 24).drop 24).take 24).all (fun c => isCode c || c.before args0 about1) = true := by decide +kernel
theorem w_t22 : ((((((((((((((((((((((words1.drop 24).drop 24).drop 24).drop 24).drop 24).drop 24).drop 24).drop 24).drop 24).drop 24).drop 24).drop 24).drop 24).drop 24).drop 24).drop 24).drop 24).drop 24).drop 24).drop 24).drop 24).take 24).all (fun c => isCode c || c.before args0 about1) = true := by decide +kernel
theorem w_t23 : ((((((((((((((((((((((words1.drop 24).drop 24).drop 24).drop 24).drop 24).drop 24).drop 24).drop 24).drop 24).drop 24).drop 24).drop 24).drop 24).drop 24).drop 24).drop 24).drop 24).drop 24).drop 24).drop 24).drop 24).drop 24).all (fun c => isCode c || c.before args0 about1) = true := by decide +kernel
theorem w_tables : (allAtoms (C_0 :: tables_1)).before args0 about1 = true := by
  rw [allAtoms_all]
  show words1.all (fun c => c.before args0 about1) = true
  refine all_split ?_ w_codes
  rw [← List.take_append_drop 24 words1, List.all_append, w_t1, ← List.take_append_drop 24 (words1.drop 24), List.all_append, w_t2, ← List.take_append_drop 24 ((words1.drop 24).drop 24), List.all_append, w_t3, ← List.take_append_drop 24 (((words1.drop 24).drop 24).drop 24), List.all_append, w_t4, ← List.take_append_drop 24 ((((words1.drop 24).drop 24).drop 24).drop 24), List.all_append, w_t5, ← List.take_append_drop 24 (((((words1.drop 24).drop 24).drop 24).drop 24).drop 24), List.all_append, w_t6, ← List.take_append_drop 24 ((((((words1.drop 24).drop 24).drop 24).drop 24).drop 24).drop 24), List.all_append, w_t7, ← List.take_append_drop 24 (((((((words1.drop 24).drop 24).drop 24).drop 24).drop 24).drop 24).drop 24), List.all_append, w_t8, ← List.take_append_drop 24 ((((((((words1.drop 24).drop 24).drop 24).drop 24).drop 24).drop 24).drop 24).drop 24), List.all_append, w_t9, ← List.take_append_drop 24 (((((((((words1.drop 24).drop 24).drop 24).drop 24).drop 24).drop 24).drop 24).drop 24).drop 24), List.all_append, w_t10, ← List.take_append_drop 24 ((((((((((words1.drop 24).drop 24).drop 24).drop 24).drop 24).drop 24).drop 24).drop 24).drop 24).drop 24), List.all_append, w_t11, ← List.take_append_drop 24 (((((((((((words1.drop 24).drop 24).drop 24).drop 24).drop 24).drop 24).drop 24).drop 24).drop 24).drop 24).drop 24), List.all_append, w_t12, ← List.take_append_drop 24 ((((((((((((words1.drop 24).drop 24).drop 24).drop 24).drop 24).drop 24).drop 24).drop 24).drop 24).drop 24).drop 24).drop 24), List.all_append, w_t13, ← List.take_append_drop 24 (((((((((((((words1.drop 24).drop 24).drop 24).drop 24).drop 24).drop 24).drop 24).drop 24).drop 24).drop 24).drop 24).drop 24).drop 24), List.all_append, w_t14, ← List.take_append_drop 24 ((((((((((((((words1.drop 24).drop 24).drop 24).drop 24).drop 24).drop 24).drop 24).drop 24).drop 24).drop 24).drop 24).drop 24).drop 24).drop 24), List.all_append, w_t15, ← List.take_append_drop 24 (((((((((((((((words1.drop 24).drop 24).drop 24).drop 24).drop 24).drop 24).drop 24).drop 24).drop 24).drop 24).drop 24).drop 24).drop 24).drop 24).drop 24), List.all_append, w_t16, ← List.take_append_drop 24 ((((((((((((((((words1.drop 24).drop 24).drop 24).drop 24).drop 24).drop 24).drop 24).drop 24).drop 24).drop 24).drop 24).drop 24).drop 24).drop 24).drop 24).drop 24), List.all_append, w_t17, ← List.take_append_drop 24 (((((((((((((((((words1.drop 24).drop 24).drop 24).drop 24).drop 24).drop 24).drop 24).drop 24).drop 24).drop 24).drop 24).drop 24).drop 24).drop 24).drop 24).drop 24).drop 24), List.all_append, w_t18, ← List.take_append_drop 24 ((((((((((((((((((words1.drop 24).drop 24).drop 24).drop 24).drop 24).drop 24).drop 24).drop 24).drop 24).drop 24).drop 24).drop 24).drop 24).drop 24).drop 24).drop 24).drop 24).drop 24), List.all_append, w_t19, ← List.take_append_drop 24 (((((((((((((((((((words1.drop 24).drop 24).drop 24).drop 24).drop 24).drop 24).drop 24).drop 24).drop 24).drop 24).drop 24).drop 24).drop 24).drop 24).drop 24).drop 24).drop 24).drop 24).drop 24), List.all_append, w_t20, ← List.take_append_drop 24 ((((((((((((((((((((words1.drop 24).drop 24).drop 24).drop 24).drop 24).drop 24).drop 24).drop 24).drop 24).drop 24).drop 24).drop 24).drop 24).drop 24).drop 24).drop 24).drop 24).drop 24).drop 24).drop 24), List.all_append, w_t21, ← List.take_append_drop 24 (((((((((((((((((((((words1.drop 24).drop 24).drop 24).drop 24).drop 24).drop 24).drop 24).drop 24).drop 24).drop 24).drop 24).drop 24).drop 24).drop 24).drop 24).drop 24).drop 24).drop 24).drop 24).drop 24).drop 24), List.all_append, w_t22, w_t23]
  rfl
theorem w_rest : rest_1_c.before args0 about1 = true := by decide +kernel
theorem w_case : (Jvm.Cond.and given_1 narrow_1).before args0 about1 = true := by decide +kernel
theorem w_applies : (headSpec (C_0 :: tables_1) room_1).applies x e0.platform about1 = true :=
  (Spec.applies_iff w_frames).mpr ⟨w_running, w_runnable, w_alone, w_named, w_hears, w_ripe, w_room, w_tables⟩
theorem atStart : AtStart classFile x code maxLocals ret World_1 tables_1 room_1 Calls_1 rest_1 Pre_1 launch0 p0 e0 about1 theMethod args0 below0 :=
  ⟨lists_1, trivial, launch0.admits_env _ _ _, launch0.least_env, fairChoices_fair.cas, fairChoices_fair.clock, w_frames, w_args, w_heap, w_applies, ⟨⟨54, k54, 3, by decide +kernel, rfl, rfl, _, rfl, rfl⟩, trivial⟩, w_rest, w_case⟩
end start1
theorem witness_1 : WitnessClaimed_1 := ⟨start1.p0, start1.e0, start1.about1, start1.theMethod, start1.args0, start1.below0, start1.atStart⟩
end Jvm.Pilot.@@N@@
