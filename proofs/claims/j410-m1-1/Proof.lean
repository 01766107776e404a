import JvmDerived
import JvmDerived.Pilot.@@N@@Statement
import JvmDerived.Pilot.@@N@@Code
set_option linter.unusedVariables false
set_option linter.unusedSimpArgs false
namespace Jvm.Pilot.@@N@@
open Jvm Jvm.ClassFile Sem Op Lib Jvm.Free Jvm.Stand Jvm.LawKit Jvm.RoadKit Bundle Jvm.Pilot.@@N@@.Jvm.D
/-- from the state S the run comes to an end that meets F -/
def own_Go (tb : Tables) (e : Env) (below : List Frame) (F : State → Outcome → Prop) (S : State) : Prop := ∃ s₂ o, Steps tb e below S s₂ ∧ F s₂ o
/-- the end: it returned what Q says, over the heap that Q says -/
def own_Fin (below : List Frame) (s : State) (Q : Option Value → Heap → List Loc → Prop) (k n : Nat) : State → Outcome → Prop := fun s₂ o => s₂.status = .running ∧ Ended s₂ below o ∧ ∃ v L, o = .returned v ∧ Q v s₂.heap L ∧ FrameEnd s o s₂ L k n
theorem own_go {tb : Tables} {e : Env} {below : List Frame} {F : State → Outcome → Prop} {S S' : State} (h : ∀ t, Steps tb e below S' t → Steps tb e below S t) (k : own_Go tb e below F S') : own_Go tb e below F S := by
  obtain ⟨t, o, h1, h2⟩ := k
  exact ⟨t, o, h t h1, h2⟩
theorem own_via {tb : Tables} {e : Env} {below : List Frame} {F : State → Outcome → Prop} {S S' : State} (h : Steps tb e below S S') (k : own_Go tb e below F S') : own_Go tb e below F S := by
  obtain ⟨t, o, h1, h2⟩ := k
  exact ⟨t, o, h.trans h1, h2⟩
section OwnRet
variable {p : Program} {l : Launch} {e : Env} {R : Room} {s : State} {m : MethodId} {args : Array Value} {below : List Frame} {meth : Method} {c : Code} {T : State} {locs : List Loc} {cells slots : Nat} {Q : Option Value → Heap → List Loc → Prop} {K N : Nat}
theorem own_retN (X : Stand p l e R s m args below meth c T locs cells slots) (hlocks : meth.locks = false) (hx : p.tables.exec = Jvm.exec) {pc : Nat} {Ls : Array Slot} {z : Int32} {rest : List Value} {t : FieldType} (hret : meth.sig.returnType = some t) (ht : t = .boolean ∨ t = .byte ∨ t = .char ∨ t = .short) (hd : decode c.code pc = .ok (.ireturn, 1)) (hQ : Q (some (.int (nar t z))) T.heap locs) (hk : cells ≤ K) (hn : slots ≤ N) :
    own_Go p.tables e below (own_Fin below s Q K N) (T.setTop (mkF m pc Ls (.int z :: rest))) := by
  obtain ⟨fs, hr, hrun, hended, hW, hsame⟩ := X.leave (v := some (.int (nar t z))) (fun h => by rw [hret] at h; cases h) hlocks
  exact ⟨_, _, retN X hx hret ht hd hr, hrun, hended, _, _, rfl, hQ, ⟨_, rfl⟩, hW, hsame.mono hk hn⟩
theorem own_retI (X : Stand p l e R s m args below meth c T locs cells slots) (hlocks : meth.locks = false) (hx : p.tables.exec = Jvm.exec) {pc : Nat} {Ls : Array Slot} {z : Int32} {rest : List Value} (hret : meth.sig.returnType = some .int) (hd : decode c.code pc = .ok (.ireturn, 1)) (hQ : Q (some (.int z)) T.heap locs) (hk : cells ≤ K) (hn : slots ≤ N) :
    own_Go p.tables e below (own_Fin below s Q K N) (T.setTop (mkF m pc Ls (.int z :: rest))) := by
  obtain ⟨fs, hr, hrun, hended, hW, hsame⟩ := X.leave (v := some (.int z)) (fun h => by rw [hret] at h; cases h) hlocks
  exact ⟨_, _, retOut X hx (i := .ireturn) hret rfl (Or.inl ⟨rfl, Or.inl rfl, _, rfl⟩) hd hr, hrun, hended, _, _, rfl, hQ, ⟨_, rfl⟩, hW, hsame.mono hk hn⟩
theorem own_retJ (X : Stand p l e R s m args below meth c T locs cells slots) (hlocks : meth.locks = false) (hx : p.tables.exec = Jvm.exec) {pc : Nat} {Ls : Array Slot} {z : Int64} {rest : List Value} (hret : meth.sig.returnType = some .long) (hd : decode c.code pc = .ok (.lreturn, 1)) (hQ : Q (some (.long z)) T.heap locs) (hk : cells ≤ K) (hn : slots ≤ N) :
    own_Go p.tables e below (own_Fin below s Q K N) (T.setTop (mkF m pc Ls (.long z :: rest))) := by
  obtain ⟨fs, hr, hrun, hended, hW, hsame⟩ := X.leave (v := some (.long z)) (fun h => by rw [hret] at h; cases h) hlocks
  exact ⟨_, _, retOut X hx (i := .lreturn) hret rfl (Or.inr (Or.inl ⟨rfl, rfl, _, rfl⟩)) hd hr, hrun, hended, _, _, rfl, hQ, ⟨_, rfl⟩, hW, hsame.mono hk hn⟩
theorem own_retA (X : Stand p l e R s m args below meth c T locs cells slots) (hlocks : meth.locks = false) (hx : p.tables.exec = Jvm.exec) {pc : Nat} {Ls : Array Slot} {w : Value} {rest : List Value} {t : FieldType} (hret : meth.sig.returnType = some t) (ht : t.isReference = true) (hn' : narrow t w = w) (hw : w.isRef = true) (hd : decode c.code pc = .ok (.areturn, 1)) (hQ : Q (some w) T.heap locs) (hk : cells ≤ K) (hn : slots ≤ N) :
    own_Go p.tables e below (own_Fin below s Q K N) (T.setTop (mkF m pc Ls (w :: rest))) := by
  obtain ⟨fs, hr, hrun, hended, hW, hsame⟩ := X.leave (v := some w) (fun h => by rw [hret] at h; cases h) hlocks
  exact ⟨_, _, retOut X hx (i := .areturn) hret hn' (Or.inr (Or.inr (Or.inr (Or.inr ⟨rfl, ht, hw⟩)))) hd hr, hrun, hended, _, _, rfl, hQ, ⟨_, rfl⟩, hW, hsame.mono hk hn⟩
theorem own_ret0 (X : Stand p l e R s m args below meth c T locs cells slots) (hlocks : meth.locks = false) (hx : p.tables.exec = Jvm.exec) {pc : Nat} {Ls : Array Slot} (hret : meth.sig.returnType = none) (hd : decode c.code pc = .ok (.return_, 1)) (hQ : Q none T.heap locs) (hk : cells ≤ K) (hn : slots ≤ N) :
    own_Go p.tables e below (own_Fin below s Q K N) (T.setTop (mkF m pc Ls [])) := by
  obtain ⟨fs, hr, hrun, hended, hW, hsame⟩ := X.leave (v := none) (fun _ => rfl) hlocks
  exact ⟨_, _, X.returnOut hx hret hd hr, hrun, hended, _, _, rfl, hQ, ⟨_, rfl⟩, hW, hsame.mono hk hn⟩
/-- the end where String constants may have been made meanwhile -/
def own_FinW (below : List Frame) (s : State) (Q : Option Value → Heap → List Loc → Prop) (k n : Nat) : State → Outcome → Prop := fun s₂ o => s₂.status = .running ∧ Ended s₂ below o ∧ ∃ v L, o = .returned v ∧ Q v s₂.heap L ∧ ReturnedEndW s o s₂ L k n
theorem own_more {s t : State} {o : Outcome} {L : List Loc} {k n K N : Nat} (h : ReturnedEndW s o t L k n) (hk : k ≤ K) (hn : n ≤ N) : ReturnedEndW s o t L K N := ⟨h.1, h.2.1, h.2.2.1, h.2.2.2.mono hk hn⟩
variable {vm₁ : Vm} {n₁ : Nat}
theorem own_retNW (X : Stand p l e R (s.setVm vm₁) m args below meth c T locs cells slots) (hS : s.Since vm₁ n₁) (hn₁ : n₁ ≤ T.heap.size) (hlocks : meth.locks = false) (hx : p.tables.exec = Jvm.exec) {pc : Nat} {Ls : Array Slot} {z : Int32} {rest : List Value} {t : FieldType} (hret : meth.sig.returnType = some t) (ht : t = .boolean ∨ t = .byte ∨ t = .char ∨ t = .short) (hd : decode c.code pc = .ok (.ireturn, 1)) (hQ : Q (some (.int (nar t z))) T.heap locs) (hk : cells ≤ K) (hn : slots ≤ N) :
    own_Go p.tables e below (own_FinW below s Q K N) (T.setTop (mkF m pc Ls (.int z :: rest))) := by
  obtain ⟨fs, hr, hrun, hended, hE⟩ := X.leaveW hS hn₁ (v := some (.int (nar t z))) (fun h => by rw [hret] at h; cases h) hlocks
  exact ⟨_, _, retN X hx hret ht hd hr, hrun, hended, _, _, rfl, hQ, own_more hE hk hn⟩
theorem own_retAW (X : Stand p l e R (s.setVm vm₁) m args below meth c T locs cells slots) (hS : s.Since vm₁ n₁) (hn₁ : n₁ ≤ T.heap.size) (hlocks : meth.locks = false) (hx : p.tables.exec = Jvm.exec) {pc : Nat} {Ls : Array Slot} {w : Value} {rest : List Value} {t : FieldType} (hret : meth.sig.returnType = some t) (ht : t.isReference = true) (hn' : narrow t w = w) (hw : w.isRef = true) (hd : decode c.code pc = .ok (.areturn, 1)) (hQ : Q (some w) T.heap locs) (hk : cells ≤ K) (hn : slots ≤ N) :
    own_Go p.tables e below (own_FinW below s Q K N) (T.setTop (mkF m pc Ls (w :: rest))) := by
  obtain ⟨fs, hr, hrun, hended, hE⟩ := X.leaveW hS hn₁ (v := some w) (fun h => by rw [hret] at h; cases h) hlocks
  exact ⟨_, _, retOut X hx (i := .areturn) hret hn' (Or.inr (Or.inr (Or.inr (Or.inr ⟨rfl, ht, hw⟩)))) hd hr, hrun, hended, _, _, rfl, hQ, own_more hE hk hn⟩
theorem own_ret0W (X : Stand p l e R (s.setVm vm₁) m args below meth c T locs cells slots) (hS : s.Since vm₁ n₁) (hn₁ : n₁ ≤ T.heap.size) (hlocks : meth.locks = false) (hx : p.tables.exec = Jvm.exec) {pc : Nat} {Ls : Array Slot} (hret : meth.sig.returnType = none) (hd : decode c.code pc = .ok (.return_, 1)) (hQ : Q none T.heap locs) (hk : cells ≤ K) (hn : slots ≤ N) :
    own_Go p.tables e below (own_FinW below s Q K N) (T.setTop (mkF m pc Ls [])) := by
  obtain ⟨fs, hr, hrun, hended, hE⟩ := X.leaveW hS hn₁ (v := none) (fun _ => rfl) hlocks
  exact ⟨_, _, X.returnOut hx hret hd hr, hrun, hended, _, _, rfl, hQ, own_more hE hk hn⟩
end OwnRet
section OwnTidy
variable {p : Program} {l : Launch} {e : Env} {R : Room} {s : State} {m : MethodId} {args : Array Value} {below : List Frame} {meth : Method} {c : Code} {T : State} {locs : List Loc} {cells slots : Nat} {Q : Option Value → Heap → List Loc → Prop} {kc ks c' n' : Nat} {g : JFrame} {rest : List Value}
/-- behind a call: the places, cells and slots in plain figures -/
theorem own_tidyV (X : Stand p l e R s m args below meth c T locs cells slots) {s₀ : State} (h : ∃ (v : Option Value) (vm₁ : Vm) (B : Pt), s.WarmedH vm₁ ∧ Stand p l e R s m args below meth c B.U B.locs B.cells B.slots ∧ (∃ L, Q v B.U.heap L ∧ B.locs = locs ++ L ∧ B.cells = cells + kc ∧ B.slots = slots + ks) ∧ Steps p.tables e below s₀ (B.U.setTop { g with pc := g.pc + 3, stack := v.toList ++ rest })) (hc : cells + kc = c') (hs : slots + ks = n') :
    ∃ (v : Option Value) (T' : State) (L : List Loc), Stand p l e R s m args below meth c T' (locs ++ L) c' n' ∧ Q v T'.heap L ∧ Steps p.tables e below s₀ (T'.setTop { g with pc := g.pc + 3, stack := v.toList ++ rest }) := by
  obtain ⟨v, vm₁, ⟨U, L0, k0, n0⟩, -, X', ⟨L, hQ, h1, h2, h3⟩, st⟩ := h
  dsimp only [Pt.U, Pt.locs, Pt.cells, Pt.slots] at X' hQ h1 h2 h3 st
  subst h1 h2 h3 hc hs
  exact ⟨v, U, L, X', hQ, st⟩
theorem own_tidyS (X : Stand p l e R s m args below meth c T locs cells slots) {s₀ : State} (h : ∃ (v : Option Value) (vm₁ : Vm) (B : Pt), s.WarmedH vm₁ ∧ Stand p l e R s m args below meth c B.U B.locs B.cells B.slots ∧ (∃ L, Q v B.U.heap L ∧ B.locs = locs ++ L ∧ B.cells = cells + kc ∧ B.slots = slots + ks) ∧ ∀ target, Steps p.tables e below (B.U.setTop { g with pc := g.pc + 3, stack := v.toList ++ rest }) target → Steps p.tables e below s₀ target) (hc : cells + kc = c') (hs : slots + ks = n') :
    ∃ (v : Option Value) (T' : State) (L : List Loc), Stand p l e R s m args below meth c T' (locs ++ L) c' n' ∧ Q v T'.heap L ∧ ∀ target, Steps p.tables e below (T'.setTop { g with pc := g.pc + 3, stack := v.toList ++ rest }) target → Steps p.tables e below s₀ target := by
  obtain ⟨v, vm₁, ⟨U, L0, k0, n0⟩, -, X', ⟨L, hQ, h1, h2, h3⟩, st⟩ := h
  dsimp only [Pt.U, Pt.locs, Pt.cells, Pt.slots] at X' hQ h1 h2 h3 st
  subst h1 h2 h3 hc hs
  exact ⟨v, U, L, X', hQ, st⟩
end OwnTidy
theorem own_val {x y : Int32} (h : y = x) : some (Value.int x) = some (Value.int y) := by rw [h]
theorem own_valJ {x y : Int64} (h : y = x) : some (Value.long x) = some (Value.long y) := by rw [h]
theorem own_valV {x y : Value} (h : y = x) : some x = some y := by rw [h]
theorem own_valR {x y : Addr} (h : y = x) : some (Value.ref x) = some (Value.ref y) := by rw [h]
theorem own_catR (a : Addr) : (Value.ref a).category = 1 := rfl
theorem own_cat {v : Value} (h : v.isRef = true) : v.category = 1 := by rcases ref_cases h with rfl | ⟨z, rfl⟩ <;> rfl
theorem own_narR {v : Value} {C : String} (h : v.isRef = true) : narrow (.object C) v = v := by rcases ref_cases h with rfl | ⟨z, rfl⟩ <;> rfl
theorem own_fitR {v : Value} {C : String} (h : v.isRef = true) : fits (.object C) v = true := by rcases ref_cases h with rfl | ⟨z, rfl⟩ <;> rfl
theorem own_narA {v : Value} {t : FieldType} (h : v.isRef = true) : narrow (.array t) v = v := by rcases ref_cases h with rfl | ⟨z, rfl⟩ <;> rfl
theorem own_fitA {v : Value} {t : FieldType} (h : v.isRef = true) : fits (.array t) v = true := by rcases ref_cases h with rfl | ⟨z, rfl⟩ <;> rfl
theorem own_dne {p : Prop} (h : p) : ¬ ¬ p := fun q => q h
theorem d1_0 : decode prog_23_method_1_code 0 = .ok (.aload_n 0, 1) := by decide +kernel
theorem d1_1 : decode prog_23_method_1_code 1 = .ok (.invokespecial 1, 3) := by decide +kernel
theorem d1_4 : decode prog_23_method_1_code 4 = .ok (.return_, 1) := by decide +kernel
theorem pn_1 : plainName "com/example/pathgauge/pathgauge/e1/MultiframeSearch" = true := by first | (simp [plainName, overriddenIn]; done) | decide +kernel
theorem ef_1 (m : MethodId) (a1 : Addr) : entryFrame m #[(.ref a1)] 1 = mkF m 0 #[.val (.ref a1)] [] := by first | (simp [entryFrame, mkF, argsToLocals, Value.category]; done) | rfl
def Q1 (Z : State) (a1 : Addr) (h0 : Heap) (n0 : Nat) (v : Option Value) (h : Heap) (L : List Loc) : Prop := v = none ∧ Fr n0 L ∧ h = h0
set_option maxRecDepth 65536 in
set_option maxHeartbeats 40000000 in
theorem rm1 (l : Launch) (Z : State) (a0 : Array Value) (hw : ∀ d ∈ tables_1, d.before a0 Z = true) (ws : List Jvm.Cond) (a1 : Addr) (h0 : Heap) (n0 : Nat) (Z0 : n0 ≤ h0.size) :
    MetFree l (⟨"com/example/pathgauge/pathgauge/e1/MultiframeSearch", "<init>", "()V"⟩ : MethodName) (head1 (Jvm.Cond.code (⟨"com/example/pathgauge/pathgauge/e1/MultiframeSearch", "<init>", "()V"⟩ : MethodName) prog_23_method_1_code 1 none :: ws) ({ frames := 1, cells := 0, slots := 0, locals := 12 } : Room)) (fun a U => a = #[(.ref a1)] ∧ Z.Warmed39 U.vm ∧ U.heap = h0) (fun _ _ _ _ _ => True) (fun _ U o U' => ∃ v L, o = .returned v ∧ Q1 Z a1 h0 n0 v U'.heap L ∧ FrameEnd U o U' L ({ frames := 1, cells := 0, slots := 0, locals := 12 } : Room).cells ({ frames := 1, cells := 0, slots := 0, locals := 12 } : Room).slots) := by
  refine MetFree.of_bodySF (plainFor_of_name pn_1) hisR ?_
  intro p e s m args below meth c s₁ Bd hml0 hP hK
  obtain ⟨rfl, hZ, hh⟩ := hP
  have hx := Bd.exec
  have hby := Bd.bytes
  have hml : c.maxLocals = 1 := hml0
  have hown : s.vm.findClass "com/example/pathgauge/pathgauge/e1/MultiframeSearch" = some m.cls := findClass_of_methodNamed Bd.named
  have hnm := (name_of_methodNamed Bd.named Bd.method).1
  have X0 : Stand p l e ({ frames := 1, cells := 0, slots := 0, locals := 12 } : Room) s m #[(.ref a1)] below meth c s₁ [] 0 0 := Stand.of_body Bd
  have e0 : s₁.heap = h0 := by rw [← hh, Bd.state]; rfl
  have N0 := Fr.nil n0
  show own_Go p.tables e below (own_Fin below s (Q1 Z a1 h0 n0) ({ frames := 1, cells := 0, slots := 0, locals := 12 } : Room).cells ({ frames := 1, cells := 0, slots := 0, locals := 12 } : Room).slots) (s₁.setTop (entryFrame m #[(.ref a1)] 1))
  refine own_go (S' := s₁.setTop (mkF m 0 #[.val (.ref a1)] [])) (fun t k => castTop (ef_1 m a1) k) ?_
  show own_Go p.tables e below _ (s₁.setTop (mkF m 0 #[.val (.ref a1)] []))
  refine own_go (fun _ => XS.aloadN X0.here hx rfl (hb hby d1_0) rfl rfl) ?_
  show own_Go p.tables e below _ (s₁.setTop (mkF m 1 #[.val (.ref a1)] [(.ref a1)]))
  obtain ⟨T2, X2, e2, st2⟩ := initO X0 hx hZ hown (hw _ (List.mem_of_getElem? (i := 6) rfl)) (hw _ (List.mem_of_getElem? (i := 7) rfl)) (hw _ (List.mem_of_getElem? (i := 8) rfl)) e0 (g := (mkF m 1 #[.val (.ref a1)] [(.ref a1)])) rfl (by rw [hml]; rfl) rfl (hb hby d1_1) (by decide) (W := 0) (by show 2 * 0 + _ ≤ _; exact Nat.le_of_eq rfl) (by decide)
  refine own_go st2 ?_
  show own_Go p.tables e below _ (T2.setTop (mkF m 4 #[.val (.ref a1)] []))
  refine own_ret0 X2 Bd.notSynchronized hx Bd.returns (hb hby d1_4) (show Q1 Z a1 h0 n0 _ T2.heap _ from by rw [e2]; exact ⟨rfl, N0, rfl⟩) (by decide) (by decide)
theorem d3_0 : decode method_2_code 0 = .ok (.iload_n 0, 1) := by decide +kernel
theorem d3_1 : decode method_2_code 1 = .ok (.iload_n 2, 1) := by decide +kernel
theorem d3_2 : decode method_2_code 2 = .ok (.ldc 7, 2) := by decide +kernel
theorem d3_4 : decode method_2_code 4 = .ok (.imul, 1) := by decide +kernel
theorem d3_5 : decode method_2_code 5 = .ok (.ixor, 1) := by decide +kernel
theorem d3_6 : decode method_2_code 6 = .ok (.sipush (-129), 3) := by decide +kernel
theorem d3_9 : decode method_2_code 9 = .ok (.iand, 1) := by decide +kernel
theorem d3_10 : decode method_2_code 10 = .ok (.iload_n 1, 1) := by decide +kernel
theorem d3_11 : decode method_2_code 11 = .ok (.iload_n 2, 1) := by decide +kernel
theorem d3_12 : decode method_2_code 12 = .ok (.iushr, 1) := by decide +kernel
theorem d3_13 : decode method_2_code 13 = .ok (.iconst 1, 1) := by decide +kernel
theorem d3_14 : decode method_2_code 14 = .ok (.iand, 1) := by decide +kernel
theorem d3_15 : decode method_2_code 15 = .ok (.bipush 7, 2) := by decide +kernel
theorem d3_17 : decode method_2_code 17 = .ok (.ishl, 1) := by decide +kernel
theorem d3_18 : decode method_2_code 18 = .ok (.ior, 1) := by decide +kernel
theorem d3_19 : decode method_2_code 19 = .ok (.ireturn, 1) := by decide +kernel
theorem pn_3 : plainName "com/example/pathgauge/pathgauge/e1/MultiframeSearchTakePinLaw" = true := by first | (simp [plainName, overriddenIn]; done) | decide +kernel
theorem ef_3 (m : MethodId) (p1 : Int32) (p2 : Int32) (p3 : Int32) : entryFrame m #[(.int p1), (.int p2), (.int p3)] 3 = mkF m 0 #[.val (.int p1), .val (.int p2), .val (.int p3)] [] := by first | (simp [entryFrame, mkF, argsToLocals, Value.category]; done) | rfl
def own_f3 (p1 : Int32) (p2 : Int32) (p3 : Int32) : Int32 :=
  (((p1 ^^^ (p3 * (16777619 : Int32))) &&& (-129 : Int32)) ||| ((((p2.toUInt32 >>> (p3 &&& 31).toUInt32).toInt32) &&& (1 : Int32)) <<< ((7 : Int32) &&& 31)))
def Q3 (Z : State) (p1 : Int32) (p2 : Int32) (p3 : Int32) (h0 : Heap) (n0 : Nat) (v : Option Value) (h : Heap) (L : List Loc) : Prop := v = some (.int (own_f3 p1 p2 p3)) ∧ Fr n0 L ∧ h = h0
set_option maxRecDepth 65536 in
set_option maxHeartbeats 40000000 in
theorem rm3 (l : Launch) (Z : State) (a0 : Array Value) (hw : ∀ d ∈ tables_1, d.before a0 Z = true) (ws : List Jvm.Cond) (p1 : Int32) (p2 : Int32) (p3 : Int32) (h0 : Heap) (n0 : Nat) (Z0 : n0 ≤ h0.size) :
    MetFree l (⟨"com/example/pathgauge/pathgauge/e1/MultiframeSearchTakePinLaw", "ts", "(III)I"⟩ : MethodName) (head1 (Jvm.Cond.code (⟨"com/example/pathgauge/pathgauge/e1/MultiframeSearchTakePinLaw", "ts", "(III)I"⟩ : MethodName) method_2_code 3 (some .int) :: ws) ({ frames := 0, cells := 0, slots := 0, locals := 0 } : Room)) (fun a U => a = #[(.int p1), (.int p2), (.int p3)] ∧ Z.Warmed39 U.vm ∧ U.heap = h0) (fun _ _ _ _ _ => True) (fun _ U o U' => ∃ v L, o = .returned v ∧ Q3 Z p1 p2 p3 h0 n0 v U'.heap L ∧ FrameEnd U o U' L ({ frames := 0, cells := 0, slots := 0, locals := 0 } : Room).cells ({ frames := 0, cells := 0, slots := 0, locals := 0 } : Room).slots) := by
  refine MetFree.of_bodySF (plainFor_of_name pn_3) hisR ?_
  intro p e s m args below meth c s₁ Bd hml0 hP hK
  obtain ⟨rfl, hZ, hh⟩ := hP
  have hx := Bd.exec
  have hby := Bd.bytes
  have hml : c.maxLocals = 3 := hml0
  have hown : s.vm.findClass "com/example/pathgauge/pathgauge/e1/MultiframeSearchTakePinLaw" = some m.cls := findClass_of_methodNamed Bd.named
  have hnm := (name_of_methodNamed Bd.named Bd.method).1
  have X0 : Stand p l e ({ frames := 0, cells := 0, slots := 0, locals := 0 } : Room) s m #[(.int p1), (.int p2), (.int p3)] below meth c s₁ [] 0 0 := Stand.of_body Bd
  have e0 : s₁.heap = h0 := by rw [← hh, Bd.state]; rfl
  have N0 := Fr.nil n0
  show own_Go p.tables e below (own_Fin below s (Q3 Z p1 p2 p3 h0 n0) ({ frames := 0, cells := 0, slots := 0, locals := 0 } : Room).cells ({ frames := 0, cells := 0, slots := 0, locals := 0 } : Room).slots) (s₁.setTop (entryFrame m #[(.int p1), (.int p2), (.int p3)] 3))
  refine own_go (S' := s₁.setTop (mkF m 0 #[.val (.int p1), .val (.int p2), .val (.int p3)] [])) (fun t k => castTop (ef_3 m p1 p2 p3) k) ?_
  show own_Go p.tables e below _ (s₁.setTop (mkF m 0 #[.val (.int p1), .val (.int p2), .val (.int p3)] []))
  refine own_go (fun _ => XS.iloadN X0.here hx rfl (hb hby d3_0) rfl) ?_
  show own_Go p.tables e below _ (s₁.setTop (mkF m 1 #[.val (.int p1), .val (.int p2), .val (.int p3)] [(.int p1)]))
  refine own_go (fun _ => XS.iloadN X0.here hx rfl (hb hby d3_1) rfl) ?_
  show own_Go p.tables e below _ (s₁.setTop (mkF m 2 #[.val (.int p1), .val (.int p2), .val (.int p3)] [(.int p3), (.int p1)]))
  refine own_go (X0.ldcInt hx hown (mvT hZ (hw _ (List.mem_of_getElem? (i := 13) rfl))) (g := (mkF m 2 #[.val (.int p1), .val (.int p2), .val (.int p3)] [(.int p3), (.int p1)])) rfl (hb hby d3_2)) ?_
  show own_Go p.tables e below _ (s₁.setTop (mkF m 4 #[.val (.int p1), .val (.int p2), .val (.int p3)] [(.int (16777619 : Int32)), (.int p3), (.int p1)]))
  refine own_go (fun _ => XS.imul X0.here hx rfl (hb hby d3_4) rfl) ?_
  show own_Go p.tables e below _ (s₁.setTop (mkF m 5 #[.val (.int p1), .val (.int p2), .val (.int p3)] [(.int (p3 * (16777619 : Int32))), (.int p1)]))
  refine own_go (fun _ => XS.ixor X0.here hx rfl (hb hby d3_5) rfl) ?_
  show own_Go p.tables e below _ (s₁.setTop (mkF m 6 #[.val (.int p1), .val (.int p2), .val (.int p3)] [(.int (p1 ^^^ (p3 * (16777619 : Int32))))]))
  refine own_go (fun _ => XS.sipush X0.here hx rfl (hb hby d3_6)) ?_
  show own_Go p.tables e below _ (s₁.setTop (mkF m 9 #[.val (.int p1), .val (.int p2), .val (.int p3)] [(.int (-129 : Int32)), (.int (p1 ^^^ (p3 * (16777619 : Int32))))]))
  refine own_go (fun _ => XS.iand X0.here hx rfl (hb hby d3_9) rfl) ?_
  show own_Go p.tables e below _ (s₁.setTop (mkF m 10 #[.val (.int p1), .val (.int p2), .val (.int p3)] [(.int ((p1 ^^^ (p3 * (16777619 : Int32))) &&& (-129 : Int32)))]))
  refine own_go (fun _ => XS.iloadN X0.here hx rfl (hb hby d3_10) rfl) ?_
  show own_Go p.tables e below _ (s₁.setTop (mkF m 11 #[.val (.int p1), .val (.int p2), .val (.int p3)] [(.int p2), (.int ((p1 ^^^ (p3 * (16777619 : Int32))) &&& (-129 : Int32)))]))
  refine own_go (fun _ => XS.iloadN X0.here hx rfl (hb hby d3_11) rfl) ?_
  show own_Go p.tables e below _ (s₁.setTop (mkF m 12 #[.val (.int p1), .val (.int p2), .val (.int p3)] [(.int p3), (.int p2), (.int ((p1 ^^^ (p3 * (16777619 : Int32))) &&& (-129 : Int32)))]))
  refine own_go (fun _ => XS.iushr X0.here hx rfl (hb hby d3_12) rfl) ?_
  show own_Go p.tables e below _ (s₁.setTop (mkF m 13 #[.val (.int p1), .val (.int p2), .val (.int p3)] [(.int ((p2.toUInt32 >>> (p3 &&& 31).toUInt32).toInt32)), (.int ((p1 ^^^ (p3 * (16777619 : Int32))) &&& (-129 : Int32)))]))
  refine own_go (fun _ => XS.iconst X0.here hx rfl (hb hby d3_13)) ?_
  show own_Go p.tables e below _ (s₁.setTop (mkF m 14 #[.val (.int p1), .val (.int p2), .val (.int p3)] [(.int (1 : Int32)), (.int ((p2.toUInt32 >>> (p3 &&& 31).toUInt32).toInt32)), (.int ((p1 ^^^ (p3 * (16777619 : Int32))) &&& (-129 : Int32)))]))
  refine own_go (fun _ => XS.iand X0.here hx rfl (hb hby d3_14) rfl) ?_
  show own_Go p.tables e below _ (s₁.setTop (mkF m 15 #[.val (.int p1), .val (.int p2), .val (.int p3)] [(.int (((p2.toUInt32 >>> (p3 &&& 31).toUInt32).toInt32) &&& (1 : Int32))), (.int ((p1 ^^^ (p3 * (16777619 : Int32))) &&& (-129 : Int32)))]))
  refine own_go (fun _ => XS.bipush X0.here hx rfl (hb hby d3_15)) ?_
  show own_Go p.tables e below _ (s₁.setTop (mkF m 17 #[.val (.int p1), .val (.int p2), .val (.int p3)] [(.int (7 : Int32)), (.int (((p2.toUInt32 >>> (p3 &&& 31).toUInt32).toInt32) &&& (1 : Int32))), (.int ((p1 ^^^ (p3 * (16777619 : Int32))) &&& (-129 : Int32)))]))
  refine own_go (fun _ => XS.ishl X0.here hx rfl (hb hby d3_17) rfl) ?_
  show own_Go p.tables e below _ (s₁.setTop (mkF m 18 #[.val (.int p1), .val (.int p2), .val (.int p3)] [(.int ((((p2.toUInt32 >>> (p3 &&& 31).toUInt32).toInt32) &&& (1 : Int32)) <<< ((7 : Int32) &&& 31))), (.int ((p1 ^^^ (p3 * (16777619 : Int32))) &&& (-129 : Int32)))]))
  refine own_go (fun _ => XS.ior X0.here hx rfl (hb hby d3_18) rfl) ?_
  show own_Go p.tables e below _ (s₁.setTop (mkF m 19 #[.val (.int p1), .val (.int p2), .val (.int p3)] [(.int (((p1 ^^^ (p3 * (16777619 : Int32))) &&& (-129 : Int32)) ||| ((((p2.toUInt32 >>> (p3 &&& 31).toUInt32).toInt32) &&& (1 : Int32)) <<< ((7 : Int32) &&& 31))))]))
  refine own_retI X0 Bd.notSynchronized hx Bd.returns (hb hby d3_19) (show Q3 Z p1 p2 p3 h0 n0 _ s₁.heap _ from by rw [e0]; exact ⟨rfl, N0, rfl⟩) (by decide) (by decide)
theorem d5_0 : decode method_3_code 0 = .ok (.iload_n 0, 1) := by decide +kernel
theorem d5_1 : decode method_3_code 1 = .ok (.iload_n 1, 1) := by decide +kernel
theorem d5_2 : decode method_3_code 2 = .ok (.iushr, 1) := by decide +kernel
theorem d5_3 : decode method_3_code 3 = .ok (.bipush 63, 2) := by decide +kernel
theorem d5_5 : decode method_3_code 5 = .ok (.iand, 1) := by decide +kernel
theorem d5_6 : decode method_3_code 6 = .ok (.bipush 52, 2) := by decide +kernel
theorem d5_8 : decode method_3_code 8 = .ok (.if_icmp .ne 21, 3) := by decide +kernel
theorem d5_11 : decode method_3_code 11 = .ok (.iload_n 0, 1) := by decide +kernel
theorem d5_12 : decode method_3_code 12 = .ok (.iload_n 1, 1) := by decide +kernel
theorem d5_13 : decode method_3_code 13 = .ok (.bipush 8, 2) := by decide +kernel
theorem d5_15 : decode method_3_code 15 = .ok (.iadd, 1) := by decide +kernel
theorem d5_16 : decode method_3_code 16 = .ok (.iushr, 1) := by decide +kernel
theorem d5_17 : decode method_3_code 17 = .ok (.bipush 63, 2) := by decide +kernel
theorem d5_19 : decode method_3_code 19 = .ok (.iand, 1) := by decide +kernel
theorem d5_20 : decode method_3_code 20 = .ok (.bipush 52, 2) := by decide +kernel
theorem d5_22 : decode method_3_code 22 = .ok (.if_icmp .ne 7, 3) := by decide +kernel
theorem d5_25 : decode method_3_code 25 = .ok (.iconst 1, 1) := by decide +kernel
theorem d5_26 : decode method_3_code 26 = .ok (.goto 4, 3) := by decide +kernel
theorem d5_29 : decode method_3_code 29 = .ok (.iconst 0, 1) := by decide +kernel
theorem d5_30 : decode method_3_code 30 = .ok (.ireturn, 1) := by decide +kernel
theorem pn_5 : plainName "com/example/pathgauge/pathgauge/e1/MultiframeSearchTakePinLaw" = true := by first | (simp [plainName, overriddenIn]; done) | decide +kernel
theorem ef_5 (m : MethodId) (p1 : Int32) (p2 : Int32) : entryFrame m #[(.int p1), (.int p2)] 2 = mkF m 0 #[.val (.int p1), .val (.int p2)] [] := by first | (simp [entryFrame, mkF, argsToLocals, Value.category]; done) | rfl
def own_f5 (p1 : Int32) (p2 : Int32) : Int32 :=
  if (((p1.toUInt32 >>> (p2 &&& 31).toUInt32).toInt32) &&& (63 : Int32)) = (52 : Int32) then (if (((p1.toUInt32 >>> ((p2 + (8 : Int32)) &&& 31).toUInt32).toInt32) &&& (63 : Int32)) = (52 : Int32) then (1 : Int32)
    else (0 : Int32))
  else (0 : Int32)
def Q5 (Z : State) (p1 : Int32) (p2 : Int32) (h0 : Heap) (n0 : Nat) (v : Option Value) (h : Heap) (L : List Loc) : Prop := v = some (.int (own_f5 p1 p2)) ∧ Fr n0 L ∧ h = h0
set_option maxRecDepth 65536 in
set_option maxHeartbeats 40000000 in
theorem rm5 (l : Launch) (Z : State) (a0 : Array Value) (hw : ∀ d ∈ tables_1, d.before a0 Z = true) (ws : List Jvm.Cond) (p1 : Int32) (p2 : Int32) (h0 : Heap) (n0 : Nat) (Z0 : n0 ≤ h0.size) :
    MetFree l (⟨"com/example/pathgauge/pathgauge/e1/MultiframeSearchTakePinLaw", "mfas", "(II)Z"⟩ : MethodName) (head1 (Jvm.Cond.code (⟨"com/example/pathgauge/pathgauge/e1/MultiframeSearchTakePinLaw", "mfas", "(II)Z"⟩ : MethodName) method_3_code 2 (some .boolean) :: ws) ({ frames := 0, cells := 0, slots := 0, locals := 0 } : Room)) (fun a U => a = #[(.int p1), (.int p2)] ∧ Z.Warmed39 U.vm ∧ U.heap = h0) (fun _ _ _ _ _ => True) (fun _ U o U' => ∃ v L, o = .returned v ∧ Q5 Z p1 p2 h0 n0 v U'.heap L ∧ FrameEnd U o U' L ({ frames := 0, cells := 0, slots := 0, locals := 0 } : Room).cells ({ frames := 0, cells := 0, slots := 0, locals := 0 } : Room).slots) := by
  refine MetFree.of_bodySF (plainFor_of_name pn_5) hisR ?_
  intro p e s m args below meth c s₁ Bd hml0 hP hK
  obtain ⟨rfl, hZ, hh⟩ := hP
  have hx := Bd.exec
  have hby := Bd.bytes
  have hml : c.maxLocals = 2 := hml0
  have hown : s.vm.findClass "com/example/pathgauge/pathgauge/e1/MultiframeSearchTakePinLaw" = some m.cls := findClass_of_methodNamed Bd.named
  have hnm := (name_of_methodNamed Bd.named Bd.method).1
  have X0 : Stand p l e ({ frames := 0, cells := 0, slots := 0, locals := 0 } : Room) s m #[(.int p1), (.int p2)] below meth c s₁ [] 0 0 := Stand.of_body Bd
  have e0 : s₁.heap = h0 := by rw [← hh, Bd.state]; rfl
  have N0 := Fr.nil n0
  show own_Go p.tables e below (own_Fin below s (Q5 Z p1 p2 h0 n0) ({ frames := 0, cells := 0, slots := 0, locals := 0 } : Room).cells ({ frames := 0, cells := 0, slots := 0, locals := 0 } : Room).slots) (s₁.setTop (entryFrame m #[(.int p1), (.int p2)] 2))
  refine own_go (S' := s₁.setTop (mkF m 0 #[.val (.int p1), .val (.int p2)] [])) (fun t k => castTop (ef_5 m p1 p2) k) ?_
  show own_Go p.tables e below _ (s₁.setTop (mkF m 0 #[.val (.int p1), .val (.int p2)] []))
  refine own_go (fun _ => XS.iloadN X0.here hx rfl (hb hby d5_0) rfl) ?_
  show own_Go p.tables e below _ (s₁.setTop (mkF m 1 #[.val (.int p1), .val (.int p2)] [(.int p1)]))
  refine own_go (fun _ => XS.iloadN X0.here hx rfl (hb hby d5_1) rfl) ?_
  show own_Go p.tables e below _ (s₁.setTop (mkF m 2 #[.val (.int p1), .val (.int p2)] [(.int p2), (.int p1)]))
  refine own_go (fun _ => XS.iushr X0.here hx rfl (hb hby d5_2) rfl) ?_
  show own_Go p.tables e below _ (s₁.setTop (mkF m 3 #[.val (.int p1), .val (.int p2)] [(.int ((p1.toUInt32 >>> (p2 &&& 31).toUInt32).toInt32))]))
  refine own_go (fun _ => XS.bipush X0.here hx rfl (hb hby d5_3)) ?_
  show own_Go p.tables e below _ (s₁.setTop (mkF m 5 #[.val (.int p1), .val (.int p2)] [(.int (63 : Int32)), (.int ((p1.toUInt32 >>> (p2 &&& 31).toUInt32).toInt32))]))
  refine own_go (fun _ => XS.iand X0.here hx rfl (hb hby d5_5) rfl) ?_
  show own_Go p.tables e below _ (s₁.setTop (mkF m 6 #[.val (.int p1), .val (.int p2)] [(.int (((p1.toUInt32 >>> (p2 &&& 31).toUInt32).toInt32) &&& (63 : Int32)))]))
  refine own_go (fun _ => XS.bipush X0.here hx rfl (hb hby d5_6)) ?_
  show own_Go p.tables e below _ (s₁.setTop (mkF m 8 #[.val (.int p1), .val (.int p2)] [(.int (52 : Int32)), (.int (((p1.toUInt32 >>> (p2 &&& 31).toUInt32).toInt32) &&& (63 : Int32)))]))
  by_cases hc3_8 : (((p1.toUInt32 >>> (p2 &&& 31).toUInt32).toInt32) &&& (63 : Int32)) = (52 : Int32)
  · skip
    refine own_go (fun _ => XS.icmpNo X0.here hx rfl (hb hby d5_8) rfl (teq hc3_8).2) ?_
    show own_Go p.tables e below _ (s₁.setTop (mkF m 11 #[.val (.int p1), .val (.int p2)] []))
    refine own_go (fun _ => XS.iloadN X0.here hx rfl (hb hby d5_11) rfl) ?_
    show own_Go p.tables e below _ (s₁.setTop (mkF m 12 #[.val (.int p1), .val (.int p2)] [(.int p1)]))
    refine own_go (fun _ => XS.iloadN X0.here hx rfl (hb hby d5_12) rfl) ?_
    show own_Go p.tables e below _ (s₁.setTop (mkF m 13 #[.val (.int p1), .val (.int p2)] [(.int p2), (.int p1)]))
    refine own_go (fun _ => XS.bipush X0.here hx rfl (hb hby d5_13)) ?_
    show own_Go p.tables e below _ (s₁.setTop (mkF m 15 #[.val (.int p1), .val (.int p2)] [(.int (8 : Int32)), (.int p2), (.int p1)]))
    refine own_go (fun _ => XS.iadd X0.here hx rfl (hb hby d5_15) rfl) ?_
    show own_Go p.tables e below _ (s₁.setTop (mkF m 16 #[.val (.int p1), .val (.int p2)] [(.int (p2 + (8 : Int32))), (.int p1)]))
    refine own_go (fun _ => XS.iushr X0.here hx rfl (hb hby d5_16) rfl) ?_
    show own_Go p.tables e below _ (s₁.setTop (mkF m 17 #[.val (.int p1), .val (.int p2)] [(.int ((p1.toUInt32 >>> ((p2 + (8 : Int32)) &&& 31).toUInt32).toInt32))]))
    refine own_go (fun _ => XS.bipush X0.here hx rfl (hb hby d5_17)) ?_
    show own_Go p.tables e below _ (s₁.setTop (mkF m 19 #[.val (.int p1), .val (.int p2)] [(.int (63 : Int32)), (.int ((p1.toUInt32 >>> ((p2 + (8 : Int32)) &&& 31).toUInt32).toInt32))]))
    refine own_go (fun _ => XS.iand X0.here hx rfl (hb hby d5_19) rfl) ?_
    show own_Go p.tables e below _ (s₁.setTop (mkF m 20 #[.val (.int p1), .val (.int p2)] [(.int (((p1.toUInt32 >>> ((p2 + (8 : Int32)) &&& 31).toUInt32).toInt32) &&& (63 : Int32)))]))
    refine own_go (fun _ => XS.bipush X0.here hx rfl (hb hby d5_20)) ?_
    show own_Go p.tables e below _ (s₁.setTop (mkF m 22 #[.val (.int p1), .val (.int p2)] [(.int (52 : Int32)), (.int (((p1.toUInt32 >>> ((p2 + (8 : Int32)) &&& 31).toUInt32).toInt32) &&& (63 : Int32)))]))
    by_cases hc4_22 : (((p1.toUInt32 >>> ((p2 + (8 : Int32)) &&& 31).toUInt32).toInt32) &&& (63 : Int32)) = (52 : Int32)
    · skip
      refine own_go (fun _ => XS.icmpNo X0.here hx rfl (hb hby d5_22) rfl (teq hc4_22).2) ?_
      show own_Go p.tables e below _ (s₁.setTop (mkF m 25 #[.val (.int p1), .val (.int p2)] []))
      refine own_go (fun _ => XS.iconst X0.here hx rfl (hb hby d5_25)) ?_
      show own_Go p.tables e below _ (s₁.setTop (mkF m 26 #[.val (.int p1), .val (.int p2)] [(.int (1 : Int32))]))
      refine own_go (fun _ => XS.goto X0.here hx rfl (pc0 := 26) (pc' := 30) rfl (hb hby d5_26) (by decide) (by decide)) ?_
      show own_Go p.tables e below _ (s₁.setTop (mkF m 30 #[.val (.int p1), .val (.int p2)] [(.int (1 : Int32))]))
      refine own_retN X0 Bd.notSynchronized hx (t := .boolean) Bd.returns (by simp) (hb hby d5_30) (show Q5 Z p1 p2 h0 n0 _ s₁.heap _ from by rw [e0]; exact ⟨(own_val ((if_pos hc3_8).trans ((if_pos hc4_22).trans rfl))), N0, rfl⟩) (by decide) (by decide)
    · skip
      refine own_go (fun _ => XS.icmpYes X0.here hx rfl (pc0 := 22) (pc' := 29) rfl (hb hby d5_22) rfl (feq hc4_22).2 (by decide) (by decide)) ?_
      show own_Go p.tables e below _ (s₁.setTop (mkF m 29 #[.val (.int p1), .val (.int p2)] []))
      refine own_go (fun _ => XS.iconst X0.here hx rfl (hb hby d5_29)) ?_
      show own_Go p.tables e below _ (s₁.setTop (mkF m 30 #[.val (.int p1), .val (.int p2)] [(.int (0 : Int32))]))
      refine own_retN X0 Bd.notSynchronized hx (t := .boolean) Bd.returns (by simp) (hb hby d5_30) (show Q5 Z p1 p2 h0 n0 _ s₁.heap _ from by rw [e0]; exact ⟨(own_val ((if_pos hc3_8).trans ((if_neg hc4_22).trans rfl))), N0, rfl⟩) (by decide) (by decide)
  · skip
    refine own_go (fun _ => XS.icmpYes X0.here hx rfl (pc0 := 8) (pc' := 29) rfl (hb hby d5_8) rfl (feq hc3_8).2 (by decide) (by decide)) ?_
    show own_Go p.tables e below _ (s₁.setTop (mkF m 29 #[.val (.int p1), .val (.int p2)] []))
    refine own_go (fun _ => XS.iconst X0.here hx rfl (hb hby d5_29)) ?_
    show own_Go p.tables e below _ (s₁.setTop (mkF m 30 #[.val (.int p1), .val (.int p2)] [(.int (0 : Int32))]))
    refine own_retN X0 Bd.notSynchronized hx (t := .boolean) Bd.returns (by simp) (hb hby d5_30) (show Q5 Z p1 p2 h0 n0 _ s₁.heap _ from by rw [e0]; exact ⟨(own_val ((if_neg hc3_8).trans rfl)), N0, rfl⟩) (by decide) (by decide)
theorem d4_0 : decode prog_23_method_3_code 0 = .ok (.aload_n 0, 1) := by decide +kernel
theorem d4_1 : decode prog_23_method_3_code 1 = .ok (.dup, 1) := by decide +kernel
theorem d4_2 : decode prog_23_method_3_code 2 = .ok (.getfield 7, 3) := by decide +kernel
theorem d4_5 : decode prog_23_method_3_code 5 = .ok (.iconst 1, 1) := by decide +kernel
theorem d4_6 : decode prog_23_method_3_code 6 = .ok (.iadd, 1) := by decide +kernel
theorem d4_7 : decode prog_23_method_3_code 7 = .ok (.putfield 7, 3) := by decide +kernel
theorem d4_10 : decode prog_23_method_3_code 10 = .ok (.iconst 0, 1) := by decide +kernel
theorem d4_11 : decode prog_23_method_3_code 11 = .ok (.istore_n 3, 1) := by decide +kernel
theorem d4_12 : decode prog_23_method_3_code 12 = .ok (.iload_n 2, 1) := by decide +kernel
theorem d4_13 : decode prog_23_method_3_code 13 = .ok (.ifCond .ne 66, 3) := by decide +kernel
theorem d4_16 : decode prog_23_method_3_code 16 = .ok (.aload_n 0, 1) := by decide +kernel
theorem d4_17 : decode prog_23_method_3_code 17 = .ok (.aload_n 0, 1) := by decide +kernel
theorem d4_18 : decode prog_23_method_3_code 18 = .ok (.getfield 13, 3) := by decide +kernel
theorem d4_21 : decode prog_23_method_3_code 21 = .ok (.iconst 1, 1) := by decide +kernel
theorem d4_22 : decode prog_23_method_3_code 22 = .ok (.ishl, 1) := by decide +kernel
theorem d4_23 : decode prog_23_method_3_code 23 = .ok (.iload_n 1, 1) := by decide +kernel
theorem d4_24 : decode prog_23_method_3_code 24 = .ok (.sipush 128, 3) := by decide +kernel
theorem d4_27 : decode prog_23_method_3_code 27 = .ok (.iand, 1) := by decide +kernel
theorem d4_28 : decode prog_23_method_3_code 28 = .ok (.ifCond .eq 7, 3) := by decide +kernel
theorem d4_31 : decode prog_23_method_3_code 31 = .ok (.iconst 1, 1) := by decide +kernel
theorem d4_32 : decode prog_23_method_3_code 32 = .ok (.goto 4, 3) := by decide +kernel
theorem d4_35 : decode prog_23_method_3_code 35 = .ok (.iconst 0, 1) := by decide +kernel
theorem d4_36 : decode prog_23_method_3_code 36 = .ok (.ior, 1) := by decide +kernel
theorem d4_37 : decode prog_23_method_3_code 37 = .ok (.putfield 13, 3) := by decide +kernel
theorem d4_40 : decode prog_23_method_3_code 40 = .ok (.aload_n 0, 1) := by decide +kernel
theorem d4_41 : decode prog_23_method_3_code 41 = .ok (.dup, 1) := by decide +kernel
theorem d4_42 : decode prog_23_method_3_code 42 = .ok (.getfield 16, 3) := by decide +kernel
theorem d4_45 : decode prog_23_method_3_code 45 = .ok (.iconst 1, 1) := by decide +kernel
theorem d4_46 : decode prog_23_method_3_code 46 = .ok (.iadd, 1) := by decide +kernel
theorem d4_47 : decode prog_23_method_3_code 47 = .ok (.putfield 16, 3) := by decide +kernel
theorem d4_50 : decode prog_23_method_3_code 50 = .ok (.aload_n 0, 1) := by decide +kernel
theorem d4_51 : decode prog_23_method_3_code 51 = .ok (.getfield 16, 3) := by decide +kernel
theorem d4_54 : decode prog_23_method_3_code 54 = .ok (.bipush 14, 2) := by decide +kernel
theorem d4_56 : decode prog_23_method_3_code 56 = .ok (.if_icmp .lt 21, 3) := by decide +kernel
theorem d4_59 : decode prog_23_method_3_code 59 = .ok (.aload_n 0, 1) := by decide +kernel
theorem d4_60 : decode prog_23_method_3_code 60 = .ok (.getfield 13, 3) := by decide +kernel
theorem d4_63 : decode prog_23_method_3_code 63 = .ok (.sipush 16191, 3) := by decide +kernel
theorem d4_66 : decode prog_23_method_3_code 66 = .ok (.iand, 1) := by decide +kernel
theorem d4_67 : decode prog_23_method_3_code 67 = .ok (.sipush 2827, 3) := by decide +kernel
theorem d4_70 : decode prog_23_method_3_code 70 = .ok (.if_icmp .ne 7, 3) := by decide +kernel
theorem d4_73 : decode prog_23_method_3_code 73 = .ok (.iconst 1, 1) := by decide +kernel
theorem d4_74 : decode prog_23_method_3_code 74 = .ok (.goto 4, 3) := by decide +kernel
theorem d4_77 : decode prog_23_method_3_code 77 = .ok (.iconst 0, 1) := by decide +kernel
theorem d4_78 : decode prog_23_method_3_code 78 = .ok (.istore_n 3, 1) := by decide +kernel
theorem d4_79 : decode prog_23_method_3_code 79 = .ok (.iload_n 3, 1) := by decide +kernel
theorem d4_80 : decode prog_23_method_3_code 80 = .ok (.ireturn, 1) := by decide +kernel
theorem pn_4 : plainName "com/example/pathgauge/pathgauge/e1/MultiframeSearch" = true := by first | (simp [plainName, overriddenIn]; done) | decide +kernel
theorem ef_4o (m : MethodId) (a1 : Addr) (p2 : Int32) : entryFrame m #[(.ref a1), (.int p2), (.int (0 : Int32))] 4 = mkF m 0 #[.val (.ref a1), .val (.int p2), .val (.int (0 : Int32)), .unset] [] := by first | (simp [entryFrame, mkF, argsToLocals, Value.category]; done) | rfl
def own_v4o_28 (p2 : Int32) : Int32 := (if (p2 &&& (128 : Int32)) = (0 : Int32) then (0 : Int32) else (1 : Int32))
def own_f4o (p2 : Int32) (w4 : Int32) (w8 : Int32) : Int32 :=
  if (w8 + (1 : Int32)) < (14 : Int32) then (0 : Int32)
  else if (((w4 <<< ((1 : Int32) &&& 31)) ||| (own_v4o_28 p2)) &&& (16191 : Int32)) = (2827 : Int32) then (1 : Int32)
  else (0 : Int32)
def Q4o (Z : State) (a1 : Addr) (p2 : Int32) (w1 : Int32) (w4 : Int32) (w8 : Int32) (h0 : Heap) (n0 : Nat) (v : Option Value) (h : Heap) (L : List Loc) : Prop := v = some (.int (own_f4o p2 w4 w8)) ∧ Fr n0 L ∧ Keep h0 h [a1] ∧ Exa Z h a1 "com/example/pathgauge/pathgauge/e1/MultiframeSearch" ∧ Fld Z h a1 "com/example/pathgauge/pathgauge/e1/MultiframeSearch" "frames" "I" (.int (w1 + (1 : Int32))) ∧ Fld Z h a1 "com/example/pathgauge/pathgauge/e1/MultiframeSearch" "oddFrameBits" "I" (.int ((w4 <<< ((1 : Int32) &&& 31)) ||| (own_v4o_28 p2))) ∧ Fld Z h a1 "com/example/pathgauge/pathgauge/e1/MultiframeSearch" "oddFrames" "I" (.int (w8 + (1 : Int32)))
set_option maxRecDepth 65536 in
set_option maxHeartbeats 40000000 in
theorem rm4o (l : Launch) (Z : State) (a0 : Array Value) (hw : ∀ d ∈ tables_1, d.before a0 Z = true) (ws : List Jvm.Cond) (a1 : Addr) (p2 : Int32) (w1 : Int32) (w4 : Int32) (w8 : Int32) (h0 : Heap) (n0 : Nat) (Z0 : n0 ≤ h0.size) (F_frames_a1 : Fld Z h0 a1 "com/example/pathgauge/pathgauge/e1/MultiframeSearch" "frames" "I" (.int w1)) (E_a1 : Exa Z h0 a1 "com/example/pathgauge/pathgauge/e1/MultiframeSearch") (g_a1 : n0 ≤ a1) (F_oddFrameBits_a1 : Fld Z h0 a1 "com/example/pathgauge/pathgauge/e1/MultiframeSearch" "oddFrameBits" "I" (.int w4)) (F_oddFrames_a1 : Fld Z h0 a1 "com/example/pathgauge/pathgauge/e1/MultiframeSearch" "oddFrames" "I" (.int w8)) :
    MetFree l (⟨"com/example/pathgauge/pathgauge/e1/MultiframeSearch", "take", "(IZ)Z"⟩ : MethodName) (head1 (Jvm.Cond.code (⟨"com/example/pathgauge/pathgauge/e1/MultiframeSearch", "take", "(IZ)Z"⟩ : MethodName) prog_23_method_3_code 4 (some .boolean) :: ws) ({ frames := 0, cells := 0, slots := 0, locals := 0 } : Room)) (fun a U => a = #[(.ref a1), (.int p2), (.int (0 : Int32))] ∧ Z.Warmed39 U.vm ∧ U.heap = h0) (fun _ _ _ _ _ => True) (fun _ U o U' => ∃ v L, o = .returned v ∧ Q4o Z a1 p2 w1 w4 w8 h0 n0 v U'.heap L ∧ FrameEnd U o U' L ({ frames := 0, cells := 0, slots := 0, locals := 0 } : Room).cells ({ frames := 0, cells := 0, slots := 0, locals := 0 } : Room).slots) := by
  refine MetFree.of_bodySF (plainFor_of_name pn_4) hisR ?_
  intro p e s m args below meth c s₁ Bd hml0 hP hK
  obtain ⟨rfl, hZ, hh⟩ := hP
  have hx := Bd.exec
  have hby := Bd.bytes
  have hml : c.maxLocals = 4 := hml0
  have hown : s.vm.findClass "com/example/pathgauge/pathgauge/e1/MultiframeSearch" = some m.cls := findClass_of_methodNamed Bd.named
  have hnm := (name_of_methodNamed Bd.named Bd.method).1
  have X0 : Stand p l e ({ frames := 0, cells := 0, slots := 0, locals := 0 } : Room) s m #[(.ref a1), (.int p2), (.int (0 : Int32))] below meth c s₁ [] 0 0 := Stand.of_body Bd
  have e0 : s₁.heap = h0 := by rw [← hh, Bd.state]; rfl
  have N0 := Fr.nil n0
  show own_Go p.tables e below (own_Fin below s (Q4o Z a1 p2 w1 w4 w8 h0 n0) ({ frames := 0, cells := 0, slots := 0, locals := 0 } : Room).cells ({ frames := 0, cells := 0, slots := 0, locals := 0 } : Room).slots) (s₁.setTop (entryFrame m #[(.ref a1), (.int p2), (.int (0 : Int32))] 4))
  refine own_go (S' := s₁.setTop (mkF m 0 #[.val (.ref a1), .val (.int p2), .val (.int (0 : Int32)), .unset] [])) (fun t k => castTop (ef_4o m a1 p2) k) ?_
  show own_Go p.tables e below _ (s₁.setTop (mkF m 0 #[.val (.ref a1), .val (.int p2), .val (.int (0 : Int32)), .unset] []))
  refine own_go (fun _ => XS.aloadN X0.here hx rfl (hb hby d4_0) rfl rfl) ?_
  show own_Go p.tables e below _ (s₁.setTop (mkF m 1 #[.val (.ref a1), .val (.int p2), .val (.int (0 : Int32)), .unset] [(.ref a1)]))
  refine own_go (fun _ => XS.dup X0.here hx rfl (hb hby d4_1) rfl rfl) ?_
  show own_Go p.tables e below _ (s₁.setTop (mkF m 2 #[.val (.ref a1), .val (.int p2), .val (.int (0 : Int32)), .unset] [(.ref a1), (.ref a1)]))
  obtain ⟨T2, X2, e2, st2⟩ := getF X0 hx hZ hown (host := "") (Or.inl (hw _ (List.mem_of_getElem? (i := 19) rfl))) Via.refl e0 F_frames_a1 (g := (mkF m 2 #[.val (.ref a1), .val (.int p2), .val (.int (0 : Int32)), .unset] [(.ref a1), (.ref a1)])) rfl rfl (hb hby d4_2)
  refine own_go st2 ?_
  show own_Go p.tables e below _ (T2.setTop (mkF m 5 #[.val (.ref a1), .val (.int p2), .val (.int (0 : Int32)), .unset] [(.int w1), (.ref a1)]))
  refine own_go (fun _ => XS.iconst X2.here hx rfl (hb hby d4_5)) ?_
  show own_Go p.tables e below _ (T2.setTop (mkF m 6 #[.val (.ref a1), .val (.int p2), .val (.int (0 : Int32)), .unset] [(.int (1 : Int32)), (.int w1), (.ref a1)]))
  refine own_go (fun _ => XS.iadd X2.here hx rfl (hb hby d4_6) rfl) ?_
  show own_Go p.tables e below _ (T2.setTop (mkF m 7 #[.val (.ref a1), .val (.int p2), .val (.int (0 : Int32)), .unset] [(.int (w1 + (1 : Int32))), (.ref a1)]))
  obtain ⟨T3, h3, X3, e3, W3, st3⟩ := putF X2 hx hZ hown (host := "") (Or.inl (hw _ (List.mem_of_getElem? (i := 19) rfl))) Via.refl e2 F_frames_a1 E_a1 (Or.inl (hw _ (List.mem_of_getElem? (i := 20) rfl))) (hw _ (List.mem_of_getElem? (i := 1) rfl)) (ty := .int) (by decide) rfl rfl (g := (mkF m 7 #[.val (.ref a1), .val (.int p2), .val (.int (0 : Int32)), .unset] [(.int (w1 + (1 : Int32))), (.ref a1)])) rfl rfl (hb hby d4_7)
  refine own_go st3 ?_
  have Fw3 := F_frames_a1.same W3
  have K3 : Keep h0 h3 [a1] := (Keep.refl h0 [a1]).wr W3 (Or.inl (List.mem_of_getElem? (i := 0) rfl))
  have N3 := Fr.snoc X3 N0 g_a1
  show own_Go p.tables e below _ (T3.setTop (mkF m 10 #[.val (.ref a1), .val (.int p2), .val (.int (0 : Int32)), .unset] []))
  refine own_go (fun _ => XS.iconst X3.here hx rfl (hb hby d4_10)) ?_
  show own_Go p.tables e below _ (T3.setTop (mkF m 11 #[.val (.ref a1), .val (.int p2), .val (.int (0 : Int32)), .unset] [(.int (0 : Int32))]))
  refine own_go (fun _ => XS.istoreN X3.here hx rfl (hb hby d4_11) rfl (l' := #[.val (.ref a1), .val (.int p2), .val (.int (0 : Int32)), .val (.int (0 : Int32))]) rfl) ?_
  show own_Go p.tables e below _ (T3.setTop (mkF m 12 #[.val (.ref a1), .val (.int p2), .val (.int (0 : Int32)), .val (.int (0 : Int32))] []))
  refine own_go (fun _ => XS.iloadN X3.here hx rfl (hb hby d4_12) rfl) ?_
  show own_Go p.tables e below _ (T3.setTop (mkF m 13 #[.val (.ref a1), .val (.int p2), .val (.int (0 : Int32)), .val (.int (0 : Int32))] [(.int (0 : Int32))]))
  refine own_go (fun _ => XS.ifNo X3.here hx rfl (hb hby d4_13) rfl ((if0 _ _).trans (teq (by decide : (0 : Int32) = (0 : Int32))).2)) ?_
  show own_Go p.tables e below _ (T3.setTop (mkF m 16 #[.val (.ref a1), .val (.int p2), .val (.int (0 : Int32)), .val (.int (0 : Int32))] []))
  refine own_go (fun _ => XS.aloadN X3.here hx rfl (hb hby d4_16) rfl rfl) ?_
  show own_Go p.tables e below _ (T3.setTop (mkF m 17 #[.val (.ref a1), .val (.int p2), .val (.int (0 : Int32)), .val (.int (0 : Int32))] [(.ref a1)]))
  refine own_go (fun _ => XS.aloadN X3.here hx rfl (hb hby d4_17) rfl rfl) ?_
  show own_Go p.tables e below _ (T3.setTop (mkF m 18 #[.val (.ref a1), .val (.int p2), .val (.int (0 : Int32)), .val (.int (0 : Int32))] [(.ref a1), (.ref a1)]))
  obtain ⟨T5, X5, e5, st5⟩ := getF X3 hx hZ hown (host := "") (Or.inl (hw _ (List.mem_of_getElem? (i := 21) rfl))) Via.refl e3 (F_oddFrameBits_a1.other W3 (Or.inr (slot_ne (Or.inl (hw _ (List.mem_of_getElem? (i := 22) rfl))) (Or.inl (hw _ (List.mem_of_getElem? (i := 20) rfl))) (by decide) (t := .int) (t' := .int) (by decide) (by decide)))) (g := (mkF m 18 #[.val (.ref a1), .val (.int p2), .val (.int (0 : Int32)), .val (.int (0 : Int32))] [(.ref a1), (.ref a1)])) rfl rfl (hb hby d4_18)
  refine own_go st5 ?_
  show own_Go p.tables e below _ (T5.setTop (mkF m 21 #[.val (.ref a1), .val (.int p2), .val (.int (0 : Int32)), .val (.int (0 : Int32))] [(.int w4), (.ref a1)]))
  refine own_go (fun _ => XS.iconst X5.here hx rfl (hb hby d4_21)) ?_
  show own_Go p.tables e below _ (T5.setTop (mkF m 22 #[.val (.ref a1), .val (.int p2), .val (.int (0 : Int32)), .val (.int (0 : Int32))] [(.int (1 : Int32)), (.int w4), (.ref a1)]))
  refine own_go (fun _ => XS.ishl X5.here hx rfl (hb hby d4_22) rfl) ?_
  show own_Go p.tables e below _ (T5.setTop (mkF m 23 #[.val (.ref a1), .val (.int p2), .val (.int (0 : Int32)), .val (.int (0 : Int32))] [(.int (w4 <<< ((1 : Int32) &&& 31))), (.ref a1)]))
  refine own_go (fun _ => XS.iloadN X5.here hx rfl (hb hby d4_23) rfl) ?_
  show own_Go p.tables e below _ (T5.setTop (mkF m 24 #[.val (.ref a1), .val (.int p2), .val (.int (0 : Int32)), .val (.int (0 : Int32))] [(.int p2), (.int (w4 <<< ((1 : Int32) &&& 31))), (.ref a1)]))
  refine own_go (fun _ => XS.sipush X5.here hx rfl (hb hby d4_24)) ?_
  show own_Go p.tables e below _ (T5.setTop (mkF m 27 #[.val (.ref a1), .val (.int p2), .val (.int (0 : Int32)), .val (.int (0 : Int32))] [(.int (128 : Int32)), (.int p2), (.int (w4 <<< ((1 : Int32) &&& 31))), (.ref a1)]))
  refine own_go (fun _ => XS.iand X5.here hx rfl (hb hby d4_27) rfl) ?_
  refine own_go (S' := T5.setTop (mkF m 36 #[.val (.ref a1), .val (.int p2), .val (.int (0 : Int32)), .val (.int (0 : Int32))] [(.int (own_v4o_28 p2)), (.int (w4 <<< ((1 : Int32) &&& 31))), (.ref a1)])) (fun t kt => ?_) ?_
  · skip
    show Steps p.tables e below (T5.setTop (mkF m 28 #[.val (.ref a1), .val (.int p2), .val (.int (0 : Int32)), .val (.int (0 : Int32))] [(.int (p2 &&& (128 : Int32))), (.int (w4 <<< ((1 : Int32) &&& 31))), (.ref a1)])) _
    by_cases hc6_28 : (p2 &&& (128 : Int32)) = (0 : Int32)
    · skip
      refine XS.ifYes X5.here hx rfl (pc0 := 28) (pc' := 35) rfl (hb hby d4_28) rfl ((if0 _ _).trans (teq hc6_28).1) (by decide) (by decide) ?_
      show Steps p.tables e below (T5.setTop (mkF m 35 #[.val (.ref a1), .val (.int p2), .val (.int (0 : Int32)), .val (.int (0 : Int32))] [(.int (w4 <<< ((1 : Int32) &&& 31))), (.ref a1)])) _
      refine XS.iconst X5.here hx rfl (hb hby d4_35) ?_
      show Steps p.tables e below (T5.setTop (mkF m 36 #[.val (.ref a1), .val (.int p2), .val (.int (0 : Int32)), .val (.int (0 : Int32))] [(.int (0 : Int32)), (.int (w4 <<< ((1 : Int32) &&& 31))), (.ref a1)])) _
      rw [show (own_v4o_28 p2) = (0 : Int32) from ((if_pos hc6_28).trans rfl)] at kt
      exact kt
    · skip
      refine XS.ifNo X5.here hx rfl (hb hby d4_28) rfl ((if0 _ _).trans (feq hc6_28).1) ?_
      show Steps p.tables e below (T5.setTop (mkF m 31 #[.val (.ref a1), .val (.int p2), .val (.int (0 : Int32)), .val (.int (0 : Int32))] [(.int (w4 <<< ((1 : Int32) &&& 31))), (.ref a1)])) _
      refine XS.iconst X5.here hx rfl (hb hby d4_31) ?_
      show Steps p.tables e below (T5.setTop (mkF m 32 #[.val (.ref a1), .val (.int p2), .val (.int (0 : Int32)), .val (.int (0 : Int32))] [(.int (1 : Int32)), (.int (w4 <<< ((1 : Int32) &&& 31))), (.ref a1)])) _
      refine XS.goto X5.here hx rfl (pc0 := 32) (pc' := 36) rfl (hb hby d4_32) (by decide) (by decide) ?_
      show Steps p.tables e below (T5.setTop (mkF m 36 #[.val (.ref a1), .val (.int p2), .val (.int (0 : Int32)), .val (.int (0 : Int32))] [(.int (1 : Int32)), (.int (w4 <<< ((1 : Int32) &&& 31))), (.ref a1)])) _
      rw [show (own_v4o_28 p2) = (1 : Int32) from ((if_neg hc6_28).trans rfl)] at kt
      exact kt
  show own_Go p.tables e below _ (T5.setTop (mkF m 36 #[.val (.ref a1), .val (.int p2), .val (.int (0 : Int32)), .val (.int (0 : Int32))] [(.int (own_v4o_28 p2)), (.int (w4 <<< ((1 : Int32) &&& 31))), (.ref a1)]))
  refine own_go (fun _ => XS.ior X5.here hx rfl (hb hby d4_36) rfl) ?_
  show own_Go p.tables e below _ (T5.setTop (mkF m 37 #[.val (.ref a1), .val (.int p2), .val (.int (0 : Int32)), .val (.int (0 : Int32))] [(.int ((w4 <<< ((1 : Int32) &&& 31)) ||| (own_v4o_28 p2))), (.ref a1)]))
  obtain ⟨T7, h7, X7, e7, W7, st7⟩ := putF X5 hx hZ hown (host := "") (Or.inl (hw _ (List.mem_of_getElem? (i := 21) rfl))) Via.refl e5 (F_oddFrameBits_a1.other W3 (Or.inr (slot_ne (Or.inl (hw _ (List.mem_of_getElem? (i := 22) rfl))) (Or.inl (hw _ (List.mem_of_getElem? (i := 20) rfl))) (by decide) (t := .int) (t' := .int) (by decide) (by decide)))) (E_a1.wr W3) (Or.inl (hw _ (List.mem_of_getElem? (i := 22) rfl))) (hw _ (List.mem_of_getElem? (i := 1) rfl)) (ty := .int) (by decide) rfl rfl (g := (mkF m 37 #[.val (.ref a1), .val (.int p2), .val (.int (0 : Int32)), .val (.int (0 : Int32))] [(.int ((w4 <<< ((1 : Int32) &&& 31)) ||| (own_v4o_28 p2))), (.ref a1)])) rfl rfl (hb hby d4_37)
  refine own_go st7 ?_
  have Fw7 := (F_oddFrameBits_a1.other W3 (Or.inr (slot_ne (Or.inl (hw _ (List.mem_of_getElem? (i := 22) rfl))) (Or.inl (hw _ (List.mem_of_getElem? (i := 20) rfl))) (by decide) (t := .int) (t' := .int) (by decide) (by decide)))).same W7
  have K7 : Keep h0 h7 [a1] := K3.wr W7 (Or.inl (List.mem_of_getElem? (i := 0) rfl))
  have N7 := Fr.snoc X7 N3 g_a1
  show own_Go p.tables e below _ (T7.setTop (mkF m 40 #[.val (.ref a1), .val (.int p2), .val (.int (0 : Int32)), .val (.int (0 : Int32))] []))
  refine own_go (fun _ => XS.aloadN X7.here hx rfl (hb hby d4_40) rfl rfl) ?_
  show own_Go p.tables e below _ (T7.setTop (mkF m 41 #[.val (.ref a1), .val (.int p2), .val (.int (0 : Int32)), .val (.int (0 : Int32))] [(.ref a1)]))
  refine own_go (fun _ => XS.dup X7.here hx rfl (hb hby d4_41) rfl rfl) ?_
  show own_Go p.tables e below _ (T7.setTop (mkF m 42 #[.val (.ref a1), .val (.int p2), .val (.int (0 : Int32)), .val (.int (0 : Int32))] [(.ref a1), (.ref a1)]))
  obtain ⟨T9, X9, e9, st9⟩ := getF X7 hx hZ hown (host := "") (Or.inl (hw _ (List.mem_of_getElem? (i := 23) rfl))) Via.refl e7 ((F_oddFrames_a1.other W3 (Or.inr (slot_ne (Or.inl (hw _ (List.mem_of_getElem? (i := 24) rfl))) (Or.inl (hw _ (List.mem_of_getElem? (i := 20) rfl))) (by decide) (t := .int) (t' := .int) (by decide) (by decide)))).other W7 (Or.inr (slot_ne (Or.inl (hw _ (List.mem_of_getElem? (i := 24) rfl))) (Or.inl (hw _ (List.mem_of_getElem? (i := 22) rfl))) (by decide) (t := .int) (t' := .int) (by decide) (by decide)))) (g := (mkF m 42 #[.val (.ref a1), .val (.int p2), .val (.int (0 : Int32)), .val (.int (0 : Int32))] [(.ref a1), (.ref a1)])) rfl rfl (hb hby d4_42)
  refine own_go st9 ?_
  show own_Go p.tables e below _ (T9.setTop (mkF m 45 #[.val (.ref a1), .val (.int p2), .val (.int (0 : Int32)), .val (.int (0 : Int32))] [(.int w8), (.ref a1)]))
  refine own_go (fun _ => XS.iconst X9.here hx rfl (hb hby d4_45)) ?_
  show own_Go p.tables e below _ (T9.setTop (mkF m 46 #[.val (.ref a1), .val (.int p2), .val (.int (0 : Int32)), .val (.int (0 : Int32))] [(.int (1 : Int32)), (.int w8), (.ref a1)]))
  refine own_go (fun _ => XS.iadd X9.here hx rfl (hb hby d4_46) rfl) ?_
  show own_Go p.tables e below _ (T9.setTop (mkF m 47 #[.val (.ref a1), .val (.int p2), .val (.int (0 : Int32)), .val (.int (0 : Int32))] [(.int (w8 + (1 : Int32))), (.ref a1)]))
  obtain ⟨T10, h10, X10, e10, W10, st10⟩ := putF X9 hx hZ hown (host := "") (Or.inl (hw _ (List.mem_of_getElem? (i := 23) rfl))) Via.refl e9 ((F_oddFrames_a1.other W3 (Or.inr (slot_ne (Or.inl (hw _ (List.mem_of_getElem? (i := 24) rfl))) (Or.inl (hw _ (List.mem_of_getElem? (i := 20) rfl))) (by decide) (t := .int) (t' := .int) (by decide) (by decide)))).other W7 (Or.inr (slot_ne (Or.inl (hw _ (List.mem_of_getElem? (i := 24) rfl))) (Or.inl (hw _ (List.mem_of_getElem? (i := 22) rfl))) (by decide) (t := .int) (t' := .int) (by decide) (by decide)))) ((E_a1.wr W3).wr W7) (Or.inl (hw _ (List.mem_of_getElem? (i := 24) rfl))) (hw _ (List.mem_of_getElem? (i := 1) rfl)) (ty := .int) (by decide) rfl rfl (g := (mkF m 47 #[.val (.ref a1), .val (.int p2), .val (.int (0 : Int32)), .val (.int (0 : Int32))] [(.int (w8 + (1 : Int32))), (.ref a1)])) rfl rfl (hb hby d4_47)
  refine own_go st10 ?_
  have Fw10 := ((F_oddFrames_a1.other W3 (Or.inr (slot_ne (Or.inl (hw _ (List.mem_of_getElem? (i := 24) rfl))) (Or.inl (hw _ (List.mem_of_getElem? (i := 20) rfl))) (by decide) (t := .int) (t' := .int) (by decide) (by decide)))).other W7 (Or.inr (slot_ne (Or.inl (hw _ (List.mem_of_getElem? (i := 24) rfl))) (Or.inl (hw _ (List.mem_of_getElem? (i := 22) rfl))) (by decide) (t := .int) (t' := .int) (by decide) (by decide)))).same W10
  have K10 : Keep h0 h10 [a1] := K7.wr W10 (Or.inl (List.mem_of_getElem? (i := 0) rfl))
  have N10 := Fr.snoc X10 N7 g_a1
  show own_Go p.tables e below _ (T10.setTop (mkF m 50 #[.val (.ref a1), .val (.int p2), .val (.int (0 : Int32)), .val (.int (0 : Int32))] []))
  refine own_go (fun _ => XS.aloadN X10.here hx rfl (hb hby d4_50) rfl rfl) ?_
  show own_Go p.tables e below _ (T10.setTop (mkF m 51 #[.val (.ref a1), .val (.int p2), .val (.int (0 : Int32)), .val (.int (0 : Int32))] [(.ref a1)]))
  obtain ⟨T11, X11, e11, st11⟩ := getF X10 hx hZ hown (host := "") (Or.inl (hw _ (List.mem_of_getElem? (i := 23) rfl))) Via.refl e10 Fw10 (g := (mkF m 51 #[.val (.ref a1), .val (.int p2), .val (.int (0 : Int32)), .val (.int (0 : Int32))] [(.ref a1)])) rfl rfl (hb hby d4_51)
  refine own_go st11 ?_
  show own_Go p.tables e below _ (T11.setTop (mkF m 54 #[.val (.ref a1), .val (.int p2), .val (.int (0 : Int32)), .val (.int (0 : Int32))] [(.int (w8 + (1 : Int32)))]))
  refine own_go (fun _ => XS.bipush X11.here hx rfl (hb hby d4_54)) ?_
  show own_Go p.tables e below _ (T11.setTop (mkF m 56 #[.val (.ref a1), .val (.int p2), .val (.int (0 : Int32)), .val (.int (0 : Int32))] [(.int (14 : Int32)), (.int (w8 + (1 : Int32)))]))
  by_cases hc12_56 : (w8 + (1 : Int32)) < (14 : Int32)
  · skip
    refine own_go (fun _ => XS.icmpYes X11.here hx rfl (pc0 := 56) (pc' := 77) rfl (hb hby d4_56) rfl (tlt hc12_56).1 (by decide) (by decide)) ?_
    show own_Go p.tables e below _ (T11.setTop (mkF m 77 #[.val (.ref a1), .val (.int p2), .val (.int (0 : Int32)), .val (.int (0 : Int32))] []))
    refine own_go (fun _ => XS.iconst X11.here hx rfl (hb hby d4_77)) ?_
    show own_Go p.tables e below _ (T11.setTop (mkF m 78 #[.val (.ref a1), .val (.int p2), .val (.int (0 : Int32)), .val (.int (0 : Int32))] [(.int (0 : Int32))]))
    refine own_go (fun _ => XS.istoreN X11.here hx rfl (hb hby d4_78) rfl (l' := #[.val (.ref a1), .val (.int p2), .val (.int (0 : Int32)), .val (.int (0 : Int32))]) rfl) ?_
    show own_Go p.tables e below _ (T11.setTop (mkF m 79 #[.val (.ref a1), .val (.int p2), .val (.int (0 : Int32)), .val (.int (0 : Int32))] []))
    refine own_go (fun _ => XS.iloadN X11.here hx rfl (hb hby d4_79) rfl) ?_
    show own_Go p.tables e below _ (T11.setTop (mkF m 80 #[.val (.ref a1), .val (.int p2), .val (.int (0 : Int32)), .val (.int (0 : Int32))] [(.int (0 : Int32))]))
    refine own_retN X11 Bd.notSynchronized hx (t := .boolean) Bd.returns (by simp) (hb hby d4_80) (show Q4o Z a1 p2 w1 w4 w8 h0 n0 _ T11.heap _ from by rw [e11]; exact ⟨(own_val ((if_pos hc12_56).trans rfl)), N10, K10, (((E_a1.wr W3).wr W7).wr W10), ((Fw3.other W7 (Or.inr (slot_ne (Or.inl (hw _ (List.mem_of_getElem? (i := 20) rfl))) (Or.inl (hw _ (List.mem_of_getElem? (i := 22) rfl))) (by decide) (t := .int) (t' := .int) (by decide) (by decide)))).other W10 (Or.inr (slot_ne (Or.inl (hw _ (List.mem_of_getElem? (i := 20) rfl))) (Or.inl (hw _ (List.mem_of_getElem? (i := 24) rfl))) (by decide) (t := .int) (t' := .int) (by decide) (by decide)))), (Fw7.other W10 (Or.inr (slot_ne (Or.inl (hw _ (List.mem_of_getElem? (i := 22) rfl))) (Or.inl (hw _ (List.mem_of_getElem? (i := 24) rfl))) (by decide) (t := .int) (t' := .int) (by decide) (by decide)))), Fw10⟩) (by decide) (by decide)
  · skip
    refine own_go (fun _ => XS.icmpNo X11.here hx rfl (hb hby d4_56) rfl (flt hc12_56).1) ?_
    show own_Go p.tables e below _ (T11.setTop (mkF m 59 #[.val (.ref a1), .val (.int p2), .val (.int (0 : Int32)), .val (.int (0 : Int32))] []))
    refine own_go (fun _ => XS.aloadN X11.here hx rfl (hb hby d4_59) rfl rfl) ?_
    show own_Go p.tables e below _ (T11.setTop (mkF m 60 #[.val (.ref a1), .val (.int p2), .val (.int (0 : Int32)), .val (.int (0 : Int32))] [(.ref a1)]))
    obtain ⟨T13, X13, e13, st13⟩ := getF X11 hx hZ hown (host := "") (Or.inl (hw _ (List.mem_of_getElem? (i := 21) rfl))) Via.refl e11 (Fw7.other W10 (Or.inr (slot_ne (Or.inl (hw _ (List.mem_of_getElem? (i := 22) rfl))) (Or.inl (hw _ (List.mem_of_getElem? (i := 24) rfl))) (by decide) (t := .int) (t' := .int) (by decide) (by decide)))) (g := (mkF m 60 #[.val (.ref a1), .val (.int p2), .val (.int (0 : Int32)), .val (.int (0 : Int32))] [(.ref a1)])) rfl rfl (hb hby d4_60)
    refine own_go st13 ?_
    show own_Go p.tables e below _ (T13.setTop (mkF m 63 #[.val (.ref a1), .val (.int p2), .val (.int (0 : Int32)), .val (.int (0 : Int32))] [(.int ((w4 <<< ((1 : Int32) &&& 31)) ||| (own_v4o_28 p2)))]))
    refine own_go (fun _ => XS.sipush X13.here hx rfl (hb hby d4_63)) ?_
    show own_Go p.tables e below _ (T13.setTop (mkF m 66 #[.val (.ref a1), .val (.int p2), .val (.int (0 : Int32)), .val (.int (0 : Int32))] [(.int (16191 : Int32)), (.int ((w4 <<< ((1 : Int32) &&& 31)) ||| (own_v4o_28 p2)))]))
    refine own_go (fun _ => XS.iand X13.here hx rfl (hb hby d4_66) rfl) ?_
    show own_Go p.tables e below _ (T13.setTop (mkF m 67 #[.val (.ref a1), .val (.int p2), .val (.int (0 : Int32)), .val (.int (0 : Int32))] [(.int (((w4 <<< ((1 : Int32) &&& 31)) ||| (own_v4o_28 p2)) &&& (16191 : Int32)))]))
    refine own_go (fun _ => XS.sipush X13.here hx rfl (hb hby d4_67)) ?_
    show own_Go p.tables e below _ (T13.setTop (mkF m 70 #[.val (.ref a1), .val (.int p2), .val (.int (0 : Int32)), .val (.int (0 : Int32))] [(.int (2827 : Int32)), (.int (((w4 <<< ((1 : Int32) &&& 31)) ||| (own_v4o_28 p2)) &&& (16191 : Int32)))]))
    by_cases hc14_70 : (((w4 <<< ((1 : Int32) &&& 31)) ||| (own_v4o_28 p2)) &&& (16191 : Int32)) = (2827 : Int32)
    · skip
      refine own_go (fun _ => XS.icmpNo X13.here hx rfl (hb hby d4_70) rfl (teq hc14_70).2) ?_
      show own_Go p.tables e below _ (T13.setTop (mkF m 73 #[.val (.ref a1), .val (.int p2), .val (.int (0 : Int32)), .val (.int (0 : Int32))] []))
      refine own_go (fun _ => XS.iconst X13.here hx rfl (hb hby d4_73)) ?_
      show own_Go p.tables e below _ (T13.setTop (mkF m 74 #[.val (.ref a1), .val (.int p2), .val (.int (0 : Int32)), .val (.int (0 : Int32))] [(.int (1 : Int32))]))
      refine own_go (fun _ => XS.goto X13.here hx rfl (pc0 := 74) (pc' := 78) rfl (hb hby d4_74) (by decide) (by decide)) ?_
      show own_Go p.tables e below _ (T13.setTop (mkF m 78 #[.val (.ref a1), .val (.int p2), .val (.int (0 : Int32)), .val (.int (0 : Int32))] [(.int (1 : Int32))]))
      refine own_go (fun _ => XS.istoreN X13.here hx rfl (hb hby d4_78) rfl (l' := #[.val (.ref a1), .val (.int p2), .val (.int (0 : Int32)), .val (.int (1 : Int32))]) rfl) ?_
      show own_Go p.tables e below _ (T13.setTop (mkF m 79 #[.val (.ref a1), .val (.int p2), .val (.int (0 : Int32)), .val (.int (1 : Int32))] []))
      refine own_go (fun _ => XS.iloadN X13.here hx rfl (hb hby d4_79) rfl) ?_
      show own_Go p.tables e below _ (T13.setTop (mkF m 80 #[.val (.ref a1), .val (.int p2), .val (.int (0 : Int32)), .val (.int (1 : Int32))] [(.int (1 : Int32))]))
      refine own_retN X13 Bd.notSynchronized hx (t := .boolean) Bd.returns (by simp) (hb hby d4_80) (show Q4o Z a1 p2 w1 w4 w8 h0 n0 _ T13.heap _ from by rw [e13]; exact ⟨(own_val ((if_neg hc12_56).trans ((if_pos hc14_70).trans rfl))), N10, K10, (((E_a1.wr W3).wr W7).wr W10), ((Fw3.other W7 (Or.inr (slot_ne (Or.inl (hw _ (List.mem_of_getElem? (i := 20) rfl))) (Or.inl (hw _ (List.mem_of_getElem? (i := 22) rfl))) (by decide) (t := .int) (t' := .int) (by decide) (by decide)))).other W10 (Or.inr (slot_ne (Or.inl (hw _ (List.mem_of_getElem? (i := 20) rfl))) (Or.inl (hw _ (List.mem_of_getElem? (i := 24) rfl))) (by decide) (t := .int) (t' := .int) (by decide) (by decide)))), (Fw7.other W10 (Or.inr (slot_ne (Or.inl (hw _ (List.mem_of_getElem? (i := 22) rfl))) (Or.inl (hw _ (List.mem_of_getElem? (i := 24) rfl))) (by decide) (t := .int) (t' := .int) (by decide) (by decide)))), Fw10⟩) (by decide) (by decide)
    · skip
      refine own_go (fun _ => XS.icmpYes X13.here hx rfl (pc0 := 70) (pc' := 77) rfl (hb hby d4_70) rfl (feq hc14_70).2 (by decide) (by decide)) ?_
      show own_Go p.tables e below _ (T13.setTop (mkF m 77 #[.val (.ref a1), .val (.int p2), .val (.int (0 : Int32)), .val (.int (0 : Int32))] []))
      refine own_go (fun _ => XS.iconst X13.here hx rfl (hb hby d4_77)) ?_
      show own_Go p.tables e below _ (T13.setTop (mkF m 78 #[.val (.ref a1), .val (.int p2), .val (.int (0 : Int32)), .val (.int (0 : Int32))] [(.int (0 : Int32))]))
      refine own_go (fun _ => XS.istoreN X13.here hx rfl (hb hby d4_78) rfl (l' := #[.val (.ref a1), .val (.int p2), .val (.int (0 : Int32)), .val (.int (0 : Int32))]) rfl) ?_
      show own_Go p.tables e below _ (T13.setTop (mkF m 79 #[.val (.ref a1), .val (.int p2), .val (.int (0 : Int32)), .val (.int (0 : Int32))] []))
      refine own_go (fun _ => XS.iloadN X13.here hx rfl (hb hby d4_79) rfl) ?_
      show own_Go p.tables e below _ (T13.setTop (mkF m 80 #[.val (.ref a1), .val (.int p2), .val (.int (0 : Int32)), .val (.int (0 : Int32))] [(.int (0 : Int32))]))
      refine own_retN X13 Bd.notSynchronized hx (t := .boolean) Bd.returns (by simp) (hb hby d4_80) (show Q4o Z a1 p2 w1 w4 w8 h0 n0 _ T13.heap _ from by rw [e13]; exact ⟨(own_val ((if_neg hc12_56).trans ((if_neg hc14_70).trans rfl))), N10, K10, (((E_a1.wr W3).wr W7).wr W10), ((Fw3.other W7 (Or.inr (slot_ne (Or.inl (hw _ (List.mem_of_getElem? (i := 20) rfl))) (Or.inl (hw _ (List.mem_of_getElem? (i := 22) rfl))) (by decide) (t := .int) (t' := .int) (by decide) (by decide)))).other W10 (Or.inr (slot_ne (Or.inl (hw _ (List.mem_of_getElem? (i := 20) rfl))) (Or.inl (hw _ (List.mem_of_getElem? (i := 24) rfl))) (by decide) (t := .int) (t' := .int) (by decide) (by decide)))), (Fw7.other W10 (Or.inr (slot_ne (Or.inl (hw _ (List.mem_of_getElem? (i := 22) rfl))) (Or.inl (hw _ (List.mem_of_getElem? (i := 24) rfl))) (by decide) (t := .int) (t' := .int) (by decide) (by decide)))), Fw10⟩) (by decide) (by decide)
theorem ef_4e (m : MethodId) (a1 : Addr) (p2 : Int32) : entryFrame m #[(.ref a1), (.int p2), (.int (1 : Int32))] 4 = mkF m 0 #[.val (.ref a1), .val (.int p2), .val (.int (1 : Int32)), .unset] [] := by first | (simp [entryFrame, mkF, argsToLocals, Value.category]; done) | rfl
def Q4e (Z : State) (a1 : Addr) (p2 : Int32) (u_b : Value) (u_o : Value) (w1 : Int32) (h0 : Heap) (n0 : Nat) (v : Option Value) (h : Heap) (L : List Loc) : Prop := v = some (.int (0 : Int32)) ∧ Fr n0 L ∧ Keep h0 h [a1] ∧ Exa Z h a1 "com/example/pathgauge/pathgauge/e1/MultiframeSearch" ∧ Fld Z h a1 "com/example/pathgauge/pathgauge/e1/MultiframeSearch" "frames" "I" (.int (w1 + (1 : Int32))) ∧ Fld Z h a1 "com/example/pathgauge/pathgauge/e1/MultiframeSearch" "oddFrameBits" "I" u_b ∧ Fld Z h a1 "com/example/pathgauge/pathgauge/e1/MultiframeSearch" "oddFrames" "I" u_o
set_option maxRecDepth 65536 in
set_option maxHeartbeats 40000000 in
theorem rm4e (l : Launch) (Z : State) (a0 : Array Value) (hw : ∀ d ∈ tables_1, d.before a0 Z = true) (ws : List Jvm.Cond) (a1 : Addr) (p2 : Int32) (u_b : Value) (u_o : Value) (w1 : Int32) (h0 : Heap) (n0 : Nat) (Z0 : n0 ≤ h0.size) (F_b_a1 : Fld Z h0 a1 "com/example/pathgauge/pathgauge/e1/MultiframeSearch" "oddFrameBits" "I" u_b) (F_o_a1 : Fld Z h0 a1 "com/example/pathgauge/pathgauge/e1/MultiframeSearch" "oddFrames" "I" u_o) (F_frames_a1 : Fld Z h0 a1 "com/example/pathgauge/pathgauge/e1/MultiframeSearch" "frames" "I" (.int w1)) (E_a1 : Exa Z h0 a1 "com/example/pathgauge/pathgauge/e1/MultiframeSearch") (g_a1 : n0 ≤ a1) :
    MetFree l (⟨"com/example/pathgauge/pathgauge/e1/MultiframeSearch", "take", "(IZ)Z"⟩ : MethodName) (head1 (Jvm.Cond.code (⟨"com/example/pathgauge/pathgauge/e1/MultiframeSearch", "take", "(IZ)Z"⟩ : MethodName) prog_23_method_3_code 4 (some .boolean) :: ws) ({ frames := 0, cells := 0, slots := 0, locals := 0 } : Room)) (fun a U => a = #[(.ref a1), (.int p2), (.int (1 : Int32))] ∧ Z.Warmed39 U.vm ∧ U.heap = h0) (fun _ _ _ _ _ => True) (fun _ U o U' => ∃ v L, o = .returned v ∧ Q4e Z a1 p2 u_b u_o w1 h0 n0 v U'.heap L ∧ FrameEnd U o U' L ({ frames := 0, cells := 0, slots := 0, locals := 0 } : Room).cells ({ frames := 0, cells := 0, slots := 0, locals := 0 } : Room).slots) := by
  refine MetFree.of_bodySF (plainFor_of_name pn_4) hisR ?_
  intro p e s m args below meth c s₁ Bd hml0 hP hK
  obtain ⟨rfl, hZ, hh⟩ := hP
  have hx := Bd.exec
  have hby := Bd.bytes
  have hml : c.maxLocals = 4 := hml0
  have hown : s.vm.findClass "com/example/pathgauge/pathgauge/e1/MultiframeSearch" = some m.cls := findClass_of_methodNamed Bd.named
  have hnm := (name_of_methodNamed Bd.named Bd.method).1
  have X0 : Stand p l e ({ frames := 0, cells := 0, slots := 0, locals := 0 } : Room) s m #[(.ref a1), (.int p2), (.int (1 : Int32))] below meth c s₁ [] 0 0 := Stand.of_body Bd
  have e0 : s₁.heap = h0 := by rw [← hh, Bd.state]; rfl
  have N0 := Fr.nil n0
  show own_Go p.tables e below (own_Fin below s (Q4e Z a1 p2 u_b u_o w1 h0 n0) ({ frames := 0, cells := 0, slots := 0, locals := 0 } : Room).cells ({ frames := 0, cells := 0, slots := 0, locals := 0 } : Room).slots) (s₁.setTop (entryFrame m #[(.ref a1), (.int p2), (.int (1 : Int32))] 4))
  refine own_go (S' := s₁.setTop (mkF m 0 #[.val (.ref a1), .val (.int p2), .val (.int (1 : Int32)), .unset] [])) (fun t k => castTop (ef_4e m a1 p2) k) ?_
  show own_Go p.tables e below _ (s₁.setTop (mkF m 0 #[.val (.ref a1), .val (.int p2), .val (.int (1 : Int32)), .unset] []))
  refine own_go (fun _ => XS.aloadN X0.here hx rfl (hb hby d4_0) rfl rfl) ?_
  show own_Go p.tables e below _ (s₁.setTop (mkF m 1 #[.val (.ref a1), .val (.int p2), .val (.int (1 : Int32)), .unset] [(.ref a1)]))
  refine own_go (fun _ => XS.dup X0.here hx rfl (hb hby d4_1) rfl rfl) ?_
  show own_Go p.tables e below _ (s₁.setTop (mkF m 2 #[.val (.ref a1), .val (.int p2), .val (.int (1 : Int32)), .unset] [(.ref a1), (.ref a1)]))
  obtain ⟨T2, X2, e2, st2⟩ := getF X0 hx hZ hown (host := "") (Or.inl (hw _ (List.mem_of_getElem? (i := 19) rfl))) Via.refl e0 F_frames_a1 (g := (mkF m 2 #[.val (.ref a1), .val (.int p2), .val (.int (1 : Int32)), .unset] [(.ref a1), (.ref a1)])) rfl rfl (hb hby d4_2)
  refine own_go st2 ?_
  show own_Go p.tables e below _ (T2.setTop (mkF m 5 #[.val (.ref a1), .val (.int p2), .val (.int (1 : Int32)), .unset] [(.int w1), (.ref a1)]))
  refine own_go (fun _ => XS.iconst X2.here hx rfl (hb hby d4_5)) ?_
  show own_Go p.tables e below _ (T2.setTop (mkF m 6 #[.val (.ref a1), .val (.int p2), .val (.int (1 : Int32)), .unset] [(.int (1 : Int32)), (.int w1), (.ref a1)]))
  refine own_go (fun _ => XS.iadd X2.here hx rfl (hb hby d4_6) rfl) ?_
  show own_Go p.tables e below _ (T2.setTop (mkF m 7 #[.val (.ref a1), .val (.int p2), .val (.int (1 : Int32)), .unset] [(.int (w1 + (1 : Int32))), (.ref a1)]))
  obtain ⟨T3, h3, X3, e3, W3, st3⟩ := putF X2 hx hZ hown (host := "") (Or.inl (hw _ (List.mem_of_getElem? (i := 19) rfl))) Via.refl e2 F_frames_a1 E_a1 (Or.inl (hw _ (List.mem_of_getElem? (i := 20) rfl))) (hw _ (List.mem_of_getElem? (i := 1) rfl)) (ty := .int) (by decide) rfl rfl (g := (mkF m 7 #[.val (.ref a1), .val (.int p2), .val (.int (1 : Int32)), .unset] [(.int (w1 + (1 : Int32))), (.ref a1)])) rfl rfl (hb hby d4_7)
  refine own_go st3 ?_
  have Fw3 := F_frames_a1.same W3
  have K3 : Keep h0 h3 [a1] := (Keep.refl h0 [a1]).wr W3 (Or.inl (List.mem_of_getElem? (i := 0) rfl))
  have N3 := Fr.snoc X3 N0 g_a1
  show own_Go p.tables e below _ (T3.setTop (mkF m 10 #[.val (.ref a1), .val (.int p2), .val (.int (1 : Int32)), .unset] []))
  refine own_go (fun _ => XS.iconst X3.here hx rfl (hb hby d4_10)) ?_
  show own_Go p.tables e below _ (T3.setTop (mkF m 11 #[.val (.ref a1), .val (.int p2), .val (.int (1 : Int32)), .unset] [(.int (0 : Int32))]))
  refine own_go (fun _ => XS.istoreN X3.here hx rfl (hb hby d4_11) rfl (l' := #[.val (.ref a1), .val (.int p2), .val (.int (1 : Int32)), .val (.int (0 : Int32))]) rfl) ?_
  show own_Go p.tables e below _ (T3.setTop (mkF m 12 #[.val (.ref a1), .val (.int p2), .val (.int (1 : Int32)), .val (.int (0 : Int32))] []))
  refine own_go (fun _ => XS.iloadN X3.here hx rfl (hb hby d4_12) rfl) ?_
  show own_Go p.tables e below _ (T3.setTop (mkF m 13 #[.val (.ref a1), .val (.int p2), .val (.int (1 : Int32)), .val (.int (0 : Int32))] [(.int (1 : Int32))]))
  refine own_go (fun _ => XS.ifYes X3.here hx rfl (pc0 := 13) (pc' := 79) rfl (hb hby d4_13) rfl ((if0 _ _).trans (feq (by decide : ¬ ((1 : Int32) = (0 : Int32)))).2) (by decide) (by decide)) ?_
  show own_Go p.tables e below _ (T3.setTop (mkF m 79 #[.val (.ref a1), .val (.int p2), .val (.int (1 : Int32)), .val (.int (0 : Int32))] []))
  refine own_go (fun _ => XS.iloadN X3.here hx rfl (hb hby d4_79) rfl) ?_
  show own_Go p.tables e below _ (T3.setTop (mkF m 80 #[.val (.ref a1), .val (.int p2), .val (.int (1 : Int32)), .val (.int (0 : Int32))] [(.int (0 : Int32))]))
  refine own_retN X3 Bd.notSynchronized hx (t := .boolean) Bd.returns (by simp) (hb hby d4_80) (show Q4e Z a1 p2 u_b u_o w1 h0 n0 _ T3.heap _ from by rw [e3]; exact ⟨rfl, N3, K3, (E_a1.wr W3), Fw3, (F_b_a1.other W3 (Or.inr (slot_ne (Or.inl (hw _ (List.mem_of_getElem? (i := 22) rfl))) (Or.inl (hw _ (List.mem_of_getElem? (i := 20) rfl))) (by decide) (t := .int) (t' := .int) (by decide) (by decide)))), (F_o_a1.other W3 (Or.inr (slot_ne (Or.inl (hw _ (List.mem_of_getElem? (i := 24) rfl))) (Or.inl (hw _ (List.mem_of_getElem? (i := 20) rfl))) (by decide) (t := .int) (t' := .int) (by decide) (by decide))))⟩) (by decide) (by decide)
def own_o0 (n b : Int32) : Int32 := 0
def own_o1 (n b : Int32) : Int32 := ((own_o0 n b) <<< ((1 : Int32) &&& 31)) ||| (own_v4o_28 (own_f3 n b (0 : Int32)))
def own_o2 (n b : Int32) : Int32 := ((own_o1 n b) <<< ((1 : Int32) &&& 31)) ||| (own_v4o_28 (own_f3 n b (1 : Int32)))
def own_o3 (n b : Int32) : Int32 := ((own_o2 n b) <<< ((1 : Int32) &&& 31)) ||| (own_v4o_28 (own_f3 n b (2 : Int32)))
def own_o4 (n b : Int32) : Int32 := ((own_o3 n b) <<< ((1 : Int32) &&& 31)) ||| (own_v4o_28 (own_f3 n b (3 : Int32)))
def own_o5 (n b : Int32) : Int32 := ((own_o4 n b) <<< ((1 : Int32) &&& 31)) ||| (own_v4o_28 (own_f3 n b (4 : Int32)))
def own_o6 (n b : Int32) : Int32 := ((own_o5 n b) <<< ((1 : Int32) &&& 31)) ||| (own_v4o_28 (own_f3 n b (5 : Int32)))
def own_o7 (n b : Int32) : Int32 := ((own_o6 n b) <<< ((1 : Int32) &&& 31)) ||| (own_v4o_28 (own_f3 n b (6 : Int32)))
def own_o8 (n b : Int32) : Int32 := ((own_o7 n b) <<< ((1 : Int32) &&& 31)) ||| (own_v4o_28 (own_f3 n b (7 : Int32)))
def own_o9 (n b : Int32) : Int32 := ((own_o8 n b) <<< ((1 : Int32) &&& 31)) ||| (own_v4o_28 (own_f3 n b (8 : Int32)))
def own_o10 (n b : Int32) : Int32 := ((own_o9 n b) <<< ((1 : Int32) &&& 31)) ||| (own_v4o_28 (own_f3 n b (9 : Int32)))
def own_o11 (n b : Int32) : Int32 := ((own_o10 n b) <<< ((1 : Int32) &&& 31)) ||| (own_v4o_28 (own_f3 n b (10 : Int32)))
def own_o12 (n b : Int32) : Int32 := ((own_o11 n b) <<< ((1 : Int32) &&& 31)) ||| (own_v4o_28 (own_f3 n b (11 : Int32)))
def own_o13 (n b : Int32) : Int32 := ((own_o12 n b) <<< ((1 : Int32) &&& 31)) ||| (own_v4o_28 (own_f3 n b (12 : Int32)))
def own_o14 (n b : Int32) : Int32 := ((own_o13 n b) <<< ((1 : Int32) &&& 31)) ||| (own_v4o_28 (own_f3 n b (13 : Int32)))
def own_o15 (n b : Int32) : Int32 := ((own_o14 n b) <<< ((1 : Int32) &&& 31)) ||| (own_v4o_28 (own_f3 n b (14 : Int32)))
/-- the bits of x as a natural number -/
def own_N (x : Int32) : Nat := x.toBitVec.toNat
theorem own_Ninj {x y : Int32} (h : own_N x = own_N y) : x = y := Int32.toBitVec_inj.mp (BitVec.eq_of_toNat_eq h)
theorem own_Nand (x y : Int32) : own_N (x &&& y) = own_N x &&& own_N y := by
  show (x &&& y).toBitVec.toNat = _
  rw [Int32.toBitVec_and, BitVec.toNat_and]; rfl
theorem own_Nor (x y : Int32) : own_N (x ||| y) = own_N x ||| own_N y := by
  show (x ||| y).toBitVec.toNat = _
  rw [Int32.toBitVec_or, BitVec.toNat_or]; rfl
/-- the j-th bit of b -/
def own_t (b : Int32) (j : Nat) : Nat := own_N b / 2 ^ j % 2
theorem own_t2 (b : Int32) (j : Nat) : own_t b j < 2 := Nat.mod_lt _ (by decide)
theorem own_shr (b J : Int32) (j : Nat) (hJ : ((J &&& 31).toUInt32.toBitVec % 32#32).toNat = j) : ((b.toUInt32 >>> (J &&& 31).toUInt32).toInt32).toBitVec = b.toBitVec >>> j := by
  show (b.toUInt32 >>> (J &&& 31).toUInt32).toBitVec = _
  rw [UInt32.toBitVec_shiftRight]
  show b.toBitVec >>> ((J &&& 31).toUInt32.toBitVec % 32#32) = _
  rw [BitVec.ushiftRight_eq', hJ]
/-- what take reads of the j-th time slot -/
theorem own_bit (n b J : Int32) (j : Nat) (hJ : ((J &&& 31).toUInt32.toBitVec % 32#32).toNat = j) : own_N (own_v4o_28 (own_f3 n b J)) = own_t b j := by
  have h7 : (own_f3 n b J).toBitVec.getLsbD 7 = b.toBitVec.getLsbD j := by
    unfold own_f3
    rw [Int32.toBitVec_or, Int32.toBitVec_and, Int32.toBitVec_shiftLeft, Int32.toBitVec_and, own_shr b J j hJ, BitVec.getLsbD_or, BitVec.getLsbD_and]
    have e1 : (-129 : Int32).toBitVec.getLsbD 7 = false := by decide
    have e2 : ((7 : Int32) &&& 31).toBitVec.smod 32 = 7#32 := by decide
    rw [e1, e2, Bool.and_false, Bool.false_or, BitVec.shiftLeft_eq', BitVec.getLsbD_shiftLeft]
    simp
  have h8 : (own_f3 n b J &&& 128 = 0) ↔ b.toBitVec.getLsbD j = false := by
    rw [← Int32.toBitVec_inj, Int32.toBitVec_and]
    have e3 : (128 : Int32).toBitVec = BitVec.twoPow 32 7 := by decide
    rw [e3, BitVec.and_twoPow, h7]
    cases b.toBitVec.getLsbD j <;> simp
    decide
  have h9 : b.toBitVec.getLsbD j = decide (own_N b / 2 ^ j % 2 = 1) := by
    show b.toBitVec.toNat.testBit j = _
    rw [Nat.testBit_eq_decide_div_mod_eq]; rfl
  unfold own_v4o_28 own_t
  by_cases h : own_f3 n b J &&& 128 = 0
  · rw [if_pos h]
    rw [h8, h9, decide_eq_false_iff_not] at h
    show 0 = _
    omega
  · rw [if_neg h]
    rw [h8, h9, decide_eq_false_iff_not] at h
    show 1 = _
    omega
theorem own_push (o c : Int32) (k : Nat) (hk : k < 2) (hc : own_N c = k) (ho : own_N o < 2147483648) : own_N ((o <<< ((1 : Int32) &&& 31)) ||| c) = 2 * own_N o + k := by
  rw [own_Nor, hc]
  have e : own_N (o <<< ((1 : Int32) &&& 31)) = 2 * own_N o := by
    show (o <<< ((1 : Int32) &&& 31)).toBitVec.toNat = _
    rw [Int32.toBitVec_shiftLeft]
    have e2 : ((1 : Int32) &&& 31).toBitVec.smod 32 = 1#32 := by decide
    rw [e2, BitVec.shiftLeft_eq', BitVec.toNat_shiftLeft]
    show (own_N o <<< 1) % 2 ^ 32 = _
    rw [Nat.shiftLeft_eq]
    omega
  rw [e]
  have q := Nat.two_pow_add_eq_or_of_lt (b := k) (i := 1) (by omega) (own_N o)
  rw [Nat.pow_one] at q
  exact q.symm
theorem own_land (a b c d : Nat) (hc : c < 2) (hd : d < 2) : (2 * a + c) &&& (2 * b + d) = 2 * (a &&& b) + (c &&& d) := by
  apply Nat.eq_of_testBit_eq
  intro i
  have hcd : c &&& d < 2 := Nat.lt_of_le_of_lt Nat.and_le_left hc
  cases i with
  | zero =>
    rw [Nat.testBit_and]
    have hc' : c = 0 ∨ c = 1 := by omega
    have hd' : d = 0 ∨ d = 1 := by omega
    rcases hc' with rfl | rfl <;> rcases hd' with rfl | rfl <;> simp [Nat.testBit_zero] <;> omega
  | succ i =>
    rw [Nat.testBit_and, Nat.testBit_succ, Nat.testBit_succ, Nat.testBit_succ, show (2 * a + c) / 2 = a by omega, show (2 * b + d) / 2 = b by omega, show (2 * (a &&& b) + (c &&& d)) / 2 = a &&& b by omega, Nat.testBit_and]
theorem own_and1 {c : Nat} (hc : c < 2) : c &&& 1 = c := by
  have : c = 0 ∨ c = 1 := by omega
  rcases this with rfl | rfl <;> rfl
theorem own_l1 (a b c : Nat) (hc : c < 2) : (2 * a + c) &&& (2 * b + 1) = 2 * (a &&& b) + c := by rw [own_land a b c 1 hc (by decide), own_and1 hc]
theorem own_l0 (a b c : Nat) (hc : c < 2) : (2 * a + c) &&& (2 * b) = 2 * (a &&& b) := by
  have := own_land a b c 0 hc (by decide)
  rw [Nat.add_zero, Nat.and_zero, Nat.add_zero] at this; exact this
/-- fourteen bits, the mask 0x3F3F -/
theorem own_mask (z a b c d e f g h i j k l m n : Nat) (ha : a < 2) (hb : b < 2) (hc : c < 2) (hd : d < 2) (he : e < 2) (hf : f < 2) (hg : g < 2) (hh : h < 2) (hi : i < 2) (hj : j < 2) (hk : k < 2) (hl : l < 2) (hm : m < 2) (hn : n < 2) :
    (2 * (2 * (2 * (2 * (2 * (2 * (2 * (2 * (2 * (2 * (2 * (2 * (2 * (2 * z + a) + b) + c) + d) + e) + f) + g) + h) + i) + j) + k) + l) + m) + n) &&& 16191 = 256 * (32 * a + 16 * b + 8 * c + 4 * d + 2 * e + f) + (32 * i + 16 * j + 8 * k + 4 * l + 2 * m + n) := by
  rw [show (16191 : Nat) = 2 * (2 * (2 * (2 * (2 * (2 * (2 * (2 * (2 * (2 * (2 * (2 * (2 * (2 * 0 + 1) + 1) + 1) + 1) + 1) + 1)) + 0 + 0) + 1) + 1) + 1) + 1) + 1) + 1 from rfl]
  simp only [Nat.add_zero]
  rw [own_l1 _ _ _ hn, own_l1 _ _ _ hm, own_l1 _ _ _ hl, own_l1 _ _ _ hk, own_l1 _ _ _ hj, own_l1 _ _ _ hi, own_l0 _ _ _ hh, own_l0 _ _ _ hg, own_l1 _ _ _ hf, own_l1 _ _ _ he, own_l1 _ _ _ hd, own_l1 _ _ _ hc, own_l1 _ _ _ hb, own_l1 _ _ _ ha, Nat.and_zero]
  omega
theorem own_six {a b c d e f : Nat} (ha : a < 2) (hb : b < 2) (hc : c < 2) (hd : d < 2) (he : e < 2) (hf : f < 2) : (32 * a + 16 * b + 8 * c + 4 * d + 2 * e + f = 11) ↔ (a + 2 * b + 4 * c + 8 * d + 16 * e + 32 * f = 52) := by
  have a' : a = 0 ∨ a = 1 := by omega
  have b' : b = 0 ∨ b = 1 := by omega
  have c' : c = 0 ∨ c = 1 := by omega
  have d' : d = 0 ∨ d = 1 := by omega
  rcases a' with rfl | rfl <;> rcases b' with rfl | rfl <;> rcases c' with rfl | rfl <;> rcases d' with rfl | rfl <;> omega
theorem own_mod64 (y : Nat) : y % 64 = y % 2 + 2 * (y / 2 ^ 1 % 2) + 4 * (y / 2 ^ 2 % 2) + 8 * (y / 2 ^ 3 % 2) + 16 * (y / 2 ^ 4 % 2) + 32 * (y / 2 ^ 5 % 2) := by omega
/-- six bits of b from the j-th on -/
theorem own_win (b J : Int32) (j : Nat) (hJ : ((J &&& 31).toUInt32.toBitVec % 32#32).toNat = j) : ((((b.toUInt32 >>> (J &&& 31).toUInt32).toInt32) &&& (63 : Int32)) = (52 : Int32)) ↔ (own_t b j + 2 * own_t b (j + 1) + 4 * own_t b (j + 2) + 8 * own_t b (j + 3) + 16 * own_t b (j + 4) + 32 * own_t b (j + 5) = 52) := by
  have e : own_N (((b.toUInt32 >>> (J &&& 31).toUInt32).toInt32) &&& (63 : Int32)) = own_N b / 2 ^ j % 64 := by
    rw [own_Nand]
    have h1 : own_N ((b.toUInt32 >>> (J &&& 31).toUInt32).toInt32) = own_N b / 2 ^ j := by
      show ((b.toUInt32 >>> (J &&& 31).toUInt32).toInt32).toBitVec.toNat = _
      rw [own_shr b J j hJ, BitVec.toNat_ushiftRight, Nat.shiftRight_eq_div_pow]; rfl
    have e63 : own_N (63 : Int32) = 2 ^ 6 - 1 := by decide
    rw [h1, e63, Nat.and_two_pow_sub_one_eq_mod]
  have h2 : ((((b.toUInt32 >>> (J &&& 31).toUInt32).toInt32) &&& (63 : Int32)) = (52 : Int32)) ↔ own_N b / 2 ^ j % 64 = 52 := by
    rw [← e]
    exact ⟨fun q => by rw [q]; rfl, fun q => own_Ninj (by rw [q]; rfl)⟩
  rw [h2]
  have d : ∀ i, own_t b (j + i) = own_N b / 2 ^ j / 2 ^ i % 2 := fun i => by
    unfold own_t
    rw [Nat.pow_add, Nat.div_div_eq_div_mul]
  have d0 : own_t b j = own_N b / 2 ^ j % 2 := rfl
  rw [d 1, d 2, d 3, d 4, d 5, d0]
  generalize own_N b / 2 ^ j = y
  rw [own_mod64 y]
theorem own_n0 (n b : Int32) : own_N (own_o0 n b) = 0 := rfl
theorem own_n1 (n b : Int32) : own_N (own_o1 n b) = 2 * (0) + own_t b 0 := by
  have h := own_n0 n b
  have t : ∀ j, own_t b j < 2 := own_t2 b
  have t0 := t 0
  unfold own_o1
  rw [own_push _ _ (own_t b 0) (t _) (own_bit n b 0 0 (by decide)) (by omega), h]
theorem own_n2 (n b : Int32) : own_N (own_o2 n b) = 2 * (2 * (0) + own_t b 0) + own_t b 1 := by
  have h := own_n1 n b
  have t : ∀ j, own_t b j < 2 := own_t2 b
  have t0 := t 0
  have t1 := t 1
  unfold own_o2
  rw [own_push _ _ (own_t b 1) (t _) (own_bit n b 1 1 (by decide)) (by omega), h]
theorem own_n3 (n b : Int32) : own_N (own_o3 n b) = 2 * (2 * (2 * (0) + own_t b 0) + own_t b 1) + own_t b 2 := by
  have h := own_n2 n b
  have t : ∀ j, own_t b j < 2 := own_t2 b
  have t0 := t 0
  have t1 := t 1
  have t2 := t 2
  unfold own_o3
  rw [own_push _ _ (own_t b 2) (t _) (own_bit n b 2 2 (by decide)) (by omega), h]
theorem own_n4 (n b : Int32) : own_N (own_o4 n b) = 2 * (2 * (2 * (2 * (0) + own_t b 0) + own_t b 1) + own_t b 2) + own_t b 3 := by
  have h := own_n3 n b
  have t : ∀ j, own_t b j < 2 := own_t2 b
  have t0 := t 0
  have t1 := t 1
  have t2 := t 2
  have t3 := t 3
  unfold own_o4
  rw [own_push _ _ (own_t b 3) (t _) (own_bit n b 3 3 (by decide)) (by omega), h]
theorem own_n5 (n b : Int32) : own_N (own_o5 n b) = 2 * (2 * (2 * (2 * (2 * (0) + own_t b 0) + own_t b 1) + own_t b 2) + own_t b 3) + own_t b 4 := by
  have h := own_n4 n b
  have t : ∀ j, own_t b j < 2 := own_t2 b
  have t0 := t 0
  have t1 := t 1
  have t2 := t 2
  have t3 := t 3
  have t4 := t 4
  unfold own_o5
  rw [own_push _ _ (own_t b 4) (t _) (own_bit n b 4 4 (by decide)) (by omega), h]
theorem own_n6 (n b : Int32) : own_N (own_o6 n b) = 2 * (2 * (2 * (2 * (2 * (2 * (0) + own_t b 0) + own_t b 1) + own_t b 2) + own_t b 3) + own_t b 4) + own_t b 5 := by
  have h := own_n5 n b
  have t : ∀ j, own_t b j < 2 := own_t2 b
  have t0 := t 0
  have t1 := t 1
  have t2 := t 2
  have t3 := t 3
  have t4 := t 4
  have t5 := t 5
  unfold own_o6
  rw [own_push _ _ (own_t b 5) (t _) (own_bit n b 5 5 (by decide)) (by omega), h]
theorem own_n7 (n b : Int32) : own_N (own_o7 n b) = 2 * (2 * (2 * (2 * (2 * (2 * (2 * (0) + own_t b 0) + own_t b 1) + own_t b 2) + own_t b 3) + own_t b 4) + own_t b 5) + own_t b 6 := by
  have h := own_n6 n b
  have t : ∀ j, own_t b j < 2 := own_t2 b
  have t0 := t 0
  have t1 := t 1
  have t2 := t 2
  have t3 := t 3
  have t4 := t 4
  have t5 := t 5
  have t6 := t 6
  unfold own_o7
  rw [own_push _ _ (own_t b 6) (t _) (own_bit n b 6 6 (by decide)) (by omega), h]
theorem own_n8 (n b : Int32) : own_N (own_o8 n b) = 2 * (2 * (2 * (2 * (2 * (2 * (2 * (2 * (0) + own_t b 0) + own_t b 1) + own_t b 2) + own_t b 3) + own_t b 4) + own_t b 5) + own_t b 6) + own_t b 7 := by
  have h := own_n7 n b
  have t : ∀ j, own_t b j < 2 := own_t2 b
  have t0 := t 0
  have t1 := t 1
  have t2 := t 2
  have t3 := t 3
  have t4 := t 4
  have t5 := t 5
  have t6 := t 6
  have t7 := t 7
  unfold own_o8
  rw [own_push _ _ (own_t b 7) (t _) (own_bit n b 7 7 (by decide)) (by omega), h]
theorem own_n9 (n b : Int32) : own_N (own_o9 n b) = 2 * (2 * (2 * (2 * (2 * (2 * (2 * (2 * (2 * (0) + own_t b 0) + own_t b 1) + own_t b 2) + own_t b 3) + own_t b 4) + own_t b 5) + own_t b 6) + own_t b 7) + own_t b 8 := by
  have h := own_n8 n b
  have t : ∀ j, own_t b j < 2 := own_t2 b
  have t0 := t 0
  have t1 := t 1
  have t2 := t 2
  have t3 := t 3
  have t4 := t 4
  have t5 := t 5
  have t6 := t 6
  have t7 := t 7
  have t8 := t 8
  unfold own_o9
  rw [own_push _ _ (own_t b 8) (t _) (own_bit n b 8 8 (by decide)) (by omega), h]
theorem own_n10 (n b : Int32) : own_N (own_o10 n b) = 2 * (2 * (2 * (2 * (2 * (2 * (2 * (2 * (2 * (2 * (0) + own_t b 0) + own_t b 1) + own_t b 2) + own_t b 3) + own_t b 4) + own_t b 5) + own_t b 6) + own_t b 7) + own_t b 8) + own_t b 9 := by
  have h := own_n9 n b
  have t : ∀ j, own_t b j < 2 := own_t2 b
  have t0 := t 0
  have t1 := t 1
  have t2 := t 2
  have t3 := t 3
  have t4 := t 4
  have t5 := t 5
  have t6 := t 6
  have t7 := t 7
  have t8 := t 8
  have t9 := t 9
  unfold own_o10
  rw [own_push _ _ (own_t b 9) (t _) (own_bit n b 9 9 (by decide)) (by omega), h]
theorem own_n11 (n b : Int32) : own_N (own_o11 n b) = 2 * (2 * (2 * (2 * (2 * (2 * (2 * (2 * (2 * (2 * (2 * (0) + own_t b 0) + own_t b 1) + own_t b 2) + own_t b 3) + own_t b 4) + own_t b 5) + own_t b 6) + own_t b 7) + own_t b 8) + own_t b 9) + own_t b 10 := by
  have h := own_n10 n b
  have t : ∀ j, own_t b j < 2 := own_t2 b
  have t0 := t 0
  have t1 := t 1
  have t2 := t 2
  have t3 := t 3
  have t4 := t 4
  have t5 := t 5
  have t6 := t 6
  have t7 := t 7
  have t8 := t 8
  have t9 := t 9
  have t10 := t 10
  unfold own_o11
  rw [own_push _ _ (own_t b 10) (t _) (own_bit n b 10 10 (by decide)) (by omega), h]
theorem own_n12 (n b : Int32) : own_N (own_o12 n b) = 2 * (2 * (2 * (2 * (2 * (2 * (2 * (2 * (2 * (2 * (2 * (2 * (0) + own_t b 0) + own_t b 1) + own_t b 2) + own_t b 3) + own_t b 4) + own_t b 5) + own_t b 6) + own_t b 7) + own_t b 8) + own_t b 9) + own_t b 10) + own_t b 11 := by
  have h := own_n11 n b
  have t : ∀ j, own_t b j < 2 := own_t2 b
  have t0 := t 0
  have t1 := t 1
  have t2 := t 2
  have t3 := t 3
  have t4 := t 4
  have t5 := t 5
  have t6 := t 6
  have t7 := t 7
  have t8 := t 8
  have t9 := t 9
  have t10 := t 10
  have t11 := t 11
  unfold own_o12
  rw [own_push _ _ (own_t b 11) (t _) (own_bit n b 11 11 (by decide)) (by omega), h]
theorem own_n13 (n b : Int32) : own_N (own_o13 n b) = 2 * (2 * (2 * (2 * (2 * (2 * (2 * (2 * (2 * (2 * (2 * (2 * (2 * (0) + own_t b 0) + own_t b 1) + own_t b 2) + own_t b 3) + own_t b 4) + own_t b 5) + own_t b 6) + own_t b 7) + own_t b 8) + own_t b 9) + own_t b 10) + own_t b 11) + own_t b 12 := by
  have h := own_n12 n b
  have t : ∀ j, own_t b j < 2 := own_t2 b
  have t0 := t 0
  have t1 := t 1
  have t2 := t 2
  have t3 := t 3
  have t4 := t 4
  have t5 := t 5
  have t6 := t 6
  have t7 := t 7
  have t8 := t 8
  have t9 := t 9
  have t10 := t 10
  have t11 := t 11
  have t12 := t 12
  unfold own_o13
  rw [own_push _ _ (own_t b 12) (t _) (own_bit n b 12 12 (by decide)) (by omega), h]
theorem own_n14 (n b : Int32) : own_N (own_o14 n b) = 2 * (2 * (2 * (2 * (2 * (2 * (2 * (2 * (2 * (2 * (2 * (2 * (2 * (2 * (0) + own_t b 0) + own_t b 1) + own_t b 2) + own_t b 3) + own_t b 4) + own_t b 5) + own_t b 6) + own_t b 7) + own_t b 8) + own_t b 9) + own_t b 10) + own_t b 11) + own_t b 12) + own_t b 13 := by
  have h := own_n13 n b
  have t : ∀ j, own_t b j < 2 := own_t2 b
  have t0 := t 0
  have t1 := t 1
  have t2 := t 2
  have t3 := t 3
  have t4 := t 4
  have t5 := t 5
  have t6 := t 6
  have t7 := t 7
  have t8 := t 8
  have t9 := t 9
  have t10 := t 10
  have t11 := t 11
  have t12 := t 12
  have t13 := t 13
  unfold own_o14
  rw [own_push _ _ (own_t b 13) (t _) (own_bit n b 13 13 (by decide)) (by omega), h]
theorem own_n15 (n b : Int32) : own_N (own_o15 n b) = 2 * (2 * (2 * (2 * (2 * (2 * (2 * (2 * (2 * (2 * (2 * (2 * (2 * (2 * (2 * (0) + own_t b 0) + own_t b 1) + own_t b 2) + own_t b 3) + own_t b 4) + own_t b 5) + own_t b 6) + own_t b 7) + own_t b 8) + own_t b 9) + own_t b 10) + own_t b 11) + own_t b 12) + own_t b 13) + own_t b 14 := by
  have h := own_n14 n b
  have t : ∀ j, own_t b j < 2 := own_t2 b
  have t0 := t 0
  have t1 := t 1
  have t2 := t 2
  have t3 := t 3
  have t4 := t 4
  have t5 := t 5
  have t6 := t 6
  have t7 := t 7
  have t8 := t 8
  have t9 := t 9
  have t10 := t 10
  have t11 := t 11
  have t12 := t 12
  have t13 := t 13
  have t14 := t 14
  unfold own_o15
  rw [own_push _ _ (own_t b 14) (t _) (own_bit n b 14 14 (by decide)) (by omega), h]
theorem own_p13 (n b : Int32) : own_f4o (own_f3 n b (13 : Int32)) (own_o13 n b) (13 : Int32) = own_f5 b (0 : Int32) := by
  have hN := own_n14 n b
  unfold own_o14 at hN
  have t : ∀ j, own_t b j < 2 := own_t2 b
  have hM := own_mask (0) (own_t b 0) (own_t b 1) (own_t b 2) (own_t b 3) (own_t b 4) (own_t b 5) (own_t b 6) (own_t b 7) (own_t b 8) (own_t b 9) (own_t b 10) (own_t b 11) (own_t b 12) (own_t b 13) (t 0) (t 1) (t 2) (t 3) (t 4) (t 5) (t 6) (t 7) (t 8) (t 9) (t 10) (t 11) (t 12) (t 13)
  have w1 := own_win b 0 0 (by decide)
  have w2 := own_win b (0 + 8) 8 (by decide)
  have s1 := own_six (t 0) (t 1) (t 2) (t 3) (t 4) (t 5)
  have s2 := own_six (t 8) (t 9) (t 10) (t 11) (t 12) (t 13)
  have hE : ((((own_o13 n b) <<< ((1 : Int32) &&& 31)) ||| (own_v4o_28 (own_f3 n b (13 : Int32)))) &&& (16191 : Int32) = (2827 : Int32)) ↔ (256 * (32 * own_t b 0 + 16 * own_t b 1 + 8 * own_t b 2 + 4 * own_t b 3 + 2 * own_t b 4 + own_t b 5) + (32 * own_t b 8 + 16 * own_t b 9 + 8 * own_t b 10 + 4 * own_t b 11 + 2 * own_t b 12 + own_t b 13) = 2827) := by
    rw [← hM, ← hN]
    constructor
    · intro q
      rw [show (16191 : Nat) = own_N 16191 from rfl, ← own_Nand, q]; rfl
    · intro q
      apply own_Ninj
      rw [own_Nand]; exact q
  have n1 : ¬ ((13 : Int32) + (1 : Int32)) < (14 : Int32) := by decide
  unfold own_f4o own_f5
  rw [if_neg n1]
  have hA : (256 * (32 * own_t b 0 + 16 * own_t b 1 + 8 * own_t b 2 + 4 * own_t b 3 + 2 * own_t b 4 + own_t b 5) + (32 * own_t b 8 + 16 * own_t b 9 + 8 * own_t b 10 + 4 * own_t b 11 + 2 * own_t b 12 + own_t b 13) = 2827) ↔ ((32 * own_t b 0 + 16 * own_t b 1 + 8 * own_t b 2 + 4 * own_t b 3 + 2 * own_t b 4 + own_t b 5 = 11) ∧ (32 * own_t b 8 + 16 * own_t b 9 + 8 * own_t b 10 + 4 * own_t b 11 + 2 * own_t b 12 + own_t b 13 = 11)) := by
    have t0 := t 0
    have t1 := t 1
    have t2 := t 2
    have t3 := t 3
    have t4 := t 4
    have t5 := t 5
    have t8 := t 8
    have t9 := t 9
    have t10 := t 10
    have t11 := t 11
    have t12 := t 12
    have t13 := t 13
    omega
  by_cases g1 : (((b.toUInt32 >>> ((0 : Int32) &&& 31).toUInt32).toInt32) &&& (63 : Int32)) = (52 : Int32)
  · rw [if_pos g1]
    by_cases g2 : (((b.toUInt32 >>> (((0 : Int32) + (8 : Int32)) &&& 31).toUInt32).toInt32) &&& (63 : Int32)) = (52 : Int32)
    · rw [if_pos g2, if_pos (hE.mpr (hA.mpr ⟨s1.mpr (w1.mp g1), s2.mpr (w2.mp g2)⟩))]
    · rw [if_neg g2, if_neg (fun q => g2 (w2.mpr (s2.mp (hA.mp (hE.mp q)).2)))]
  · rw [if_neg g1, if_neg (fun q => g1 (w1.mpr (s1.mp (hA.mp (hE.mp q)).1)))]
theorem own_p14 (n b : Int32) : own_f4o (own_f3 n b (14 : Int32)) (own_o14 n b) (14 : Int32) = own_f5 b (1 : Int32) := by
  have hN := own_n15 n b
  unfold own_o15 at hN
  have t : ∀ j, own_t b j < 2 := own_t2 b
  have hM := own_mask (2 * 0 + own_t b 0) (own_t b 1) (own_t b 2) (own_t b 3) (own_t b 4) (own_t b 5) (own_t b 6) (own_t b 7) (own_t b 8) (own_t b 9) (own_t b 10) (own_t b 11) (own_t b 12) (own_t b 13) (own_t b 14) (t 1) (t 2) (t 3) (t 4) (t 5) (t 6) (t 7) (t 8) (t 9) (t 10) (t 11) (t 12) (t 13) (t 14)
  have w1 := own_win b 1 1 (by decide)
  have w2 := own_win b (1 + 8) 9 (by decide)
  have s1 := own_six (t 1) (t 2) (t 3) (t 4) (t 5) (t 6)
  have s2 := own_six (t 9) (t 10) (t 11) (t 12) (t 13) (t 14)
  have hE : ((((own_o14 n b) <<< ((1 : Int32) &&& 31)) ||| (own_v4o_28 (own_f3 n b (14 : Int32)))) &&& (16191 : Int32) = (2827 : Int32)) ↔ (256 * (32 * own_t b 1 + 16 * own_t b 2 + 8 * own_t b 3 + 4 * own_t b 4 + 2 * own_t b 5 + own_t b 6) + (32 * own_t b 9 + 16 * own_t b 10 + 8 * own_t b 11 + 4 * own_t b 12 + 2 * own_t b 13 + own_t b 14) = 2827) := by
    rw [← hM, ← hN]
    constructor
    · intro q
      rw [show (16191 : Nat) = own_N 16191 from rfl, ← own_Nand, q]; rfl
    · intro q
      apply own_Ninj
      rw [own_Nand]; exact q
  have n1 : ¬ ((14 : Int32) + (1 : Int32)) < (14 : Int32) := by decide
  unfold own_f4o own_f5
  rw [if_neg n1]
  have hA : (256 * (32 * own_t b 1 + 16 * own_t b 2 + 8 * own_t b 3 + 4 * own_t b 4 + 2 * own_t b 5 + own_t b 6) + (32 * own_t b 9 + 16 * own_t b 10 + 8 * own_t b 11 + 4 * own_t b 12 + 2 * own_t b 13 + own_t b 14) = 2827) ↔ ((32 * own_t b 1 + 16 * own_t b 2 + 8 * own_t b 3 + 4 * own_t b 4 + 2 * own_t b 5 + own_t b 6 = 11) ∧ (32 * own_t b 9 + 16 * own_t b 10 + 8 * own_t b 11 + 4 * own_t b 12 + 2 * own_t b 13 + own_t b 14 = 11)) := by
    have t1 := t 1
    have t2 := t 2
    have t3 := t 3
    have t4 := t 4
    have t5 := t 5
    have t6 := t 6
    have t9 := t 9
    have t10 := t 10
    have t11 := t 11
    have t12 := t 12
    have t13 := t 13
    have t14 := t 14
    omega
  by_cases g1 : (((b.toUInt32 >>> ((1 : Int32) &&& 31).toUInt32).toInt32) &&& (63 : Int32)) = (52 : Int32)
  · rw [if_pos g1]
    by_cases g2 : (((b.toUInt32 >>> (((1 : Int32) + (8 : Int32)) &&& 31).toUInt32).toInt32) &&& (63 : Int32)) = (52 : Int32)
    · rw [if_pos g2, if_pos (hE.mpr (hA.mpr ⟨s1.mpr (w1.mp g1), s2.mpr (w2.mp g2)⟩))]
    · rw [if_neg g2, if_neg (fun q => g2 (w2.mpr (s2.mp (hA.mp (hE.mp q)).2)))]
  · rw [if_neg g1, if_neg (fun q => g1 (w1.mpr (s1.mp (hA.mp (hE.mp q)).1)))]
theorem pn_0 : plainName "com/example/pathgauge/pathgauge/e1/MultiframeSearchTakePinLaw" = true := by first | (simp [plainName, overriddenIn]; done) | decide +kernel
theorem pd_0 : parseMethodDescriptor "()V" = some ⟨[], none⟩ := by decide +kernel
theorem pd_1 : parseMethodDescriptor "(III)I" = some ⟨[.int, .int, .int], some .int⟩ := by decide +kernel
theorem pd_2 : parseMethodDescriptor "(IZ)Z" = some ⟨[.int, .boolean], some .boolean⟩ := by decide +kernel
theorem pd_3 : parseMethodDescriptor "(II)Z" = some ⟨[.int, .int], some .boolean⟩ := by decide +kernel
theorem ef_0 (m : MethodId) (p1 : Int32) (p2 : Int32) (p3 : Int32) (p4 : Int32) : entryFrame m #[(.int p1), (.int p2), (.int p3), (.int p4)] maxLocals = mkF m 0 #[.val (.int p1), .val (.int p2), .val (.int p3), .val (.int p4), .unset, .unset, .unset, .unset] [] := by first | (simp [entryFrame, mkF, argsToLocals, Value.category, maxLocals]; done) | rfl
def own_v0_11 (p1 : Int32) (p4 : Int32) : Int32 := (if (p4 &&& (3 : Int32)) = (1 : Int32) then ((p1 &&& (-16192 : Int32)) ||| (13364 : Int32)) else (if (p4 &&& (3 : Int32)) = (2 : Int32) then ((p1 &&& (-32383 : Int32)) ||| (26728 : Int32)) else (if (p4 &&& (3 : Int32)) = (3 : Int32) then ((p1 &&& (-8096 : Int32)) ||| (6682 : Int32)) else p1)))
def Q0 (Z : State) (p1 : Int32) (p2 : Int32) (p3 : Int32) (p4 : Int32) (h0 : Heap) (n0 : Nat) (v : Option Value) (h : Heap) (L : List Loc) : Prop := v = some (.int (1 : Int32)) ∧ Fr n0 L
set_option maxRecDepth 65536 in
set_option maxHeartbeats 40000000 in
theorem rm0 (l : Launch) (Z : State) (a0 : Array Value) (hw : ∀ d ∈ tables_1, d.before a0 Z = true) (ws : List Jvm.Cond) (p1 : Int32) (p2 : Int32) (p3 : Int32) (p4 : Int32) (h0 : Heap) (n0 : Nat) (Z0 : n0 ≤ h0.size) :
    MetFree l x (head1 (Jvm.Cond.code x code maxLocals ret :: ws) room_1) (fun a U => a = #[(.int p1), (.int p2), (.int p3), (.int p4)] ∧ Z.Warmed39 U.vm ∧ U.heap = h0) (fun _ _ _ _ _ => True) (fun _ U o U' => ∃ v L, o = .returned v ∧ Q0 Z p1 p2 p3 p4 h0 n0 v U'.heap L ∧ FrameEnd U o U' L 16 128) := by
  refine MetFree.of_bodySF (plainFor_of_name pn_0) hisR ?_
  intro p e s m args below meth c s₁ Bd hml0 hP hK
  obtain ⟨rfl, hZ, hh⟩ := hP
  have hx := Bd.exec
  have hby := Bd.bytes
  have hml : c.maxLocals = 8 := hml0
  have hown : s.vm.findClass "com/example/pathgauge/pathgauge/e1/MultiframeSearchTakePinLaw" = some m.cls := findClass_of_methodNamed Bd.named
  have hnm := (name_of_methodNamed Bd.named Bd.method).1
  have X0 : Stand p l e room_1 s m #[(.int p1), (.int p2), (.int p3), (.int p4)] below meth c s₁ [] 0 0 := Stand.of_body Bd
  have e0 : s₁.heap = h0 := by rw [← hh, Bd.state]; rfl
  have N0 := Fr.nil n0
  show own_Go p.tables e below (own_Fin below s (Q0 Z p1 p2 p3 p4 h0 n0) 16 128) (s₁.setTop (entryFrame m #[(.int p1), (.int p2), (.int p3), (.int p4)] maxLocals))
  refine own_go (S' := s₁.setTop (mkF m 0 #[.val (.int p1), .val (.int p2), .val (.int p3), .val (.int p4), .unset, .unset, .unset, .unset] [])) (fun t k => castTop (ef_0 m p1 p2 p3 p4) k) ?_
  show own_Go p.tables e below _ (s₁.setTop (mkF m 0 #[.val (.int p1), .val (.int p2), .val (.int p3), .val (.int p4), .unset, .unset, .unset, .unset] []))
  refine own_go (fun _ => XS.iloadN X0.here hx rfl (hb hby at_0) rfl) ?_
  show own_Go p.tables e below _ (s₁.setTop (mkF m 1 #[.val (.int p1), .val (.int p2), .val (.int p3), .val (.int p4), .unset, .unset, .unset, .unset] [(.int p1)]))
  refine own_go (fun _ => XS.istore X0.here hx rfl (hb hby at_1) rfl (l' := #[.val (.int p1), .val (.int p2), .val (.int p3), .val (.int p4), .val (.int p1), .unset, .unset, .unset]) rfl) ?_
  show own_Go p.tables e below _ (s₁.setTop (mkF m 3 #[.val (.int p1), .val (.int p2), .val (.int p3), .val (.int p4), .val (.int p1), .unset, .unset, .unset] []))
  refine own_go (fun _ => XS.iloadN X0.here hx rfl (hb hby at_3) rfl) ?_
  show own_Go p.tables e below _ (s₁.setTop (mkF m 4 #[.val (.int p1), .val (.int p2), .val (.int p3), .val (.int p4), .val (.int p1), .unset, .unset, .unset] [(.int p4)]))
  refine own_go (fun _ => XS.iconst X0.here hx rfl (hb hby at_4)) ?_
  show own_Go p.tables e below _ (s₁.setTop (mkF m 5 #[.val (.int p1), .val (.int p2), .val (.int p3), .val (.int p4), .val (.int p1), .unset, .unset, .unset] [(.int (3 : Int32)), (.int p4)]))
  refine own_go (fun _ => XS.iand X0.here hx rfl (hb hby at_5) rfl) ?_
  show own_Go p.tables e below _ (s₁.setTop (mkF m 6 #[.val (.int p1), .val (.int p2), .val (.int p3), .val (.int p4), .val (.int p1), .unset, .unset, .unset] [(.int (p4 &&& (3 : Int32)))]))
  refine own_go (fun _ => XS.istore X0.here hx rfl (hb hby at_6) rfl (l' := #[.val (.int p1), .val (.int p2), .val (.int p3), .val (.int p4), .val (.int p1), .val (.int (p4 &&& (3 : Int32))), .unset, .unset]) rfl) ?_
  show own_Go p.tables e below _ (s₁.setTop (mkF m 8 #[.val (.int p1), .val (.int p2), .val (.int p3), .val (.int p4), .val (.int p1), .val (.int (p4 &&& (3 : Int32))), .unset, .unset] []))
  refine own_go (fun _ => XS.iload X0.here hx rfl (hb hby at_8) rfl) ?_
  show own_Go p.tables e below _ (s₁.setTop (mkF m 10 #[.val (.int p1), .val (.int p2), .val (.int p3), .val (.int p4), .val (.int p1), .val (.int (p4 &&& (3 : Int32))), .unset, .unset] [(.int (p4 &&& (3 : Int32)))]))
  refine own_go (fun _ => XS.iconst X0.here hx rfl (hb hby at_10)) ?_
  refine own_go (S' := s₁.setTop (mkF m 68 #[.val (.int p1), .val (.int p2), .val (.int p3), .val (.int p4), .val (.int (own_v0_11 p1 p4)), .val (.int (p4 &&& (3 : Int32))), .unset, .unset] [])) (fun t kt => ?_) ?_
  · skip
    show Steps p.tables e below (s₁.setTop (mkF m 11 #[.val (.int p1), .val (.int p2), .val (.int p3), .val (.int p4), .val (.int p1), .val (.int (p4 &&& (3 : Int32))), .unset, .unset] [(.int (1 : Int32)), (.int (p4 &&& (3 : Int32)))])) _
    by_cases hc5_11 : (p4 &&& (3 : Int32)) = (1 : Int32)
    · skip
      refine XS.icmpNo X0.here hx rfl (hb hby at_11) rfl (teq hc5_11).2 ?_
      show Steps p.tables e below (s₁.setTop (mkF m 14 #[.val (.int p1), .val (.int p2), .val (.int p3), .val (.int p4), .val (.int p1), .val (.int (p4 &&& (3 : Int32))), .unset, .unset] [])) _
      refine XS.iload X0.here hx rfl (hb hby at_14) rfl ?_
      show Steps p.tables e below (s₁.setTop (mkF m 16 #[.val (.int p1), .val (.int p2), .val (.int p3), .val (.int p4), .val (.int p1), .val (.int (p4 &&& (3 : Int32))), .unset, .unset] [(.int p1)])) _
      refine XS.sipush X0.here hx rfl (hb hby at_16) ?_
      show Steps p.tables e below (s₁.setTop (mkF m 19 #[.val (.int p1), .val (.int p2), .val (.int p3), .val (.int p4), .val (.int p1), .val (.int (p4 &&& (3 : Int32))), .unset, .unset] [(.int (-16192 : Int32)), (.int p1)])) _
      refine XS.iand X0.here hx rfl (hb hby at_19) rfl ?_
      show Steps p.tables e below (s₁.setTop (mkF m 20 #[.val (.int p1), .val (.int p2), .val (.int p3), .val (.int p4), .val (.int p1), .val (.int (p4 &&& (3 : Int32))), .unset, .unset] [(.int (p1 &&& (-16192 : Int32)))])) _
      refine XS.sipush X0.here hx rfl (hb hby at_20) ?_
      show Steps p.tables e below (s₁.setTop (mkF m 23 #[.val (.int p1), .val (.int p2), .val (.int p3), .val (.int p4), .val (.int p1), .val (.int (p4 &&& (3 : Int32))), .unset, .unset] [(.int (13364 : Int32)), (.int (p1 &&& (-16192 : Int32)))])) _
      refine XS.ior X0.here hx rfl (hb hby at_23) rfl ?_
      show Steps p.tables e below (s₁.setTop (mkF m 24 #[.val (.int p1), .val (.int p2), .val (.int p3), .val (.int p4), .val (.int p1), .val (.int (p4 &&& (3 : Int32))), .unset, .unset] [(.int ((p1 &&& (-16192 : Int32)) ||| (13364 : Int32)))])) _
      refine XS.istore X0.here hx rfl (hb hby at_24) rfl (l' := #[.val (.int p1), .val (.int p2), .val (.int p3), .val (.int p4), .val (.int ((p1 &&& (-16192 : Int32)) ||| (13364 : Int32))), .val (.int (p4 &&& (3 : Int32))), .unset, .unset]) rfl ?_
      show Steps p.tables e below (s₁.setTop (mkF m 26 #[.val (.int p1), .val (.int p2), .val (.int p3), .val (.int p4), .val (.int ((p1 &&& (-16192 : Int32)) ||| (13364 : Int32))), .val (.int (p4 &&& (3 : Int32))), .unset, .unset] [])) _
      refine XS.goto X0.here hx rfl (pc0 := 26) (pc' := 68) rfl (hb hby at_26) (by decide) (by decide) ?_
      show Steps p.tables e below (s₁.setTop (mkF m 68 #[.val (.int p1), .val (.int p2), .val (.int p3), .val (.int p4), .val (.int ((p1 &&& (-16192 : Int32)) ||| (13364 : Int32))), .val (.int (p4 &&& (3 : Int32))), .unset, .unset] [])) _
      rw [show (own_v0_11 p1 p4) = ((p1 &&& (-16192 : Int32)) ||| (13364 : Int32)) from ((if_pos hc5_11).trans rfl)] at kt
      exact kt
    · skip
      refine XS.icmpYes X0.here hx rfl (pc0 := 11) (pc' := 29) rfl (hb hby at_11) rfl (feq hc5_11).2 (by decide) (by decide) ?_
      show Steps p.tables e below (s₁.setTop (mkF m 29 #[.val (.int p1), .val (.int p2), .val (.int p3), .val (.int p4), .val (.int p1), .val (.int (p4 &&& (3 : Int32))), .unset, .unset] [])) _
      refine XS.iload X0.here hx rfl (hb hby at_29) rfl ?_
      show Steps p.tables e below (s₁.setTop (mkF m 31 #[.val (.int p1), .val (.int p2), .val (.int p3), .val (.int p4), .val (.int p1), .val (.int (p4 &&& (3 : Int32))), .unset, .unset] [(.int (p4 &&& (3 : Int32)))])) _
      refine XS.iconst X0.here hx rfl (hb hby at_31) ?_
      show Steps p.tables e below (s₁.setTop (mkF m 32 #[.val (.int p1), .val (.int p2), .val (.int p3), .val (.int p4), .val (.int p1), .val (.int (p4 &&& (3 : Int32))), .unset, .unset] [(.int (2 : Int32)), (.int (p4 &&& (3 : Int32)))])) _
      by_cases hc6_32 : (p4 &&& (3 : Int32)) = (2 : Int32)
      · skip
        refine XS.icmpNo X0.here hx rfl (hb hby at_32) rfl (teq hc6_32).2 ?_
        show Steps p.tables e below (s₁.setTop (mkF m 35 #[.val (.int p1), .val (.int p2), .val (.int p3), .val (.int p4), .val (.int p1), .val (.int (p4 &&& (3 : Int32))), .unset, .unset] [])) _
        refine XS.iload X0.here hx rfl (hb hby at_35) rfl ?_
        show Steps p.tables e below (s₁.setTop (mkF m 37 #[.val (.int p1), .val (.int p2), .val (.int p3), .val (.int p4), .val (.int p1), .val (.int (p4 &&& (3 : Int32))), .unset, .unset] [(.int p1)])) _
        refine XS.sipush X0.here hx rfl (hb hby at_37) ?_
        show Steps p.tables e below (s₁.setTop (mkF m 40 #[.val (.int p1), .val (.int p2), .val (.int p3), .val (.int p4), .val (.int p1), .val (.int (p4 &&& (3 : Int32))), .unset, .unset] [(.int (-32383 : Int32)), (.int p1)])) _
        refine XS.iand X0.here hx rfl (hb hby at_40) rfl ?_
        show Steps p.tables e below (s₁.setTop (mkF m 41 #[.val (.int p1), .val (.int p2), .val (.int p3), .val (.int p4), .val (.int p1), .val (.int (p4 &&& (3 : Int32))), .unset, .unset] [(.int (p1 &&& (-32383 : Int32)))])) _
        refine XS.sipush X0.here hx rfl (hb hby at_41) ?_
        show Steps p.tables e below (s₁.setTop (mkF m 44 #[.val (.int p1), .val (.int p2), .val (.int p3), .val (.int p4), .val (.int p1), .val (.int (p4 &&& (3 : Int32))), .unset, .unset] [(.int (26728 : Int32)), (.int (p1 &&& (-32383 : Int32)))])) _
        refine XS.ior X0.here hx rfl (hb hby at_44) rfl ?_
        show Steps p.tables e below (s₁.setTop (mkF m 45 #[.val (.int p1), .val (.int p2), .val (.int p3), .val (.int p4), .val (.int p1), .val (.int (p4 &&& (3 : Int32))), .unset, .unset] [(.int ((p1 &&& (-32383 : Int32)) ||| (26728 : Int32)))])) _
        refine XS.istore X0.here hx rfl (hb hby at_45) rfl (l' := #[.val (.int p1), .val (.int p2), .val (.int p3), .val (.int p4), .val (.int ((p1 &&& (-32383 : Int32)) ||| (26728 : Int32))), .val (.int (p4 &&& (3 : Int32))), .unset, .unset]) rfl ?_
        show Steps p.tables e below (s₁.setTop (mkF m 47 #[.val (.int p1), .val (.int p2), .val (.int p3), .val (.int p4), .val (.int ((p1 &&& (-32383 : Int32)) ||| (26728 : Int32))), .val (.int (p4 &&& (3 : Int32))), .unset, .unset] [])) _
        refine XS.goto X0.here hx rfl (pc0 := 47) (pc' := 68) rfl (hb hby at_47) (by decide) (by decide) ?_
        show Steps p.tables e below (s₁.setTop (mkF m 68 #[.val (.int p1), .val (.int p2), .val (.int p3), .val (.int p4), .val (.int ((p1 &&& (-32383 : Int32)) ||| (26728 : Int32))), .val (.int (p4 &&& (3 : Int32))), .unset, .unset] [])) _
        rw [show (own_v0_11 p1 p4) = ((p1 &&& (-32383 : Int32)) ||| (26728 : Int32)) from ((if_neg hc5_11).trans ((if_pos hc6_32).trans rfl))] at kt
        exact kt
      · skip
        refine XS.icmpYes X0.here hx rfl (pc0 := 32) (pc' := 50) rfl (hb hby at_32) rfl (feq hc6_32).2 (by decide) (by decide) ?_
        show Steps p.tables e below (s₁.setTop (mkF m 50 #[.val (.int p1), .val (.int p2), .val (.int p3), .val (.int p4), .val (.int p1), .val (.int (p4 &&& (3 : Int32))), .unset, .unset] [])) _
        refine XS.iload X0.here hx rfl (hb hby at_50) rfl ?_
        show Steps p.tables e below (s₁.setTop (mkF m 52 #[.val (.int p1), .val (.int p2), .val (.int p3), .val (.int p4), .val (.int p1), .val (.int (p4 &&& (3 : Int32))), .unset, .unset] [(.int (p4 &&& (3 : Int32)))])) _
        refine XS.iconst X0.here hx rfl (hb hby at_52) ?_
        show Steps p.tables e below (s₁.setTop (mkF m 53 #[.val (.int p1), .val (.int p2), .val (.int p3), .val (.int p4), .val (.int p1), .val (.int (p4 &&& (3 : Int32))), .unset, .unset] [(.int (3 : Int32)), (.int (p4 &&& (3 : Int32)))])) _
        by_cases hc7_53 : (p4 &&& (3 : Int32)) = (3 : Int32)
        · skip
          refine XS.icmpNo X0.here hx rfl (hb hby at_53) rfl (teq hc7_53).2 ?_
          show Steps p.tables e below (s₁.setTop (mkF m 56 #[.val (.int p1), .val (.int p2), .val (.int p3), .val (.int p4), .val (.int p1), .val (.int (p4 &&& (3 : Int32))), .unset, .unset] [])) _
          refine XS.iload X0.here hx rfl (hb hby at_56) rfl ?_
          show Steps p.tables e below (s₁.setTop (mkF m 58 #[.val (.int p1), .val (.int p2), .val (.int p3), .val (.int p4), .val (.int p1), .val (.int (p4 &&& (3 : Int32))), .unset, .unset] [(.int p1)])) _
          refine XS.sipush X0.here hx rfl (hb hby at_58) ?_
          show Steps p.tables e below (s₁.setTop (mkF m 61 #[.val (.int p1), .val (.int p2), .val (.int p3), .val (.int p4), .val (.int p1), .val (.int (p4 &&& (3 : Int32))), .unset, .unset] [(.int (-8096 : Int32)), (.int p1)])) _
          refine XS.iand X0.here hx rfl (hb hby at_61) rfl ?_
          show Steps p.tables e below (s₁.setTop (mkF m 62 #[.val (.int p1), .val (.int p2), .val (.int p3), .val (.int p4), .val (.int p1), .val (.int (p4 &&& (3 : Int32))), .unset, .unset] [(.int (p1 &&& (-8096 : Int32)))])) _
          refine XS.sipush X0.here hx rfl (hb hby at_62) ?_
          show Steps p.tables e below (s₁.setTop (mkF m 65 #[.val (.int p1), .val (.int p2), .val (.int p3), .val (.int p4), .val (.int p1), .val (.int (p4 &&& (3 : Int32))), .unset, .unset] [(.int (6682 : Int32)), (.int (p1 &&& (-8096 : Int32)))])) _
          refine XS.ior X0.here hx rfl (hb hby at_65) rfl ?_
          show Steps p.tables e below (s₁.setTop (mkF m 66 #[.val (.int p1), .val (.int p2), .val (.int p3), .val (.int p4), .val (.int p1), .val (.int (p4 &&& (3 : Int32))), .unset, .unset] [(.int ((p1 &&& (-8096 : Int32)) ||| (6682 : Int32)))])) _
          refine XS.istore X0.here hx rfl (hb hby at_66) rfl (l' := #[.val (.int p1), .val (.int p2), .val (.int p3), .val (.int p4), .val (.int ((p1 &&& (-8096 : Int32)) ||| (6682 : Int32))), .val (.int (p4 &&& (3 : Int32))), .unset, .unset]) rfl ?_
          show Steps p.tables e below (s₁.setTop (mkF m 68 #[.val (.int p1), .val (.int p2), .val (.int p3), .val (.int p4), .val (.int ((p1 &&& (-8096 : Int32)) ||| (6682 : Int32))), .val (.int (p4 &&& (3 : Int32))), .unset, .unset] [])) _
          rw [show (own_v0_11 p1 p4) = ((p1 &&& (-8096 : Int32)) ||| (6682 : Int32)) from ((if_neg hc5_11).trans ((if_neg hc6_32).trans ((if_pos hc7_53).trans rfl)))] at kt
          exact kt
        · skip
          refine XS.icmpYes X0.here hx rfl (pc0 := 53) (pc' := 68) rfl (hb hby at_53) rfl (feq hc7_53).2 (by decide) (by decide) ?_
          show Steps p.tables e below (s₁.setTop (mkF m 68 #[.val (.int p1), .val (.int p2), .val (.int p3), .val (.int p4), .val (.int p1), .val (.int (p4 &&& (3 : Int32))), .unset, .unset] [])) _
          rw [show (own_v0_11 p1 p4) = p1 from ((if_neg hc5_11).trans ((if_neg hc6_32).trans ((if_neg hc7_53).trans rfl)))] at kt
          exact kt
  show own_Go p.tables e below _ (s₁.setTop (mkF m 68 #[.val (.int p1), .val (.int p2), .val (.int p3), .val (.int p4), .val (.int (own_v0_11 p1 p4)), .val (.int (p4 &&& (3 : Int32))), .unset, .unset] []))
  obtain ⟨T8, h8, X8, e8, E8, A8, D8, -, st8⟩ := newO X0 hx hZ hown (hw _ (List.mem_of_getElem? (i := 0) rfl)) (hw _ (List.mem_of_getElem? (i := 1) rfl)) (hw _ (List.mem_of_getElem? (i := 2) rfl)) e0 (g := (mkF m 68 #[.val (.int p1), .val (.int p2), .val (.int p3), .val (.int p4), .val (.int (own_v0_11 p1 p4)), .val (.int (p4 &&& (3 : Int32))), .unset, .unset] [])) rfl (hb hby at_68) (by decide) (by decide)
  obtain ⟨b8, g8⟩ : ∃ z, z = h0.size := ⟨_, rfl⟩
  rw [← g8] at A8 D8 st8
  refine own_go st8 ?_
  have g_b8 : n0 ≤ b8 := Nat.le_trans Z0 (Nat.le_of_eq g8.symm)
  have sz_b8 : h0.size ≤ b8 := (Nat.le_trans (Keep.refl h0 []).1 (Nat.le_of_eq g8.symm))
  have K8 : Keep h0 h8 [] := (Keep.refl h0 []).ext E8
  have F_frames_b8 : Fld Z h8 b8 "com/example/pathgauge/pathgauge/e1/MultiframeSearch" "frames" "I" (.int (0 : Int32)) := D8 (Or.inl (hw _ (List.mem_of_getElem? (i := 20) rfl))) (ty := .int) (by decide)
  have F_oddFrameBits_b8 : Fld Z h8 b8 "com/example/pathgauge/pathgauge/e1/MultiframeSearch" "oddFrameBits" "I" (.int (0 : Int32)) := D8 (Or.inl (hw _ (List.mem_of_getElem? (i := 22) rfl))) (ty := .int) (by decide)
  have F_oddFrames_b8 : Fld Z h8 b8 "com/example/pathgauge/pathgauge/e1/MultiframeSearch" "oddFrames" "I" (.int (0 : Int32)) := D8 (Or.inl (hw _ (List.mem_of_getElem? (i := 24) rfl))) (ty := .int) (by decide)
  show own_Go p.tables e below _ (T8.setTop (mkF m 71 #[.val (.int p1), .val (.int p2), .val (.int p3), .val (.int p4), .val (.int (own_v0_11 p1 p4)), .val (.int (p4 &&& (3 : Int32))), .unset, .unset] [(.ref b8)]))
  refine own_go (fun _ => XS.dup X8.here hx rfl (hb hby at_71) rfl rfl) ?_
  show own_Go p.tables e below _ (T8.setTop (mkF m 72 #[.val (.int p1), .val (.int p2), .val (.int p3), .val (.int p4), .val (.int (own_v0_11 p1 p4)), .val (.int (p4 &&& (3 : Int32))), .unset, .unset] [(.ref b8), (.ref b8)]))
  obtain ⟨v9, T9, L9, X9, hQ9, st9⟩ := own_tidyV X8 (X8.specialBack hx (y := (⟨"com/example/pathgauge/pathgauge/e1/MultiframeSearch", "<init>", "()V"⟩ : MethodName)) rfl hown (mvT hZ (hw _ (List.mem_of_getElem? (i := 3) rfl))) (mvT hZ (hw _ (List.mem_of_getElem? (i := 4) rfl))) (mvT hZ (hw _ (List.mem_of_getElem? (i := 5) rfl))) (by decide) (backOf (W := 1) (rm1 l Z a0 hw [] b8 h8 n0 (Nat.le_trans Z0 E8.1) ) hZ (hw _ (List.mem_of_getElem? (i := 5) rfl)) (hw _ (List.mem_of_getElem? (i := 2) rfl)) (by decide) (by decide)) (g := (mkF m 72 #[.val (.int p1), .val (.int p2), .val (.int p3), .val (.int p4), .val (.int (own_v0_11 p1 p4)), .val (.int (p4 &&& (3 : Int32))), .unset, .unset] [(.ref b8), (.ref b8)])) rfl (by rw [hml]; rfl) (Steps.refl _) (a := b8) (argsL := []) (rest := [(.ref b8)]) (lenOf pd_0 rfl) rfl (by show 2 * 0 + _ ≤ _; exact Nat.le_of_eq rfl) (hb hby at_72) (fun _ _ => ⟨rfl, e8, (by decide : 1 + 0 ≤ _), (by decide : 3 + 0 ≤ _)⟩)) (c' := 1) (n' := 3) rfl rfl
  obtain ⟨rfl, N9q, e9⟩ := hQ9
  have N9 := Fr.app N0 N9q
  refine own_via st9 ?_
  show own_Go p.tables e below _ (T9.setTop (mkF m 75 #[.val (.int p1), .val (.int p2), .val (.int p3), .val (.int p4), .val (.int (own_v0_11 p1 p4)), .val (.int (p4 &&& (3 : Int32))), .unset, .unset] [(.ref b8)]))
  refine own_go (fun _ => XS.astore X9.here hx rfl (hb hby at_75) rfl rfl (l' := #[.val (.int p1), .val (.int p2), .val (.int p3), .val (.int p4), .val (.int (own_v0_11 p1 p4)), .val (.int (p4 &&& (3 : Int32))), .val (.ref b8), .unset]) rfl) ?_
  show own_Go p.tables e below _ (T9.setTop (mkF m 77 #[.val (.int p1), .val (.int p2), .val (.int p3), .val (.int p4), .val (.int (own_v0_11 p1 p4)), .val (.int (p4 &&& (3 : Int32))), .val (.ref b8), .unset] []))
  refine own_go (fun _ => XS.iconst X9.here hx rfl (hb hby at_77)) ?_
  show own_Go p.tables e below _ (T9.setTop (mkF m 78 #[.val (.int p1), .val (.int p2), .val (.int p3), .val (.int p4), .val (.int (own_v0_11 p1 p4)), .val (.int (p4 &&& (3 : Int32))), .val (.ref b8), .unset] [(.int (1 : Int32))]))
  refine own_go (fun _ => XS.istore X9.here hx rfl (hb hby at_78) rfl (l' := #[.val (.int p1), .val (.int p2), .val (.int p3), .val (.int p4), .val (.int (own_v0_11 p1 p4)), .val (.int (p4 &&& (3 : Int32))), .val (.ref b8), .val (.int (1 : Int32))]) rfl) ?_
  show own_Go p.tables e below _ (T9.setTop (mkF m 80 #[.val (.int p1), .val (.int p2), .val (.int p3), .val (.int p4), .val (.int (own_v0_11 p1 p4)), .val (.int (p4 &&& (3 : Int32))), .val (.ref b8), .val (.int (1 : Int32))] []))
  refine own_go (fun _ => XS.iload X9.here hx rfl (hb hby at_80) rfl) ?_
  show own_Go p.tables e below _ (T9.setTop (mkF m 82 #[.val (.int p1), .val (.int p2), .val (.int p3), .val (.int p4), .val (.int (own_v0_11 p1 p4)), .val (.int (p4 &&& (3 : Int32))), .val (.ref b8), .val (.int (1 : Int32))] [(.int (1 : Int32))]))
  refine own_go (fun _ => XS.aload X9.here hx rfl (hb hby at_82) rfl rfl) ?_
  show own_Go p.tables e below _ (T9.setTop (mkF m 84 #[.val (.int p1), .val (.int p2), .val (.int p3), .val (.int p4), .val (.int (own_v0_11 p1 p4)), .val (.int (p4 &&& (3 : Int32))), .val (.ref b8), .val (.int (1 : Int32))] [(.ref b8), (.int (1 : Int32))]))
  refine own_go (fun _ => XS.iloadN X9.here hx rfl (hb hby at_84) rfl) ?_
  show own_Go p.tables e below _ (T9.setTop (mkF m 85 #[.val (.int p1), .val (.int p2), .val (.int p3), .val (.int p4), .val (.int (own_v0_11 p1 p4)), .val (.int (p4 &&& (3 : Int32))), .val (.ref b8), .val (.int (1 : Int32))] [(.int p2), (.ref b8), (.int (1 : Int32))]))
  refine own_go (fun _ => XS.iload X9.here hx rfl (hb hby at_85) rfl) ?_
  show own_Go p.tables e below _ (T9.setTop (mkF m 87 #[.val (.int p1), .val (.int p2), .val (.int p3), .val (.int p4), .val (.int (own_v0_11 p1 p4)), .val (.int (p4 &&& (3 : Int32))), .val (.ref b8), .val (.int (1 : Int32))] [(.int (own_v0_11 p1 p4)), (.int p2), (.ref b8), (.int (1 : Int32))]))
  refine own_go (fun _ => XS.iconst X9.here hx rfl (hb hby at_87)) ?_
  show own_Go p.tables e below _ (T9.setTop (mkF m 88 #[.val (.int p1), .val (.int p2), .val (.int p3), .val (.int p4), .val (.int (own_v0_11 p1 p4)), .val (.int (p4 &&& (3 : Int32))), .val (.ref b8), .val (.int (1 : Int32))] [(.int (0 : Int32)), (.int (own_v0_11 p1 p4)), (.int p2), (.ref b8), (.int (1 : Int32))]))
  obtain ⟨v10, T10, L10, X10, hQ10, st10⟩ := own_tidyS X9 (Jvm.LawKit.callS X9 hx (y := (⟨"com/example/pathgauge/pathgauge/e1/MultiframeSearchTakePinLaw", "ts", "(III)I"⟩ : MethodName)) hown (mvT hZ (hw _ (List.mem_of_getElem? (i := 9) rfl))) (mvT hZ (hw _ (List.mem_of_getElem? (i := 10) rfl))) (mvT hZ (hw _ (List.mem_of_getElem? (i := 11) rfl))) (mvT hZ (hw _ (List.mem_of_getElem? (i := 12) rfl))) (by decide) (backOf (W := 2) (rm3 l Z a0 hw [] p2 (own_v0_11 p1 p4) (0 : Int32) h8 n0 (Nat.le_trans Z0 E8.1) ) hZ (hw _ (List.mem_of_getElem? (i := 12) rfl)) (hw _ (List.mem_of_getElem? (i := 11) rfl)) (by decide) (by decide)) (g := (mkF m 88 #[.val (.int p1), .val (.int p2), .val (.int p3), .val (.int p4), .val (.int (own_v0_11 p1 p4)), .val (.int (p4 &&& (3 : Int32))), .val (.ref b8), .val (.int (1 : Int32))] [(.int (0 : Int32)), (.int (own_v0_11 p1 p4)), (.int p2), (.ref b8), (.int (1 : Int32))])) rfl (by rw [hml]; rfl) (argsL := [(.int p2), (.int (own_v0_11 p1 p4)), (.int (0 : Int32))]) (rest := [(.ref b8), (.int (1 : Int32))]) (lenOf pd_1 rfl) rfl (by show 2 * 0 + _ ≤ _; exact Nat.le_of_eq rfl) (hb hby at_88) (fun _ _ => ⟨rfl, e9, (by decide : 1 + 0 ≤ _), (by decide : 3 + 0 ≤ _)⟩)) (c' := 1) (n' := 3) rfl rfl
  obtain ⟨rfl, N10q, e10⟩ := hQ10
  have N10 := Fr.app N9 N10q
  refine own_go st10 ?_
  show own_Go p.tables e below _ (T10.setTop (mkF m 91 #[.val (.int p1), .val (.int p2), .val (.int p3), .val (.int p4), .val (.int (own_v0_11 p1 p4)), .val (.int (p4 &&& (3 : Int32))), .val (.ref b8), .val (.int (1 : Int32))] [(.int (own_f3 p2 (own_v0_11 p1 p4) (0 : Int32))), (.ref b8), (.int (1 : Int32))]))
  refine own_go (fun _ => XS.iconst X10.here hx rfl (hb hby at_91)) ?_
  show own_Go p.tables e below _ (T10.setTop (mkF m 92 #[.val (.int p1), .val (.int p2), .val (.int p3), .val (.int p4), .val (.int (own_v0_11 p1 p4)), .val (.int (p4 &&& (3 : Int32))), .val (.ref b8), .val (.int (1 : Int32))] [(.int (0 : Int32)), (.int (own_f3 p2 (own_v0_11 p1 p4) (0 : Int32))), (.ref b8), (.int (1 : Int32))]))
  obtain ⟨cq11, kq11, q11a, q11b, q11c⟩ := isOf hZ e10 A8
  obtain ⟨v11, T11, L11, X11, hQ11, st11⟩ := own_tidyV X10 (X10.virtualBack hx (y := (⟨"com/example/pathgauge/pathgauge/e1/MultiframeSearch", "take", "(IZ)Z"⟩ : MethodName)) (z := (⟨"com/example/pathgauge/pathgauge/e1/MultiframeSearch", "take", "(IZ)Z"⟩ : MethodName)) hown (mvT hZ (hw _ (List.mem_of_getElem? (i := 14) rfl))) (mvT hZ (hw _ (List.mem_of_getElem? (i := 15) rfl))) (notFace_of_selects (args := #[]) (mvT hZ (hw _ (List.mem_of_getElem? (i := 17) rfl)))) (mvT hZ (hw _ (List.mem_of_getElem? (i := 17) rfl))) (mvT hZ (hw _ (List.mem_of_getElem? (i := 16) rfl))) (by decide) (backOf (W := 1) (rm4o l Z a0 hw [] b8 (own_f3 p2 (own_v0_11 p1 p4) (0 : Int32)) (0 : Int32) (0 : Int32) (0 : Int32) h8 n0 (Nat.le_trans Z0 E8.1) F_frames_b8 A8 g_b8 F_oddFrameBits_b8 F_oddFrames_b8) hZ (hw _ (List.mem_of_getElem? (i := 18) rfl)) (hw _ (List.mem_of_getElem? (i := 2) rfl)) (by decide) (by decide)) q11a q11c (g := (mkF m 92 #[.val (.int p1), .val (.int p2), .val (.int p3), .val (.int p4), .val (.int (own_v0_11 p1 p4)), .val (.int (p4 &&& (3 : Int32))), .val (.ref b8), .val (.int (1 : Int32))] [(.int (0 : Int32)), (.int (own_f3 p2 (own_v0_11 p1 p4) (0 : Int32))), (.ref b8), (.int (1 : Int32))])) rfl (by rw [hml]; rfl) (Steps.refl _) (argsL := [(.int (own_f3 p2 (own_v0_11 p1 p4) (0 : Int32))), (.int (0 : Int32))]) (rest := [(.int (1 : Int32))]) (lenOf pd_2 rfl) rfl (by show 2 * 0 + _ ≤ _; exact Nat.le_of_eq rfl) (hb hby at_92) (fun _ _ => ⟨rfl, e10, (by decide : 1 + 0 ≤ _), (by decide : 3 + 0 ≤ _)⟩)) (c' := 1) (n' := 3) rfl rfl
  obtain ⟨rfl, N11q, Kc11, F11_0, F11_1, F11_2, F11_3⟩ := hQ11
  have N11 := Fr.app N10 N11q
  refine own_via st11 ?_
  have K11 : Keep h0 T11.heap [] := K8.trans Kc11 (allS (Or.inr sz_b8) all0)
  have G11_1 : Fld Z T11.heap b8 "com/example/pathgauge/pathgauge/e1/MultiframeSearch" "frames" "I" (.int (1 : Int32)) := F11_1
  have G11_2 : Fld Z T11.heap b8 "com/example/pathgauge/pathgauge/e1/MultiframeSearch" "oddFrameBits" "I" (.int (own_o1 p2 (own_v0_11 p1 p4))) := F11_2
  have G11_3 : Fld Z T11.heap b8 "com/example/pathgauge/pathgauge/e1/MultiframeSearch" "oddFrames" "I" (.int (1 : Int32)) := F11_3
  show own_Go p.tables e below _ (T11.setTop (mkF m 95 #[.val (.int p1), .val (.int p2), .val (.int p3), .val (.int p4), .val (.int (own_v0_11 p1 p4)), .val (.int (p4 &&& (3 : Int32))), .val (.ref b8), .val (.int (1 : Int32))] [(.int (own_f4o (own_f3 p2 (own_v0_11 p1 p4) (0 : Int32)) (0 : Int32) (0 : Int32))), (.int (1 : Int32))]))
  rw [show (own_f4o (own_f3 p2 (own_v0_11 p1 p4) (0 : Int32)) (0 : Int32) (0 : Int32)) = (0 : Int32) from if_pos (by decide)]
  show own_Go p.tables e below _ (T11.setTop (mkF m 95 #[.val (.int p1), .val (.int p2), .val (.int p3), .val (.int p4), .val (.int (own_v0_11 p1 p4)), .val (.int (p4 &&& (3 : Int32))), .val (.ref b8), .val (.int (1 : Int32))] [(.int (0 : Int32)), (.int (1 : Int32))]))
  refine own_go (fun _ => XS.ifNo X11.here hx rfl (hb hby at_95) rfl ((if0 _ _).trans (teq (by decide : (0 : Int32) = (0 : Int32))).2)) ?_
  show own_Go p.tables e below _ (T11.setTop (mkF m 98 #[.val (.int p1), .val (.int p2), .val (.int p3), .val (.int p4), .val (.int (own_v0_11 p1 p4)), .val (.int (p4 &&& (3 : Int32))), .val (.ref b8), .val (.int (1 : Int32))] [(.int (1 : Int32))]))
  refine own_go (fun _ => XS.iconst X11.here hx rfl (hb hby at_98)) ?_
  show own_Go p.tables e below _ (T11.setTop (mkF m 99 #[.val (.int p1), .val (.int p2), .val (.int p3), .val (.int p4), .val (.int (own_v0_11 p1 p4)), .val (.int (p4 &&& (3 : Int32))), .val (.ref b8), .val (.int (1 : Int32))] [(.int (1 : Int32)), (.int (1 : Int32))]))
  refine own_go (fun _ => XS.goto X11.here hx rfl (pc0 := 99) (pc' := 103) rfl (hb hby at_99) (by decide) (by decide)) ?_
  show own_Go p.tables e below _ (T11.setTop (mkF m 103 #[.val (.int p1), .val (.int p2), .val (.int p3), .val (.int p4), .val (.int (own_v0_11 p1 p4)), .val (.int (p4 &&& (3 : Int32))), .val (.ref b8), .val (.int (1 : Int32))] [(.int (1 : Int32)), (.int (1 : Int32))]))
  refine own_go (fun _ => XS.iand X11.here hx rfl (hb hby at_103) rfl) ?_
  show own_Go p.tables e below _ (T11.setTop (mkF m 104 #[.val (.int p1), .val (.int p2), .val (.int p3), .val (.int p4), .val (.int (own_v0_11 p1 p4)), .val (.int (p4 &&& (3 : Int32))), .val (.ref b8), .val (.int (1 : Int32))] [(.int ((1 : Int32) &&& (1 : Int32)))]))
  rw [show ((1 : Int32) &&& (1 : Int32)) = (1 : Int32) from by decide]
  show own_Go p.tables e below _ (T11.setTop (mkF m 104 #[.val (.int p1), .val (.int p2), .val (.int p3), .val (.int p4), .val (.int (own_v0_11 p1 p4)), .val (.int (p4 &&& (3 : Int32))), .val (.ref b8), .val (.int (1 : Int32))] [(.int (1 : Int32))]))
  refine own_go (fun _ => XS.istore X11.here hx rfl (hb hby at_104) rfl (l' := #[.val (.int p1), .val (.int p2), .val (.int p3), .val (.int p4), .val (.int (own_v0_11 p1 p4)), .val (.int (p4 &&& (3 : Int32))), .val (.ref b8), .val (.int (1 : Int32))]) rfl) ?_
  show own_Go p.tables e below _ (T11.setTop (mkF m 106 #[.val (.int p1), .val (.int p2), .val (.int p3), .val (.int p4), .val (.int (own_v0_11 p1 p4)), .val (.int (p4 &&& (3 : Int32))), .val (.ref b8), .val (.int (1 : Int32))] []))
  refine own_go (fun _ => XS.iload X11.here hx rfl (hb hby at_106) rfl) ?_
  show own_Go p.tables e below _ (T11.setTop (mkF m 108 #[.val (.int p1), .val (.int p2), .val (.int p3), .val (.int p4), .val (.int (own_v0_11 p1 p4)), .val (.int (p4 &&& (3 : Int32))), .val (.ref b8), .val (.int (1 : Int32))] [(.int (1 : Int32))]))
  refine own_go (fun _ => XS.aload X11.here hx rfl (hb hby at_108) rfl rfl) ?_
  show own_Go p.tables e below _ (T11.setTop (mkF m 110 #[.val (.int p1), .val (.int p2), .val (.int p3), .val (.int p4), .val (.int (own_v0_11 p1 p4)), .val (.int (p4 &&& (3 : Int32))), .val (.ref b8), .val (.int (1 : Int32))] [(.ref b8), (.int (1 : Int32))]))
  refine own_go (fun _ => XS.iloadN X11.here hx rfl (hb hby at_110) rfl) ?_
  show own_Go p.tables e below _ (T11.setTop (mkF m 111 #[.val (.int p1), .val (.int p2), .val (.int p3), .val (.int p4), .val (.int (own_v0_11 p1 p4)), .val (.int (p4 &&& (3 : Int32))), .val (.ref b8), .val (.int (1 : Int32))] [(.int p2), (.ref b8), (.int (1 : Int32))]))
  refine own_go (fun _ => XS.iload X11.here hx rfl (hb hby at_111) rfl) ?_
  show own_Go p.tables e below _ (T11.setTop (mkF m 113 #[.val (.int p1), .val (.int p2), .val (.int p3), .val (.int p4), .val (.int (own_v0_11 p1 p4)), .val (.int (p4 &&& (3 : Int32))), .val (.ref b8), .val (.int (1 : Int32))] [(.int (own_v0_11 p1 p4)), (.int p2), (.ref b8), (.int (1 : Int32))]))
  refine own_go (fun _ => XS.iconst X11.here hx rfl (hb hby at_113)) ?_
  show own_Go p.tables e below _ (T11.setTop (mkF m 114 #[.val (.int p1), .val (.int p2), .val (.int p3), .val (.int p4), .val (.int (own_v0_11 p1 p4)), .val (.int (p4 &&& (3 : Int32))), .val (.ref b8), .val (.int (1 : Int32))] [(.int (1 : Int32)), (.int (own_v0_11 p1 p4)), (.int p2), (.ref b8), (.int (1 : Int32))]))
  obtain ⟨v12, T12, L12, X12, hQ12, st12⟩ := own_tidyS X11 (Jvm.LawKit.callS X11 hx (y := (⟨"com/example/pathgauge/pathgauge/e1/MultiframeSearchTakePinLaw", "ts", "(III)I"⟩ : MethodName)) hown (mvT hZ (hw _ (List.mem_of_getElem? (i := 9) rfl))) (mvT hZ (hw _ (List.mem_of_getElem? (i := 10) rfl))) (mvT hZ (hw _ (List.mem_of_getElem? (i := 11) rfl))) (mvT hZ (hw _ (List.mem_of_getElem? (i := 12) rfl))) (by decide) (backOf (W := 2) (rm3 l Z a0 hw [] p2 (own_v0_11 p1 p4) (1 : Int32) T11.heap n0 (Nat.le_trans (Nat.le_trans Z0 E8.1) Kc11.1) ) hZ (hw _ (List.mem_of_getElem? (i := 12) rfl)) (hw _ (List.mem_of_getElem? (i := 11) rfl)) (by decide) (by decide)) (g := (mkF m 114 #[.val (.int p1), .val (.int p2), .val (.int p3), .val (.int p4), .val (.int (own_v0_11 p1 p4)), .val (.int (p4 &&& (3 : Int32))), .val (.ref b8), .val (.int (1 : Int32))] [(.int (1 : Int32)), (.int (own_v0_11 p1 p4)), (.int p2), (.ref b8), (.int (1 : Int32))])) rfl (by rw [hml]; rfl) (argsL := [(.int p2), (.int (own_v0_11 p1 p4)), (.int (1 : Int32))]) (rest := [(.ref b8), (.int (1 : Int32))]) (lenOf pd_1 rfl) rfl (by show 2 * 0 + _ ≤ _; exact Nat.le_of_eq rfl) (hb hby at_114) (fun _ _ => ⟨rfl, rfl, (by decide : 1 + 0 ≤ _), (by decide : 3 + 0 ≤ _)⟩)) (c' := 1) (n' := 3) rfl rfl
  obtain ⟨rfl, N12q, e12⟩ := hQ12
  have N12 := Fr.app N11 N12q
  refine own_go st12 ?_
  show own_Go p.tables e below _ (T12.setTop (mkF m 117 #[.val (.int p1), .val (.int p2), .val (.int p3), .val (.int p4), .val (.int (own_v0_11 p1 p4)), .val (.int (p4 &&& (3 : Int32))), .val (.ref b8), .val (.int (1 : Int32))] [(.int (own_f3 p2 (own_v0_11 p1 p4) (1 : Int32))), (.ref b8), (.int (1 : Int32))]))
  refine own_go (fun _ => XS.iconst X12.here hx rfl (hb hby at_117)) ?_
  show own_Go p.tables e below _ (T12.setTop (mkF m 118 #[.val (.int p1), .val (.int p2), .val (.int p3), .val (.int p4), .val (.int (own_v0_11 p1 p4)), .val (.int (p4 &&& (3 : Int32))), .val (.ref b8), .val (.int (1 : Int32))] [(.int (0 : Int32)), (.int (own_f3 p2 (own_v0_11 p1 p4) (1 : Int32))), (.ref b8), (.int (1 : Int32))]))
  obtain ⟨cq13, kq13, q13a, q13b, q13c⟩ := isOf hZ e12 F11_0
  obtain ⟨v13, T13, L13, X13, hQ13, st13⟩ := own_tidyV X12 (X12.virtualBack hx (y := (⟨"com/example/pathgauge/pathgauge/e1/MultiframeSearch", "take", "(IZ)Z"⟩ : MethodName)) (z := (⟨"com/example/pathgauge/pathgauge/e1/MultiframeSearch", "take", "(IZ)Z"⟩ : MethodName)) hown (mvT hZ (hw _ (List.mem_of_getElem? (i := 14) rfl))) (mvT hZ (hw _ (List.mem_of_getElem? (i := 15) rfl))) (notFace_of_selects (args := #[]) (mvT hZ (hw _ (List.mem_of_getElem? (i := 17) rfl)))) (mvT hZ (hw _ (List.mem_of_getElem? (i := 17) rfl))) (mvT hZ (hw _ (List.mem_of_getElem? (i := 16) rfl))) (by decide) (backOf (W := 1) (rm4o l Z a0 hw [] b8 (own_f3 p2 (own_v0_11 p1 p4) (1 : Int32)) (1 : Int32) (own_o1 p2 (own_v0_11 p1 p4)) (1 : Int32) T11.heap n0 (Nat.le_trans (Nat.le_trans Z0 E8.1) Kc11.1) G11_1 F11_0 g_b8 G11_2 G11_3) hZ (hw _ (List.mem_of_getElem? (i := 18) rfl)) (hw _ (List.mem_of_getElem? (i := 2) rfl)) (by decide) (by decide)) q13a q13c (g := (mkF m 118 #[.val (.int p1), .val (.int p2), .val (.int p3), .val (.int p4), .val (.int (own_v0_11 p1 p4)), .val (.int (p4 &&& (3 : Int32))), .val (.ref b8), .val (.int (1 : Int32))] [(.int (0 : Int32)), (.int (own_f3 p2 (own_v0_11 p1 p4) (1 : Int32))), (.ref b8), (.int (1 : Int32))])) rfl (by rw [hml]; rfl) (Steps.refl _) (argsL := [(.int (own_f3 p2 (own_v0_11 p1 p4) (1 : Int32))), (.int (0 : Int32))]) (rest := [(.int (1 : Int32))]) (lenOf pd_2 rfl) rfl (by show 2 * 0 + _ ≤ _; exact Nat.le_of_eq rfl) (hb hby at_118) (fun _ _ => ⟨rfl, e12, (by decide : 1 + 0 ≤ _), (by decide : 3 + 0 ≤ _)⟩)) (c' := 1) (n' := 3) rfl rfl
  obtain ⟨rfl, N13q, Kc13, F13_0, F13_1, F13_2, F13_3⟩ := hQ13
  have N13 := Fr.app N12 N13q
  refine own_via st13 ?_
  have K13 : Keep h0 T13.heap [] := K11.trans Kc13 (allS (Or.inr sz_b8) all0)
  have G13_1 : Fld Z T13.heap b8 "com/example/pathgauge/pathgauge/e1/MultiframeSearch" "frames" "I" (.int (2 : Int32)) := F13_1
  have G13_2 : Fld Z T13.heap b8 "com/example/pathgauge/pathgauge/e1/MultiframeSearch" "oddFrameBits" "I" (.int (own_o2 p2 (own_v0_11 p1 p4))) := F13_2
  have G13_3 : Fld Z T13.heap b8 "com/example/pathgauge/pathgauge/e1/MultiframeSearch" "oddFrames" "I" (.int (2 : Int32)) := F13_3
  show own_Go p.tables e below _ (T13.setTop (mkF m 121 #[.val (.int p1), .val (.int p2), .val (.int p3), .val (.int p4), .val (.int (own_v0_11 p1 p4)), .val (.int (p4 &&& (3 : Int32))), .val (.ref b8), .val (.int (1 : Int32))] [(.int (own_f4o (own_f3 p2 (own_v0_11 p1 p4) (1 : Int32)) (own_o1 p2 (own_v0_11 p1 p4)) (1 : Int32))), (.int (1 : Int32))]))
  rw [show (own_f4o (own_f3 p2 (own_v0_11 p1 p4) (1 : Int32)) (own_o1 p2 (own_v0_11 p1 p4)) (1 : Int32)) = (0 : Int32) from if_pos (by decide)]
  show own_Go p.tables e below _ (T13.setTop (mkF m 121 #[.val (.int p1), .val (.int p2), .val (.int p3), .val (.int p4), .val (.int (own_v0_11 p1 p4)), .val (.int (p4 &&& (3 : Int32))), .val (.ref b8), .val (.int (1 : Int32))] [(.int (0 : Int32)), (.int (1 : Int32))]))
  refine own_go (fun _ => XS.ifNo X13.here hx rfl (hb hby at_121) rfl ((if0 _ _).trans (teq (by decide : (0 : Int32) = (0 : Int32))).2)) ?_
  show own_Go p.tables e below _ (T13.setTop (mkF m 124 #[.val (.int p1), .val (.int p2), .val (.int p3), .val (.int p4), .val (.int (own_v0_11 p1 p4)), .val (.int (p4 &&& (3 : Int32))), .val (.ref b8), .val (.int (1 : Int32))] [(.int (1 : Int32))]))
  refine own_go (fun _ => XS.iconst X13.here hx rfl (hb hby at_124)) ?_
  show own_Go p.tables e below _ (T13.setTop (mkF m 125 #[.val (.int p1), .val (.int p2), .val (.int p3), .val (.int p4), .val (.int (own_v0_11 p1 p4)), .val (.int (p4 &&& (3 : Int32))), .val (.ref b8), .val (.int (1 : Int32))] [(.int (1 : Int32)), (.int (1 : Int32))]))
  refine own_go (fun _ => XS.goto X13.here hx rfl (pc0 := 125) (pc' := 129) rfl (hb hby at_125) (by decide) (by decide)) ?_
  show own_Go p.tables e below _ (T13.setTop (mkF m 129 #[.val (.int p1), .val (.int p2), .val (.int p3), .val (.int p4), .val (.int (own_v0_11 p1 p4)), .val (.int (p4 &&& (3 : Int32))), .val (.ref b8), .val (.int (1 : Int32))] [(.int (1 : Int32)), (.int (1 : Int32))]))
  refine own_go (fun _ => XS.iand X13.here hx rfl (hb hby at_129) rfl) ?_
  show own_Go p.tables e below _ (T13.setTop (mkF m 130 #[.val (.int p1), .val (.int p2), .val (.int p3), .val (.int p4), .val (.int (own_v0_11 p1 p4)), .val (.int (p4 &&& (3 : Int32))), .val (.ref b8), .val (.int (1 : Int32))] [(.int ((1 : Int32) &&& (1 : Int32)))]))
  rw [show ((1 : Int32) &&& (1 : Int32)) = (1 : Int32) from by decide]
  show own_Go p.tables e below _ (T13.setTop (mkF m 130 #[.val (.int p1), .val (.int p2), .val (.int p3), .val (.int p4), .val (.int (own_v0_11 p1 p4)), .val (.int (p4 &&& (3 : Int32))), .val (.ref b8), .val (.int (1 : Int32))] [(.int (1 : Int32))]))
  refine own_go (fun _ => XS.istore X13.here hx rfl (hb hby at_130) rfl (l' := #[.val (.int p1), .val (.int p2), .val (.int p3), .val (.int p4), .val (.int (own_v0_11 p1 p4)), .val (.int (p4 &&& (3 : Int32))), .val (.ref b8), .val (.int (1 : Int32))]) rfl) ?_
  show own_Go p.tables e below _ (T13.setTop (mkF m 132 #[.val (.int p1), .val (.int p2), .val (.int p3), .val (.int p4), .val (.int (own_v0_11 p1 p4)), .val (.int (p4 &&& (3 : Int32))), .val (.ref b8), .val (.int (1 : Int32))] []))
  refine own_go (fun _ => XS.iload X13.here hx rfl (hb hby at_132) rfl) ?_
  show own_Go p.tables e below _ (T13.setTop (mkF m 134 #[.val (.int p1), .val (.int p2), .val (.int p3), .val (.int p4), .val (.int (own_v0_11 p1 p4)), .val (.int (p4 &&& (3 : Int32))), .val (.ref b8), .val (.int (1 : Int32))] [(.int (1 : Int32))]))
  refine own_go (fun _ => XS.aload X13.here hx rfl (hb hby at_134) rfl rfl) ?_
  show own_Go p.tables e below _ (T13.setTop (mkF m 136 #[.val (.int p1), .val (.int p2), .val (.int p3), .val (.int p4), .val (.int (own_v0_11 p1 p4)), .val (.int (p4 &&& (3 : Int32))), .val (.ref b8), .val (.int (1 : Int32))] [(.ref b8), (.int (1 : Int32))]))
  refine own_go (fun _ => XS.iloadN X13.here hx rfl (hb hby at_136) rfl) ?_
  show own_Go p.tables e below _ (T13.setTop (mkF m 137 #[.val (.int p1), .val (.int p2), .val (.int p3), .val (.int p4), .val (.int (own_v0_11 p1 p4)), .val (.int (p4 &&& (3 : Int32))), .val (.ref b8), .val (.int (1 : Int32))] [(.int p2), (.ref b8), (.int (1 : Int32))]))
  refine own_go (fun _ => XS.iload X13.here hx rfl (hb hby at_137) rfl) ?_
  show own_Go p.tables e below _ (T13.setTop (mkF m 139 #[.val (.int p1), .val (.int p2), .val (.int p3), .val (.int p4), .val (.int (own_v0_11 p1 p4)), .val (.int (p4 &&& (3 : Int32))), .val (.ref b8), .val (.int (1 : Int32))] [(.int (own_v0_11 p1 p4)), (.int p2), (.ref b8), (.int (1 : Int32))]))
  refine own_go (fun _ => XS.iconst X13.here hx rfl (hb hby at_139)) ?_
  show own_Go p.tables e below _ (T13.setTop (mkF m 140 #[.val (.int p1), .val (.int p2), .val (.int p3), .val (.int p4), .val (.int (own_v0_11 p1 p4)), .val (.int (p4 &&& (3 : Int32))), .val (.ref b8), .val (.int (1 : Int32))] [(.int (2 : Int32)), (.int (own_v0_11 p1 p4)), (.int p2), (.ref b8), (.int (1 : Int32))]))
  obtain ⟨v14, T14, L14, X14, hQ14, st14⟩ := own_tidyS X13 (Jvm.LawKit.callS X13 hx (y := (⟨"com/example/pathgauge/pathgauge/e1/MultiframeSearchTakePinLaw", "ts", "(III)I"⟩ : MethodName)) hown (mvT hZ (hw _ (List.mem_of_getElem? (i := 9) rfl))) (mvT hZ (hw _ (List.mem_of_getElem? (i := 10) rfl))) (mvT hZ (hw _ (List.mem_of_getElem? (i := 11) rfl))) (mvT hZ (hw _ (List.mem_of_getElem? (i := 12) rfl))) (by decide) (backOf (W := 2) (rm3 l Z a0 hw [] p2 (own_v0_11 p1 p4) (2 : Int32) T13.heap n0 (Nat.le_trans (Nat.le_trans (Nat.le_trans Z0 E8.1) Kc11.1) Kc13.1) ) hZ (hw _ (List.mem_of_getElem? (i := 12) rfl)) (hw _ (List.mem_of_getElem? (i := 11) rfl)) (by decide) (by decide)) (g := (mkF m 140 #[.val (.int p1), .val (.int p2), .val (.int p3), .val (.int p4), .val (.int (own_v0_11 p1 p4)), .val (.int (p4 &&& (3 : Int32))), .val (.ref b8), .val (.int (1 : Int32))] [(.int (2 : Int32)), (.int (own_v0_11 p1 p4)), (.int p2), (.ref b8), (.int (1 : Int32))])) rfl (by rw [hml]; rfl) (argsL := [(.int p2), (.int (own_v0_11 p1 p4)), (.int (2 : Int32))]) (rest := [(.ref b8), (.int (1 : Int32))]) (lenOf pd_1 rfl) rfl (by show 2 * 0 + _ ≤ _; exact Nat.le_of_eq rfl) (hb hby at_140) (fun _ _ => ⟨rfl, rfl, (by decide : 1 + 0 ≤ _), (by decide : 3 + 0 ≤ _)⟩)) (c' := 1) (n' := 3) rfl rfl
  obtain ⟨rfl, N14q, e14⟩ := hQ14
  have N14 := Fr.app N13 N14q
  refine own_go st14 ?_
  show own_Go p.tables e below _ (T14.setTop (mkF m 143 #[.val (.int p1), .val (.int p2), .val (.int p3), .val (.int p4), .val (.int (own_v0_11 p1 p4)), .val (.int (p4 &&& (3 : Int32))), .val (.ref b8), .val (.int (1 : Int32))] [(.int (own_f3 p2 (own_v0_11 p1 p4) (2 : Int32))), (.ref b8), (.int (1 : Int32))]))
  refine own_go (fun _ => XS.iconst X14.here hx rfl (hb hby at_143)) ?_
  show own_Go p.tables e below _ (T14.setTop (mkF m 144 #[.val (.int p1), .val (.int p2), .val (.int p3), .val (.int p4), .val (.int (own_v0_11 p1 p4)), .val (.int (p4 &&& (3 : Int32))), .val (.ref b8), .val (.int (1 : Int32))] [(.int (0 : Int32)), (.int (own_f3 p2 (own_v0_11 p1 p4) (2 : Int32))), (.ref b8), (.int (1 : Int32))]))
  obtain ⟨cq15, kq15, q15a, q15b, q15c⟩ := isOf hZ e14 F13_0
  obtain ⟨v15, T15, L15, X15, hQ15, st15⟩ := own_tidyV X14 (X14.virtualBack hx (y := (⟨"com/example/pathgauge/pathgauge/e1/MultiframeSearch", "take", "(IZ)Z"⟩ : MethodName)) (z := (⟨"com/example/pathgauge/pathgauge/e1/MultiframeSearch", "take", "(IZ)Z"⟩ : MethodName)) hown (mvT hZ (hw _ (List.mem_of_getElem? (i := 14) rfl))) (mvT hZ (hw _ (List.mem_of_getElem? (i := 15) rfl))) (notFace_of_selects (args := #[]) (mvT hZ (hw _ (List.mem_of_getElem? (i := 17) rfl)))) (mvT hZ (hw _ (List.mem_of_getElem? (i := 17) rfl))) (mvT hZ (hw _ (List.mem_of_getElem? (i := 16) rfl))) (by decide) (backOf (W := 1) (rm4o l Z a0 hw [] b8 (own_f3 p2 (own_v0_11 p1 p4) (2 : Int32)) (2 : Int32) (own_o2 p2 (own_v0_11 p1 p4)) (2 : Int32) T13.heap n0 (Nat.le_trans (Nat.le_trans (Nat.le_trans Z0 E8.1) Kc11.1) Kc13.1) G13_1 F13_0 g_b8 G13_2 G13_3) hZ (hw _ (List.mem_of_getElem? (i := 18) rfl)) (hw _ (List.mem_of_getElem? (i := 2) rfl)) (by decide) (by decide)) q15a q15c (g := (mkF m 144 #[.val (.int p1), .val (.int p2), .val (.int p3), .val (.int p4), .val (.int (own_v0_11 p1 p4)), .val (.int (p4 &&& (3 : Int32))), .val (.ref b8), .val (.int (1 : Int32))] [(.int (0 : Int32)), (.int (own_f3 p2 (own_v0_11 p1 p4) (2 : Int32))), (.ref b8), (.int (1 : Int32))])) rfl (by rw [hml]; rfl) (Steps.refl _) (argsL := [(.int (own_f3 p2 (own_v0_11 p1 p4) (2 : Int32))), (.int (0 : Int32))]) (rest := [(.int (1 : Int32))]) (lenOf pd_2 rfl) rfl (by show 2 * 0 + _ ≤ _; exact Nat.le_of_eq rfl) (hb hby at_144) (fun _ _ => ⟨rfl, e14, (by decide : 1 + 0 ≤ _), (by decide : 3 + 0 ≤ _)⟩)) (c' := 1) (n' := 3) rfl rfl
  obtain ⟨rfl, N15q, Kc15, F15_0, F15_1, F15_2, F15_3⟩ := hQ15
  have N15 := Fr.app N14 N15q
  refine own_via st15 ?_
  have K15 : Keep h0 T15.heap [] := K13.trans Kc15 (allS (Or.inr sz_b8) all0)
  have G15_1 : Fld Z T15.heap b8 "com/example/pathgauge/pathgauge/e1/MultiframeSearch" "frames" "I" (.int (3 : Int32)) := F15_1
  have G15_2 : Fld Z T15.heap b8 "com/example/pathgauge/pathgauge/e1/MultiframeSearch" "oddFrameBits" "I" (.int (own_o3 p2 (own_v0_11 p1 p4))) := F15_2
  have G15_3 : Fld Z T15.heap b8 "com/example/pathgauge/pathgauge/e1/MultiframeSearch" "oddFrames" "I" (.int (3 : Int32)) := F15_3
  show own_Go p.tables e below _ (T15.setTop (mkF m 147 #[.val (.int p1), .val (.int p2), .val (.int p3), .val (.int p4), .val (.int (own_v0_11 p1 p4)), .val (.int (p4 &&& (3 : Int32))), .val (.ref b8), .val (.int (1 : Int32))] [(.int (own_f4o (own_f3 p2 (own_v0_11 p1 p4) (2 : Int32)) (own_o2 p2 (own_v0_11 p1 p4)) (2 : Int32))), (.int (1 : Int32))]))
  rw [show (own_f4o (own_f3 p2 (own_v0_11 p1 p4) (2 : Int32)) (own_o2 p2 (own_v0_11 p1 p4)) (2 : Int32)) = (0 : Int32) from if_pos (by decide)]
  show own_Go p.tables e below _ (T15.setTop (mkF m 147 #[.val (.int p1), .val (.int p2), .val (.int p3), .val (.int p4), .val (.int (own_v0_11 p1 p4)), .val (.int (p4 &&& (3 : Int32))), .val (.ref b8), .val (.int (1 : Int32))] [(.int (0 : Int32)), (.int (1 : Int32))]))
  refine own_go (fun _ => XS.ifNo X15.here hx rfl (hb hby at_147) rfl ((if0 _ _).trans (teq (by decide : (0 : Int32) = (0 : Int32))).2)) ?_
  show own_Go p.tables e below _ (T15.setTop (mkF m 150 #[.val (.int p1), .val (.int p2), .val (.int p3), .val (.int p4), .val (.int (own_v0_11 p1 p4)), .val (.int (p4 &&& (3 : Int32))), .val (.ref b8), .val (.int (1 : Int32))] [(.int (1 : Int32))]))
  refine own_go (fun _ => XS.iconst X15.here hx rfl (hb hby at_150)) ?_
  show own_Go p.tables e below _ (T15.setTop (mkF m 151 #[.val (.int p1), .val (.int p2), .val (.int p3), .val (.int p4), .val (.int (own_v0_11 p1 p4)), .val (.int (p4 &&& (3 : Int32))), .val (.ref b8), .val (.int (1 : Int32))] [(.int (1 : Int32)), (.int (1 : Int32))]))
  refine own_go (fun _ => XS.goto X15.here hx rfl (pc0 := 151) (pc' := 155) rfl (hb hby at_151) (by decide) (by decide)) ?_
  show own_Go p.tables e below _ (T15.setTop (mkF m 155 #[.val (.int p1), .val (.int p2), .val (.int p3), .val (.int p4), .val (.int (own_v0_11 p1 p4)), .val (.int (p4 &&& (3 : Int32))), .val (.ref b8), .val (.int (1 : Int32))] [(.int (1 : Int32)), (.int (1 : Int32))]))
  refine own_go (fun _ => XS.iand X15.here hx rfl (hb hby at_155) rfl) ?_
  show own_Go p.tables e below _ (T15.setTop (mkF m 156 #[.val (.int p1), .val (.int p2), .val (.int p3), .val (.int p4), .val (.int (own_v0_11 p1 p4)), .val (.int (p4 &&& (3 : Int32))), .val (.ref b8), .val (.int (1 : Int32))] [(.int ((1 : Int32) &&& (1 : Int32)))]))
  rw [show ((1 : Int32) &&& (1 : Int32)) = (1 : Int32) from by decide]
  show own_Go p.tables e below _ (T15.setTop (mkF m 156 #[.val (.int p1), .val (.int p2), .val (.int p3), .val (.int p4), .val (.int (own_v0_11 p1 p4)), .val (.int (p4 &&& (3 : Int32))), .val (.ref b8), .val (.int (1 : Int32))] [(.int (1 : Int32))]))
  refine own_go (fun _ => XS.istore X15.here hx rfl (hb hby at_156) rfl (l' := #[.val (.int p1), .val (.int p2), .val (.int p3), .val (.int p4), .val (.int (own_v0_11 p1 p4)), .val (.int (p4 &&& (3 : Int32))), .val (.ref b8), .val (.int (1 : Int32))]) rfl) ?_
  show own_Go p.tables e below _ (T15.setTop (mkF m 158 #[.val (.int p1), .val (.int p2), .val (.int p3), .val (.int p4), .val (.int (own_v0_11 p1 p4)), .val (.int (p4 &&& (3 : Int32))), .val (.ref b8), .val (.int (1 : Int32))] []))
  refine own_go (fun _ => XS.iload X15.here hx rfl (hb hby at_158) rfl) ?_
  show own_Go p.tables e below _ (T15.setTop (mkF m 160 #[.val (.int p1), .val (.int p2), .val (.int p3), .val (.int p4), .val (.int (own_v0_11 p1 p4)), .val (.int (p4 &&& (3 : Int32))), .val (.ref b8), .val (.int (1 : Int32))] [(.int (1 : Int32))]))
  refine own_go (fun _ => XS.aload X15.here hx rfl (hb hby at_160) rfl rfl) ?_
  show own_Go p.tables e below _ (T15.setTop (mkF m 162 #[.val (.int p1), .val (.int p2), .val (.int p3), .val (.int p4), .val (.int (own_v0_11 p1 p4)), .val (.int (p4 &&& (3 : Int32))), .val (.ref b8), .val (.int (1 : Int32))] [(.ref b8), (.int (1 : Int32))]))
  refine own_go (fun _ => XS.iloadN X15.here hx rfl (hb hby at_162) rfl) ?_
  show own_Go p.tables e below _ (T15.setTop (mkF m 163 #[.val (.int p1), .val (.int p2), .val (.int p3), .val (.int p4), .val (.int (own_v0_11 p1 p4)), .val (.int (p4 &&& (3 : Int32))), .val (.ref b8), .val (.int (1 : Int32))] [(.int p2), (.ref b8), (.int (1 : Int32))]))
  refine own_go (fun _ => XS.iload X15.here hx rfl (hb hby at_163) rfl) ?_
  show own_Go p.tables e below _ (T15.setTop (mkF m 165 #[.val (.int p1), .val (.int p2), .val (.int p3), .val (.int p4), .val (.int (own_v0_11 p1 p4)), .val (.int (p4 &&& (3 : Int32))), .val (.ref b8), .val (.int (1 : Int32))] [(.int (own_v0_11 p1 p4)), (.int p2), (.ref b8), (.int (1 : Int32))]))
  refine own_go (fun _ => XS.iconst X15.here hx rfl (hb hby at_165)) ?_
  show own_Go p.tables e below _ (T15.setTop (mkF m 166 #[.val (.int p1), .val (.int p2), .val (.int p3), .val (.int p4), .val (.int (own_v0_11 p1 p4)), .val (.int (p4 &&& (3 : Int32))), .val (.ref b8), .val (.int (1 : Int32))] [(.int (3 : Int32)), (.int (own_v0_11 p1 p4)), (.int p2), (.ref b8), (.int (1 : Int32))]))
  obtain ⟨v16, T16, L16, X16, hQ16, st16⟩ := own_tidyS X15 (Jvm.LawKit.callS X15 hx (y := (⟨"com/example/pathgauge/pathgauge/e1/MultiframeSearchTakePinLaw", "ts", "(III)I"⟩ : MethodName)) hown (mvT hZ (hw _ (List.mem_of_getElem? (i := 9) rfl))) (mvT hZ (hw _ (List.mem_of_getElem? (i := 10) rfl))) (mvT hZ (hw _ (List.mem_of_getElem? (i := 11) rfl))) (mvT hZ (hw _ (List.mem_of_getElem? (i := 12) rfl))) (by decide) (backOf (W := 2) (rm3 l Z a0 hw [] p2 (own_v0_11 p1 p4) (3 : Int32) T15.heap n0 (Nat.le_trans (Nat.le_trans (Nat.le_trans (Nat.le_trans Z0 E8.1) Kc11.1) Kc13.1) Kc15.1) ) hZ (hw _ (List.mem_of_getElem? (i := 12) rfl)) (hw _ (List.mem_of_getElem? (i := 11) rfl)) (by decide) (by decide)) (g := (mkF m 166 #[.val (.int p1), .val (.int p2), .val (.int p3), .val (.int p4), .val (.int (own_v0_11 p1 p4)), .val (.int (p4 &&& (3 : Int32))), .val (.ref b8), .val (.int (1 : Int32))] [(.int (3 : Int32)), (.int (own_v0_11 p1 p4)), (.int p2), (.ref b8), (.int (1 : Int32))])) rfl (by rw [hml]; rfl) (argsL := [(.int p2), (.int (own_v0_11 p1 p4)), (.int (3 : Int32))]) (rest := [(.ref b8), (.int (1 : Int32))]) (lenOf pd_1 rfl) rfl (by show 2 * 0 + _ ≤ _; exact Nat.le_of_eq rfl) (hb hby at_166) (fun _ _ => ⟨rfl, rfl, (by decide : 1 + 0 ≤ _), (by decide : 3 + 0 ≤ _)⟩)) (c' := 1) (n' := 3) rfl rfl
  obtain ⟨rfl, N16q, e16⟩ := hQ16
  have N16 := Fr.app N15 N16q
  refine own_go st16 ?_
  show own_Go p.tables e below _ (T16.setTop (mkF m 169 #[.val (.int p1), .val (.int p2), .val (.int p3), .val (.int p4), .val (.int (own_v0_11 p1 p4)), .val (.int (p4 &&& (3 : Int32))), .val (.ref b8), .val (.int (1 : Int32))] [(.int (own_f3 p2 (own_v0_11 p1 p4) (3 : Int32))), (.ref b8), (.int (1 : Int32))]))
  refine own_go (fun _ => XS.iconst X16.here hx rfl (hb hby at_169)) ?_
  show own_Go p.tables e below _ (T16.setTop (mkF m 170 #[.val (.int p1), .val (.int p2), .val (.int p3), .val (.int p4), .val (.int (own_v0_11 p1 p4)), .val (.int (p4 &&& (3 : Int32))), .val (.ref b8), .val (.int (1 : Int32))] [(.int (0 : Int32)), (.int (own_f3 p2 (own_v0_11 p1 p4) (3 : Int32))), (.ref b8), (.int (1 : Int32))]))
  obtain ⟨cq17, kq17, q17a, q17b, q17c⟩ := isOf hZ e16 F15_0
  obtain ⟨v17, T17, L17, X17, hQ17, st17⟩ := own_tidyV X16 (X16.virtualBack hx (y := (⟨"com/example/pathgauge/pathgauge/e1/MultiframeSearch", "take", "(IZ)Z"⟩ : MethodName)) (z := (⟨"com/example/pathgauge/pathgauge/e1/MultiframeSearch", "take", "(IZ)Z"⟩ : MethodName)) hown (mvT hZ (hw _ (List.mem_of_getElem? (i := 14) rfl))) (mvT hZ (hw _ (List.mem_of_getElem? (i := 15) rfl))) (notFace_of_selects (args := #[]) (mvT hZ (hw _ (List.mem_of_getElem? (i := 17) rfl)))) (mvT hZ (hw _ (List.mem_of_getElem? (i := 17) rfl))) (mvT hZ (hw _ (List.mem_of_getElem? (i := 16) rfl))) (by decide) (backOf (W := 1) (rm4o l Z a0 hw [] b8 (own_f3 p2 (own_v0_11 p1 p4) (3 : Int32)) (3 : Int32) (own_o3 p2 (own_v0_11 p1 p4)) (3 : Int32) T15.heap n0 (Nat.le_trans (Nat.le_trans (Nat.le_trans (Nat.le_trans Z0 E8.1) Kc11.1) Kc13.1) Kc15.1) G15_1 F15_0 g_b8 G15_2 G15_3) hZ (hw _ (List.mem_of_getElem? (i := 18) rfl)) (hw _ (List.mem_of_getElem? (i := 2) rfl)) (by decide) (by decide)) q17a q17c (g := (mkF m 170 #[.val (.int p1), .val (.int p2), .val (.int p3), .val (.int p4), .val (.int (own_v0_11 p1 p4)), .val (.int (p4 &&& (3 : Int32))), .val (.ref b8), .val (.int (1 : Int32))] [(.int (0 : Int32)), (.int (own_f3 p2 (own_v0_11 p1 p4) (3 : Int32))), (.ref b8), (.int (1 : Int32))])) rfl (by rw [hml]; rfl) (Steps.refl _) (argsL := [(.int (own_f3 p2 (own_v0_11 p1 p4) (3 : Int32))), (.int (0 : Int32))]) (rest := [(.int (1 : Int32))]) (lenOf pd_2 rfl) rfl (by show 2 * 0 + _ ≤ _; exact Nat.le_of_eq rfl) (hb hby at_170) (fun _ _ => ⟨rfl, e16, (by decide : 1 + 0 ≤ _), (by decide : 3 + 0 ≤ _)⟩)) (c' := 1) (n' := 3) rfl rfl
  obtain ⟨rfl, N17q, Kc17, F17_0, F17_1, F17_2, F17_3⟩ := hQ17
  have N17 := Fr.app N16 N17q
  refine own_via st17 ?_
  have K17 : Keep h0 T17.heap [] := K15.trans Kc17 (allS (Or.inr sz_b8) all0)
  have G17_1 : Fld Z T17.heap b8 "com/example/pathgauge/pathgauge/e1/MultiframeSearch" "frames" "I" (.int (4 : Int32)) := F17_1
  have G17_2 : Fld Z T17.heap b8 "com/example/pathgauge/pathgauge/e1/MultiframeSearch" "oddFrameBits" "I" (.int (own_o4 p2 (own_v0_11 p1 p4))) := F17_2
  have G17_3 : Fld Z T17.heap b8 "com/example/pathgauge/pathgauge/e1/MultiframeSearch" "oddFrames" "I" (.int (4 : Int32)) := F17_3
  show own_Go p.tables e below _ (T17.setTop (mkF m 173 #[.val (.int p1), .val (.int p2), .val (.int p3), .val (.int p4), .val (.int (own_v0_11 p1 p4)), .val (.int (p4 &&& (3 : Int32))), .val (.ref b8), .val (.int (1 : Int32))] [(.int (own_f4o (own_f3 p2 (own_v0_11 p1 p4) (3 : Int32)) (own_o3 p2 (own_v0_11 p1 p4)) (3 : Int32))), (.int (1 : Int32))]))
  rw [show (own_f4o (own_f3 p2 (own_v0_11 p1 p4) (3 : Int32)) (own_o3 p2 (own_v0_11 p1 p4)) (3 : Int32)) = (0 : Int32) from if_pos (by decide)]
  show own_Go p.tables e below _ (T17.setTop (mkF m 173 #[.val (.int p1), .val (.int p2), .val (.int p3), .val (.int p4), .val (.int (own_v0_11 p1 p4)), .val (.int (p4 &&& (3 : Int32))), .val (.ref b8), .val (.int (1 : Int32))] [(.int (0 : Int32)), (.int (1 : Int32))]))
  refine own_go (fun _ => XS.ifNo X17.here hx rfl (hb hby at_173) rfl ((if0 _ _).trans (teq (by decide : (0 : Int32) = (0 : Int32))).2)) ?_
  show own_Go p.tables e below _ (T17.setTop (mkF m 176 #[.val (.int p1), .val (.int p2), .val (.int p3), .val (.int p4), .val (.int (own_v0_11 p1 p4)), .val (.int (p4 &&& (3 : Int32))), .val (.ref b8), .val (.int (1 : Int32))] [(.int (1 : Int32))]))
  refine own_go (fun _ => XS.iconst X17.here hx rfl (hb hby at_176)) ?_
  show own_Go p.tables e below _ (T17.setTop (mkF m 177 #[.val (.int p1), .val (.int p2), .val (.int p3), .val (.int p4), .val (.int (own_v0_11 p1 p4)), .val (.int (p4 &&& (3 : Int32))), .val (.ref b8), .val (.int (1 : Int32))] [(.int (1 : Int32)), (.int (1 : Int32))]))
  refine own_go (fun _ => XS.goto X17.here hx rfl (pc0 := 177) (pc' := 181) rfl (hb hby at_177) (by decide) (by decide)) ?_
  show own_Go p.tables e below _ (T17.setTop (mkF m 181 #[.val (.int p1), .val (.int p2), .val (.int p3), .val (.int p4), .val (.int (own_v0_11 p1 p4)), .val (.int (p4 &&& (3 : Int32))), .val (.ref b8), .val (.int (1 : Int32))] [(.int (1 : Int32)), (.int (1 : Int32))]))
  refine own_go (fun _ => XS.iand X17.here hx rfl (hb hby at_181) rfl) ?_
  show own_Go p.tables e below _ (T17.setTop (mkF m 182 #[.val (.int p1), .val (.int p2), .val (.int p3), .val (.int p4), .val (.int (own_v0_11 p1 p4)), .val (.int (p4 &&& (3 : Int32))), .val (.ref b8), .val (.int (1 : Int32))] [(.int ((1 : Int32) &&& (1 : Int32)))]))
  rw [show ((1 : Int32) &&& (1 : Int32)) = (1 : Int32) from by decide]
  show own_Go p.tables e below _ (T17.setTop (mkF m 182 #[.val (.int p1), .val (.int p2), .val (.int p3), .val (.int p4), .val (.int (own_v0_11 p1 p4)), .val (.int (p4 &&& (3 : Int32))), .val (.ref b8), .val (.int (1 : Int32))] [(.int (1 : Int32))]))
  refine own_go (fun _ => XS.istore X17.here hx rfl (hb hby at_182) rfl (l' := #[.val (.int p1), .val (.int p2), .val (.int p3), .val (.int p4), .val (.int (own_v0_11 p1 p4)), .val (.int (p4 &&& (3 : Int32))), .val (.ref b8), .val (.int (1 : Int32))]) rfl) ?_
  show own_Go p.tables e below _ (T17.setTop (mkF m 184 #[.val (.int p1), .val (.int p2), .val (.int p3), .val (.int p4), .val (.int (own_v0_11 p1 p4)), .val (.int (p4 &&& (3 : Int32))), .val (.ref b8), .val (.int (1 : Int32))] []))
  refine own_go (fun _ => XS.iload X17.here hx rfl (hb hby at_184) rfl) ?_
  show own_Go p.tables e below _ (T17.setTop (mkF m 186 #[.val (.int p1), .val (.int p2), .val (.int p3), .val (.int p4), .val (.int (own_v0_11 p1 p4)), .val (.int (p4 &&& (3 : Int32))), .val (.ref b8), .val (.int (1 : Int32))] [(.int (1 : Int32))]))
  refine own_go (fun _ => XS.aload X17.here hx rfl (hb hby at_186) rfl rfl) ?_
  show own_Go p.tables e below _ (T17.setTop (mkF m 188 #[.val (.int p1), .val (.int p2), .val (.int p3), .val (.int p4), .val (.int (own_v0_11 p1 p4)), .val (.int (p4 &&& (3 : Int32))), .val (.ref b8), .val (.int (1 : Int32))] [(.ref b8), (.int (1 : Int32))]))
  refine own_go (fun _ => XS.iloadN X17.here hx rfl (hb hby at_188) rfl) ?_
  show own_Go p.tables e below _ (T17.setTop (mkF m 189 #[.val (.int p1), .val (.int p2), .val (.int p3), .val (.int p4), .val (.int (own_v0_11 p1 p4)), .val (.int (p4 &&& (3 : Int32))), .val (.ref b8), .val (.int (1 : Int32))] [(.int p2), (.ref b8), (.int (1 : Int32))]))
  refine own_go (fun _ => XS.iload X17.here hx rfl (hb hby at_189) rfl) ?_
  show own_Go p.tables e below _ (T17.setTop (mkF m 191 #[.val (.int p1), .val (.int p2), .val (.int p3), .val (.int p4), .val (.int (own_v0_11 p1 p4)), .val (.int (p4 &&& (3 : Int32))), .val (.ref b8), .val (.int (1 : Int32))] [(.int (own_v0_11 p1 p4)), (.int p2), (.ref b8), (.int (1 : Int32))]))
  refine own_go (fun _ => XS.iconst X17.here hx rfl (hb hby at_191)) ?_
  show own_Go p.tables e below _ (T17.setTop (mkF m 192 #[.val (.int p1), .val (.int p2), .val (.int p3), .val (.int p4), .val (.int (own_v0_11 p1 p4)), .val (.int (p4 &&& (3 : Int32))), .val (.ref b8), .val (.int (1 : Int32))] [(.int (4 : Int32)), (.int (own_v0_11 p1 p4)), (.int p2), (.ref b8), (.int (1 : Int32))]))
  obtain ⟨v18, T18, L18, X18, hQ18, st18⟩ := own_tidyS X17 (Jvm.LawKit.callS X17 hx (y := (⟨"com/example/pathgauge/pathgauge/e1/MultiframeSearchTakePinLaw", "ts", "(III)I"⟩ : MethodName)) hown (mvT hZ (hw _ (List.mem_of_getElem? (i := 9) rfl))) (mvT hZ (hw _ (List.mem_of_getElem? (i := 10) rfl))) (mvT hZ (hw _ (List.mem_of_getElem? (i := 11) rfl))) (mvT hZ (hw _ (List.mem_of_getElem? (i := 12) rfl))) (by decide) (backOf (W := 2) (rm3 l Z a0 hw [] p2 (own_v0_11 p1 p4) (4 : Int32) T17.heap n0 (Nat.le_trans (Nat.le_trans (Nat.le_trans (Nat.le_trans (Nat.le_trans Z0 E8.1) Kc11.1) Kc13.1) Kc15.1) Kc17.1) ) hZ (hw _ (List.mem_of_getElem? (i := 12) rfl)) (hw _ (List.mem_of_getElem? (i := 11) rfl)) (by decide) (by decide)) (g := (mkF m 192 #[.val (.int p1), .val (.int p2), .val (.int p3), .val (.int p4), .val (.int (own_v0_11 p1 p4)), .val (.int (p4 &&& (3 : Int32))), .val (.ref b8), .val (.int (1 : Int32))] [(.int (4 : Int32)), (.int (own_v0_11 p1 p4)), (.int p2), (.ref b8), (.int (1 : Int32))])) rfl (by rw [hml]; rfl) (argsL := [(.int p2), (.int (own_v0_11 p1 p4)), (.int (4 : Int32))]) (rest := [(.ref b8), (.int (1 : Int32))]) (lenOf pd_1 rfl) rfl (by show 2 * 0 + _ ≤ _; exact Nat.le_of_eq rfl) (hb hby at_192) (fun _ _ => ⟨rfl, rfl, (by decide : 1 + 0 ≤ _), (by decide : 3 + 0 ≤ _)⟩)) (c' := 1) (n' := 3) rfl rfl
  obtain ⟨rfl, N18q, e18⟩ := hQ18
  have N18 := Fr.app N17 N18q
  refine own_go st18 ?_
  show own_Go p.tables e below _ (T18.setTop (mkF m 195 #[.val (.int p1), .val (.int p2), .val (.int p3), .val (.int p4), .val (.int (own_v0_11 p1 p4)), .val (.int (p4 &&& (3 : Int32))), .val (.ref b8), .val (.int (1 : Int32))] [(.int (own_f3 p2 (own_v0_11 p1 p4) (4 : Int32))), (.ref b8), (.int (1 : Int32))]))
  refine own_go (fun _ => XS.iconst X18.here hx rfl (hb hby at_195)) ?_
  show own_Go p.tables e below _ (T18.setTop (mkF m 196 #[.val (.int p1), .val (.int p2), .val (.int p3), .val (.int p4), .val (.int (own_v0_11 p1 p4)), .val (.int (p4 &&& (3 : Int32))), .val (.ref b8), .val (.int (1 : Int32))] [(.int (0 : Int32)), (.int (own_f3 p2 (own_v0_11 p1 p4) (4 : Int32))), (.ref b8), (.int (1 : Int32))]))
  obtain ⟨cq19, kq19, q19a, q19b, q19c⟩ := isOf hZ e18 F17_0
  obtain ⟨v19, T19, L19, X19, hQ19, st19⟩ := own_tidyV X18 (X18.virtualBack hx (y := (⟨"com/example/pathgauge/pathgauge/e1/MultiframeSearch", "take", "(IZ)Z"⟩ : MethodName)) (z := (⟨"com/example/pathgauge/pathgauge/e1/MultiframeSearch", "take", "(IZ)Z"⟩ : MethodName)) hown (mvT hZ (hw _ (List.mem_of_getElem? (i := 14) rfl))) (mvT hZ (hw _ (List.mem_of_getElem? (i := 15) rfl))) (notFace_of_selects (args := #[]) (mvT hZ (hw _ (List.mem_of_getElem? (i := 17) rfl)))) (mvT hZ (hw _ (List.mem_of_getElem? (i := 17) rfl))) (mvT hZ (hw _ (List.mem_of_getElem? (i := 16) rfl))) (by decide) (backOf (W := 1) (rm4o l Z a0 hw [] b8 (own_f3 p2 (own_v0_11 p1 p4) (4 : Int32)) (4 : Int32) (own_o4 p2 (own_v0_11 p1 p4)) (4 : Int32) T17.heap n0 (Nat.le_trans (Nat.le_trans (Nat.le_trans (Nat.le_trans (Nat.le_trans Z0 E8.1) Kc11.1) Kc13.1) Kc15.1) Kc17.1) G17_1 F17_0 g_b8 G17_2 G17_3) hZ (hw _ (List.mem_of_getElem? (i := 18) rfl)) (hw _ (List.mem_of_getElem? (i := 2) rfl)) (by decide) (by decide)) q19a q19c (g := (mkF m 196 #[.val (.int p1), .val (.int p2), .val (.int p3), .val (.int p4), .val (.int (own_v0_11 p1 p4)), .val (.int (p4 &&& (3 : Int32))), .val (.ref b8), .val (.int (1 : Int32))] [(.int (0 : Int32)), (.int (own_f3 p2 (own_v0_11 p1 p4) (4 : Int32))), (.ref b8), (.int (1 : Int32))])) rfl (by rw [hml]; rfl) (Steps.refl _) (argsL := [(.int (own_f3 p2 (own_v0_11 p1 p4) (4 : Int32))), (.int (0 : Int32))]) (rest := [(.int (1 : Int32))]) (lenOf pd_2 rfl) rfl (by show 2 * 0 + _ ≤ _; exact Nat.le_of_eq rfl) (hb hby at_196) (fun _ _ => ⟨rfl, e18, (by decide : 1 + 0 ≤ _), (by decide : 3 + 0 ≤ _)⟩)) (c' := 1) (n' := 3) rfl rfl
  obtain ⟨rfl, N19q, Kc19, F19_0, F19_1, F19_2, F19_3⟩ := hQ19
  have N19 := Fr.app N18 N19q
  refine own_via st19 ?_
  have K19 : Keep h0 T19.heap [] := K17.trans Kc19 (allS (Or.inr sz_b8) all0)
  have G19_1 : Fld Z T19.heap b8 "com/example/pathgauge/pathgauge/e1/MultiframeSearch" "frames" "I" (.int (5 : Int32)) := F19_1
  have G19_2 : Fld Z T19.heap b8 "com/example/pathgauge/pathgauge/e1/MultiframeSearch" "oddFrameBits" "I" (.int (own_o5 p2 (own_v0_11 p1 p4))) := F19_2
  have G19_3 : Fld Z T19.heap b8 "com/example/pathgauge/pathgauge/e1/MultiframeSearch" "oddFrames" "I" (.int (5 : Int32)) := F19_3
  show own_Go p.tables e below _ (T19.setTop (mkF m 199 #[.val (.int p1), .val (.int p2), .val (.int p3), .val (.int p4), .val (.int (own_v0_11 p1 p4)), .val (.int (p4 &&& (3 : Int32))), .val (.ref b8), .val (.int (1 : Int32))] [(.int (own_f4o (own_f3 p2 (own_v0_11 p1 p4) (4 : Int32)) (own_o4 p2 (own_v0_11 p1 p4)) (4 : Int32))), (.int (1 : Int32))]))
  rw [show (own_f4o (own_f3 p2 (own_v0_11 p1 p4) (4 : Int32)) (own_o4 p2 (own_v0_11 p1 p4)) (4 : Int32)) = (0 : Int32) from if_pos (by decide)]
  show own_Go p.tables e below _ (T19.setTop (mkF m 199 #[.val (.int p1), .val (.int p2), .val (.int p3), .val (.int p4), .val (.int (own_v0_11 p1 p4)), .val (.int (p4 &&& (3 : Int32))), .val (.ref b8), .val (.int (1 : Int32))] [(.int (0 : Int32)), (.int (1 : Int32))]))
  refine own_go (fun _ => XS.ifNo X19.here hx rfl (hb hby at_199) rfl ((if0 _ _).trans (teq (by decide : (0 : Int32) = (0 : Int32))).2)) ?_
  show own_Go p.tables e below _ (T19.setTop (mkF m 202 #[.val (.int p1), .val (.int p2), .val (.int p3), .val (.int p4), .val (.int (own_v0_11 p1 p4)), .val (.int (p4 &&& (3 : Int32))), .val (.ref b8), .val (.int (1 : Int32))] [(.int (1 : Int32))]))
  refine own_go (fun _ => XS.iconst X19.here hx rfl (hb hby at_202)) ?_
  show own_Go p.tables e below _ (T19.setTop (mkF m 203 #[.val (.int p1), .val (.int p2), .val (.int p3), .val (.int p4), .val (.int (own_v0_11 p1 p4)), .val (.int (p4 &&& (3 : Int32))), .val (.ref b8), .val (.int (1 : Int32))] [(.int (1 : Int32)), (.int (1 : Int32))]))
  refine own_go (fun _ => XS.goto X19.here hx rfl (pc0 := 203) (pc' := 207) rfl (hb hby at_203) (by decide) (by decide)) ?_
  show own_Go p.tables e below _ (T19.setTop (mkF m 207 #[.val (.int p1), .val (.int p2), .val (.int p3), .val (.int p4), .val (.int (own_v0_11 p1 p4)), .val (.int (p4 &&& (3 : Int32))), .val (.ref b8), .val (.int (1 : Int32))] [(.int (1 : Int32)), (.int (1 : Int32))]))
  refine own_go (fun _ => XS.iand X19.here hx rfl (hb hby at_207) rfl) ?_
  show own_Go p.tables e below _ (T19.setTop (mkF m 208 #[.val (.int p1), .val (.int p2), .val (.int p3), .val (.int p4), .val (.int (own_v0_11 p1 p4)), .val (.int (p4 &&& (3 : Int32))), .val (.ref b8), .val (.int (1 : Int32))] [(.int ((1 : Int32) &&& (1 : Int32)))]))
  rw [show ((1 : Int32) &&& (1 : Int32)) = (1 : Int32) from by decide]
  show own_Go p.tables e below _ (T19.setTop (mkF m 208 #[.val (.int p1), .val (.int p2), .val (.int p3), .val (.int p4), .val (.int (own_v0_11 p1 p4)), .val (.int (p4 &&& (3 : Int32))), .val (.ref b8), .val (.int (1 : Int32))] [(.int (1 : Int32))]))
  refine own_go (fun _ => XS.istore X19.here hx rfl (hb hby at_208) rfl (l' := #[.val (.int p1), .val (.int p2), .val (.int p3), .val (.int p4), .val (.int (own_v0_11 p1 p4)), .val (.int (p4 &&& (3 : Int32))), .val (.ref b8), .val (.int (1 : Int32))]) rfl) ?_
  show own_Go p.tables e below _ (T19.setTop (mkF m 210 #[.val (.int p1), .val (.int p2), .val (.int p3), .val (.int p4), .val (.int (own_v0_11 p1 p4)), .val (.int (p4 &&& (3 : Int32))), .val (.ref b8), .val (.int (1 : Int32))] []))
  refine own_go (fun _ => XS.iload X19.here hx rfl (hb hby at_210) rfl) ?_
  show own_Go p.tables e below _ (T19.setTop (mkF m 212 #[.val (.int p1), .val (.int p2), .val (.int p3), .val (.int p4), .val (.int (own_v0_11 p1 p4)), .val (.int (p4 &&& (3 : Int32))), .val (.ref b8), .val (.int (1 : Int32))] [(.int (1 : Int32))]))
  refine own_go (fun _ => XS.aload X19.here hx rfl (hb hby at_212) rfl rfl) ?_
  show own_Go p.tables e below _ (T19.setTop (mkF m 214 #[.val (.int p1), .val (.int p2), .val (.int p3), .val (.int p4), .val (.int (own_v0_11 p1 p4)), .val (.int (p4 &&& (3 : Int32))), .val (.ref b8), .val (.int (1 : Int32))] [(.ref b8), (.int (1 : Int32))]))
  refine own_go (fun _ => XS.iloadN X19.here hx rfl (hb hby at_214) rfl) ?_
  show own_Go p.tables e below _ (T19.setTop (mkF m 215 #[.val (.int p1), .val (.int p2), .val (.int p3), .val (.int p4), .val (.int (own_v0_11 p1 p4)), .val (.int (p4 &&& (3 : Int32))), .val (.ref b8), .val (.int (1 : Int32))] [(.int p2), (.ref b8), (.int (1 : Int32))]))
  refine own_go (fun _ => XS.iload X19.here hx rfl (hb hby at_215) rfl) ?_
  show own_Go p.tables e below _ (T19.setTop (mkF m 217 #[.val (.int p1), .val (.int p2), .val (.int p3), .val (.int p4), .val (.int (own_v0_11 p1 p4)), .val (.int (p4 &&& (3 : Int32))), .val (.ref b8), .val (.int (1 : Int32))] [(.int (own_v0_11 p1 p4)), (.int p2), (.ref b8), (.int (1 : Int32))]))
  refine own_go (fun _ => XS.iconst X19.here hx rfl (hb hby at_217)) ?_
  show own_Go p.tables e below _ (T19.setTop (mkF m 218 #[.val (.int p1), .val (.int p2), .val (.int p3), .val (.int p4), .val (.int (own_v0_11 p1 p4)), .val (.int (p4 &&& (3 : Int32))), .val (.ref b8), .val (.int (1 : Int32))] [(.int (5 : Int32)), (.int (own_v0_11 p1 p4)), (.int p2), (.ref b8), (.int (1 : Int32))]))
  obtain ⟨v20, T20, L20, X20, hQ20, st20⟩ := own_tidyS X19 (Jvm.LawKit.callS X19 hx (y := (⟨"com/example/pathgauge/pathgauge/e1/MultiframeSearchTakePinLaw", "ts", "(III)I"⟩ : MethodName)) hown (mvT hZ (hw _ (List.mem_of_getElem? (i := 9) rfl))) (mvT hZ (hw _ (List.mem_of_getElem? (i := 10) rfl))) (mvT hZ (hw _ (List.mem_of_getElem? (i := 11) rfl))) (mvT hZ (hw _ (List.mem_of_getElem? (i := 12) rfl))) (by decide) (backOf (W := 2) (rm3 l Z a0 hw [] p2 (own_v0_11 p1 p4) (5 : Int32) T19.heap n0 (Nat.le_trans (Nat.le_trans (Nat.le_trans (Nat.le_trans (Nat.le_trans (Nat.le_trans Z0 E8.1) Kc11.1) Kc13.1) Kc15.1) Kc17.1) Kc19.1) ) hZ (hw _ (List.mem_of_getElem? (i := 12) rfl)) (hw _ (List.mem_of_getElem? (i := 11) rfl)) (by decide) (by decide)) (g := (mkF m 218 #[.val (.int p1), .val (.int p2), .val (.int p3), .val (.int p4), .val (.int (own_v0_11 p1 p4)), .val (.int (p4 &&& (3 : Int32))), .val (.ref b8), .val (.int (1 : Int32))] [(.int (5 : Int32)), (.int (own_v0_11 p1 p4)), (.int p2), (.ref b8), (.int (1 : Int32))])) rfl (by rw [hml]; rfl) (argsL := [(.int p2), (.int (own_v0_11 p1 p4)), (.int (5 : Int32))]) (rest := [(.ref b8), (.int (1 : Int32))]) (lenOf pd_1 rfl) rfl (by show 2 * 0 + _ ≤ _; exact Nat.le_of_eq rfl) (hb hby at_218) (fun _ _ => ⟨rfl, rfl, (by decide : 1 + 0 ≤ _), (by decide : 3 + 0 ≤ _)⟩)) (c' := 1) (n' := 3) rfl rfl
  obtain ⟨rfl, N20q, e20⟩ := hQ20
  have N20 := Fr.app N19 N20q
  refine own_go st20 ?_
  show own_Go p.tables e below _ (T20.setTop (mkF m 221 #[.val (.int p1), .val (.int p2), .val (.int p3), .val (.int p4), .val (.int (own_v0_11 p1 p4)), .val (.int (p4 &&& (3 : Int32))), .val (.ref b8), .val (.int (1 : Int32))] [(.int (own_f3 p2 (own_v0_11 p1 p4) (5 : Int32))), (.ref b8), (.int (1 : Int32))]))
  refine own_go (fun _ => XS.iconst X20.here hx rfl (hb hby at_221)) ?_
  show own_Go p.tables e below _ (T20.setTop (mkF m 222 #[.val (.int p1), .val (.int p2), .val (.int p3), .val (.int p4), .val (.int (own_v0_11 p1 p4)), .val (.int (p4 &&& (3 : Int32))), .val (.ref b8), .val (.int (1 : Int32))] [(.int (0 : Int32)), (.int (own_f3 p2 (own_v0_11 p1 p4) (5 : Int32))), (.ref b8), (.int (1 : Int32))]))
  obtain ⟨cq21, kq21, q21a, q21b, q21c⟩ := isOf hZ e20 F19_0
  obtain ⟨v21, T21, L21, X21, hQ21, st21⟩ := own_tidyV X20 (X20.virtualBack hx (y := (⟨"com/example/pathgauge/pathgauge/e1/MultiframeSearch", "take", "(IZ)Z"⟩ : MethodName)) (z := (⟨"com/example/pathgauge/pathgauge/e1/MultiframeSearch", "take", "(IZ)Z"⟩ : MethodName)) hown (mvT hZ (hw _ (List.mem_of_getElem? (i := 14) rfl))) (mvT hZ (hw _ (List.mem_of_getElem? (i := 15) rfl))) (notFace_of_selects (args := #[]) (mvT hZ (hw _ (List.mem_of_getElem? (i := 17) rfl)))) (mvT hZ (hw _ (List.mem_of_getElem? (i := 17) rfl))) (mvT hZ (hw _ (List.mem_of_getElem? (i := 16) rfl))) (by decide) (backOf (W := 1) (rm4o l Z a0 hw [] b8 (own_f3 p2 (own_v0_11 p1 p4) (5 : Int32)) (5 : Int32) (own_o5 p2 (own_v0_11 p1 p4)) (5 : Int32) T19.heap n0 (Nat.le_trans (Nat.le_trans (Nat.le_trans (Nat.le_trans (Nat.le_trans (Nat.le_trans Z0 E8.1) Kc11.1) Kc13.1) Kc15.1) Kc17.1) Kc19.1) G19_1 F19_0 g_b8 G19_2 G19_3) hZ (hw _ (List.mem_of_getElem? (i := 18) rfl)) (hw _ (List.mem_of_getElem? (i := 2) rfl)) (by decide) (by decide)) q21a q21c (g := (mkF m 222 #[.val (.int p1), .val (.int p2), .val (.int p3), .val (.int p4), .val (.int (own_v0_11 p1 p4)), .val (.int (p4 &&& (3 : Int32))), .val (.ref b8), .val (.int (1 : Int32))] [(.int (0 : Int32)), (.int (own_f3 p2 (own_v0_11 p1 p4) (5 : Int32))), (.ref b8), (.int (1 : Int32))])) rfl (by rw [hml]; rfl) (Steps.refl _) (argsL := [(.int (own_f3 p2 (own_v0_11 p1 p4) (5 : Int32))), (.int (0 : Int32))]) (rest := [(.int (1 : Int32))]) (lenOf pd_2 rfl) rfl (by show 2 * 0 + _ ≤ _; exact Nat.le_of_eq rfl) (hb hby at_222) (fun _ _ => ⟨rfl, e20, (by decide : 1 + 0 ≤ _), (by decide : 3 + 0 ≤ _)⟩)) (c' := 1) (n' := 3) rfl rfl
  obtain ⟨rfl, N21q, Kc21, F21_0, F21_1, F21_2, F21_3⟩ := hQ21
  have N21 := Fr.app N20 N21q
  refine own_via st21 ?_
  have K21 : Keep h0 T21.heap [] := K19.trans Kc21 (allS (Or.inr sz_b8) all0)
  have G21_1 : Fld Z T21.heap b8 "com/example/pathgauge/pathgauge/e1/MultiframeSearch" "frames" "I" (.int (6 : Int32)) := F21_1
  have G21_2 : Fld Z T21.heap b8 "com/example/pathgauge/pathgauge/e1/MultiframeSearch" "oddFrameBits" "I" (.int (own_o6 p2 (own_v0_11 p1 p4))) := F21_2
  have G21_3 : Fld Z T21.heap b8 "com/example/pathgauge/pathgauge/e1/MultiframeSearch" "oddFrames" "I" (.int (6 : Int32)) := F21_3
  show own_Go p.tables e below _ (T21.setTop (mkF m 225 #[.val (.int p1), .val (.int p2), .val (.int p3), .val (.int p4), .val (.int (own_v0_11 p1 p4)), .val (.int (p4 &&& (3 : Int32))), .val (.ref b8), .val (.int (1 : Int32))] [(.int (own_f4o (own_f3 p2 (own_v0_11 p1 p4) (5 : Int32)) (own_o5 p2 (own_v0_11 p1 p4)) (5 : Int32))), (.int (1 : Int32))]))
  rw [show (own_f4o (own_f3 p2 (own_v0_11 p1 p4) (5 : Int32)) (own_o5 p2 (own_v0_11 p1 p4)) (5 : Int32)) = (0 : Int32) from if_pos (by decide)]
  show own_Go p.tables e below _ (T21.setTop (mkF m 225 #[.val (.int p1), .val (.int p2), .val (.int p3), .val (.int p4), .val (.int (own_v0_11 p1 p4)), .val (.int (p4 &&& (3 : Int32))), .val (.ref b8), .val (.int (1 : Int32))] [(.int (0 : Int32)), (.int (1 : Int32))]))
  refine own_go (fun _ => XS.ifNo X21.here hx rfl (hb hby at_225) rfl ((if0 _ _).trans (teq (by decide : (0 : Int32) = (0 : Int32))).2)) ?_
  show own_Go p.tables e below _ (T21.setTop (mkF m 228 #[.val (.int p1), .val (.int p2), .val (.int p3), .val (.int p4), .val (.int (own_v0_11 p1 p4)), .val (.int (p4 &&& (3 : Int32))), .val (.ref b8), .val (.int (1 : Int32))] [(.int (1 : Int32))]))
  refine own_go (fun _ => XS.iconst X21.here hx rfl (hb hby at_228)) ?_
  show own_Go p.tables e below _ (T21.setTop (mkF m 229 #[.val (.int p1), .val (.int p2), .val (.int p3), .val (.int p4), .val (.int (own_v0_11 p1 p4)), .val (.int (p4 &&& (3 : Int32))), .val (.ref b8), .val (.int (1 : Int32))] [(.int (1 : Int32)), (.int (1 : Int32))]))
  refine own_go (fun _ => XS.goto X21.here hx rfl (pc0 := 229) (pc' := 233) rfl (hb hby at_229) (by decide) (by decide)) ?_
  show own_Go p.tables e below _ (T21.setTop (mkF m 233 #[.val (.int p1), .val (.int p2), .val (.int p3), .val (.int p4), .val (.int (own_v0_11 p1 p4)), .val (.int (p4 &&& (3 : Int32))), .val (.ref b8), .val (.int (1 : Int32))] [(.int (1 : Int32)), (.int (1 : Int32))]))
  refine own_go (fun _ => XS.iand X21.here hx rfl (hb hby at_233) rfl) ?_
  show own_Go p.tables e below _ (T21.setTop (mkF m 234 #[.val (.int p1), .val (.int p2), .val (.int p3), .val (.int p4), .val (.int (own_v0_11 p1 p4)), .val (.int (p4 &&& (3 : Int32))), .val (.ref b8), .val (.int (1 : Int32))] [(.int ((1 : Int32) &&& (1 : Int32)))]))
  rw [show ((1 : Int32) &&& (1 : Int32)) = (1 : Int32) from by decide]
  show own_Go p.tables e below _ (T21.setTop (mkF m 234 #[.val (.int p1), .val (.int p2), .val (.int p3), .val (.int p4), .val (.int (own_v0_11 p1 p4)), .val (.int (p4 &&& (3 : Int32))), .val (.ref b8), .val (.int (1 : Int32))] [(.int (1 : Int32))]))
  refine own_go (fun _ => XS.istore X21.here hx rfl (hb hby at_234) rfl (l' := #[.val (.int p1), .val (.int p2), .val (.int p3), .val (.int p4), .val (.int (own_v0_11 p1 p4)), .val (.int (p4 &&& (3 : Int32))), .val (.ref b8), .val (.int (1 : Int32))]) rfl) ?_
  show own_Go p.tables e below _ (T21.setTop (mkF m 236 #[.val (.int p1), .val (.int p2), .val (.int p3), .val (.int p4), .val (.int (own_v0_11 p1 p4)), .val (.int (p4 &&& (3 : Int32))), .val (.ref b8), .val (.int (1 : Int32))] []))
  refine own_go (fun _ => XS.iload X21.here hx rfl (hb hby at_236) rfl) ?_
  show own_Go p.tables e below _ (T21.setTop (mkF m 238 #[.val (.int p1), .val (.int p2), .val (.int p3), .val (.int p4), .val (.int (own_v0_11 p1 p4)), .val (.int (p4 &&& (3 : Int32))), .val (.ref b8), .val (.int (1 : Int32))] [(.int (1 : Int32))]))
  refine own_go (fun _ => XS.aload X21.here hx rfl (hb hby at_238) rfl rfl) ?_
  show own_Go p.tables e below _ (T21.setTop (mkF m 240 #[.val (.int p1), .val (.int p2), .val (.int p3), .val (.int p4), .val (.int (own_v0_11 p1 p4)), .val (.int (p4 &&& (3 : Int32))), .val (.ref b8), .val (.int (1 : Int32))] [(.ref b8), (.int (1 : Int32))]))
  refine own_go (fun _ => XS.iloadN X21.here hx rfl (hb hby at_240) rfl) ?_
  show own_Go p.tables e below _ (T21.setTop (mkF m 241 #[.val (.int p1), .val (.int p2), .val (.int p3), .val (.int p4), .val (.int (own_v0_11 p1 p4)), .val (.int (p4 &&& (3 : Int32))), .val (.ref b8), .val (.int (1 : Int32))] [(.int p2), (.ref b8), (.int (1 : Int32))]))
  refine own_go (fun _ => XS.iload X21.here hx rfl (hb hby at_241) rfl) ?_
  show own_Go p.tables e below _ (T21.setTop (mkF m 243 #[.val (.int p1), .val (.int p2), .val (.int p3), .val (.int p4), .val (.int (own_v0_11 p1 p4)), .val (.int (p4 &&& (3 : Int32))), .val (.ref b8), .val (.int (1 : Int32))] [(.int (own_v0_11 p1 p4)), (.int p2), (.ref b8), (.int (1 : Int32))]))
  refine own_go (fun _ => XS.bipush X21.here hx rfl (hb hby at_243)) ?_
  show own_Go p.tables e below _ (T21.setTop (mkF m 245 #[.val (.int p1), .val (.int p2), .val (.int p3), .val (.int p4), .val (.int (own_v0_11 p1 p4)), .val (.int (p4 &&& (3 : Int32))), .val (.ref b8), .val (.int (1 : Int32))] [(.int (6 : Int32)), (.int (own_v0_11 p1 p4)), (.int p2), (.ref b8), (.int (1 : Int32))]))
  obtain ⟨v22, T22, L22, X22, hQ22, st22⟩ := own_tidyS X21 (Jvm.LawKit.callS X21 hx (y := (⟨"com/example/pathgauge/pathgauge/e1/MultiframeSearchTakePinLaw", "ts", "(III)I"⟩ : MethodName)) hown (mvT hZ (hw _ (List.mem_of_getElem? (i := 9) rfl))) (mvT hZ (hw _ (List.mem_of_getElem? (i := 10) rfl))) (mvT hZ (hw _ (List.mem_of_getElem? (i := 11) rfl))) (mvT hZ (hw _ (List.mem_of_getElem? (i := 12) rfl))) (by decide) (backOf (W := 2) (rm3 l Z a0 hw [] p2 (own_v0_11 p1 p4) (6 : Int32) T21.heap n0 (Nat.le_trans (Nat.le_trans (Nat.le_trans (Nat.le_trans (Nat.le_trans (Nat.le_trans (Nat.le_trans Z0 E8.1) Kc11.1) Kc13.1) Kc15.1) Kc17.1) Kc19.1) Kc21.1) ) hZ (hw _ (List.mem_of_getElem? (i := 12) rfl)) (hw _ (List.mem_of_getElem? (i := 11) rfl)) (by decide) (by decide)) (g := (mkF m 245 #[.val (.int p1), .val (.int p2), .val (.int p3), .val (.int p4), .val (.int (own_v0_11 p1 p4)), .val (.int (p4 &&& (3 : Int32))), .val (.ref b8), .val (.int (1 : Int32))] [(.int (6 : Int32)), (.int (own_v0_11 p1 p4)), (.int p2), (.ref b8), (.int (1 : Int32))])) rfl (by rw [hml]; rfl) (argsL := [(.int p2), (.int (own_v0_11 p1 p4)), (.int (6 : Int32))]) (rest := [(.ref b8), (.int (1 : Int32))]) (lenOf pd_1 rfl) rfl (by show 2 * 0 + _ ≤ _; exact Nat.le_of_eq rfl) (hb hby at_245) (fun _ _ => ⟨rfl, rfl, (by decide : 1 + 0 ≤ _), (by decide : 3 + 0 ≤ _)⟩)) (c' := 1) (n' := 3) rfl rfl
  obtain ⟨rfl, N22q, e22⟩ := hQ22
  have N22 := Fr.app N21 N22q
  refine own_go st22 ?_
  show own_Go p.tables e below _ (T22.setTop (mkF m 248 #[.val (.int p1), .val (.int p2), .val (.int p3), .val (.int p4), .val (.int (own_v0_11 p1 p4)), .val (.int (p4 &&& (3 : Int32))), .val (.ref b8), .val (.int (1 : Int32))] [(.int (own_f3 p2 (own_v0_11 p1 p4) (6 : Int32))), (.ref b8), (.int (1 : Int32))]))
  refine own_go (fun _ => XS.iconst X22.here hx rfl (hb hby at_248)) ?_
  show own_Go p.tables e below _ (T22.setTop (mkF m 249 #[.val (.int p1), .val (.int p2), .val (.int p3), .val (.int p4), .val (.int (own_v0_11 p1 p4)), .val (.int (p4 &&& (3 : Int32))), .val (.ref b8), .val (.int (1 : Int32))] [(.int (0 : Int32)), (.int (own_f3 p2 (own_v0_11 p1 p4) (6 : Int32))), (.ref b8), (.int (1 : Int32))]))
  obtain ⟨cq23, kq23, q23a, q23b, q23c⟩ := isOf hZ e22 F21_0
  obtain ⟨v23, T23, L23, X23, hQ23, st23⟩ := own_tidyV X22 (X22.virtualBack hx (y := (⟨"com/example/pathgauge/pathgauge/e1/MultiframeSearch", "take", "(IZ)Z"⟩ : MethodName)) (z := (⟨"com/example/pathgauge/pathgauge/e1/MultiframeSearch", "take", "(IZ)Z"⟩ : MethodName)) hown (mvT hZ (hw _ (List.mem_of_getElem? (i := 14) rfl))) (mvT hZ (hw _ (List.mem_of_getElem? (i := 15) rfl))) (notFace_of_selects (args := #[]) (mvT hZ (hw _ (List.mem_of_getElem? (i := 17) rfl)))) (mvT hZ (hw _ (List.mem_of_getElem? (i := 17) rfl))) (mvT hZ (hw _ (List.mem_of_getElem? (i := 16) rfl))) (by decide) (backOf (W := 1) (rm4o l Z a0 hw [] b8 (own_f3 p2 (own_v0_11 p1 p4) (6 : Int32)) (6 : Int32) (own_o6 p2 (own_v0_11 p1 p4)) (6 : Int32) T21.heap n0 (Nat.le_trans (Nat.le_trans (Nat.le_trans (Nat.le_trans (Nat.le_trans (Nat.le_trans (Nat.le_trans Z0 E8.1) Kc11.1) Kc13.1) Kc15.1) Kc17.1) Kc19.1) Kc21.1) G21_1 F21_0 g_b8 G21_2 G21_3) hZ (hw _ (List.mem_of_getElem? (i := 18) rfl)) (hw _ (List.mem_of_getElem? (i := 2) rfl)) (by decide) (by decide)) q23a q23c (g := (mkF m 249 #[.val (.int p1), .val (.int p2), .val (.int p3), .val (.int p4), .val (.int (own_v0_11 p1 p4)), .val (.int (p4 &&& (3 : Int32))), .val (.ref b8), .val (.int (1 : Int32))] [(.int (0 : Int32)), (.int (own_f3 p2 (own_v0_11 p1 p4) (6 : Int32))), (.ref b8), (.int (1 : Int32))])) rfl (by rw [hml]; rfl) (Steps.refl _) (argsL := [(.int (own_f3 p2 (own_v0_11 p1 p4) (6 : Int32))), (.int (0 : Int32))]) (rest := [(.int (1 : Int32))]) (lenOf pd_2 rfl) rfl (by show 2 * 0 + _ ≤ _; exact Nat.le_of_eq rfl) (hb hby at_249) (fun _ _ => ⟨rfl, e22, (by decide : 1 + 0 ≤ _), (by decide : 3 + 0 ≤ _)⟩)) (c' := 1) (n' := 3) rfl rfl
  obtain ⟨rfl, N23q, Kc23, F23_0, F23_1, F23_2, F23_3⟩ := hQ23
  have N23 := Fr.app N22 N23q
  refine own_via st23 ?_
  have K23 : Keep h0 T23.heap [] := K21.trans Kc23 (allS (Or.inr sz_b8) all0)
  have G23_1 : Fld Z T23.heap b8 "com/example/pathgauge/pathgauge/e1/MultiframeSearch" "frames" "I" (.int (7 : Int32)) := F23_1
  have G23_2 : Fld Z T23.heap b8 "com/example/pathgauge/pathgauge/e1/MultiframeSearch" "oddFrameBits" "I" (.int (own_o7 p2 (own_v0_11 p1 p4))) := F23_2
  have G23_3 : Fld Z T23.heap b8 "com/example/pathgauge/pathgauge/e1/MultiframeSearch" "oddFrames" "I" (.int (7 : Int32)) := F23_3
  show own_Go p.tables e below _ (T23.setTop (mkF m 252 #[.val (.int p1), .val (.int p2), .val (.int p3), .val (.int p4), .val (.int (own_v0_11 p1 p4)), .val (.int (p4 &&& (3 : Int32))), .val (.ref b8), .val (.int (1 : Int32))] [(.int (own_f4o (own_f3 p2 (own_v0_11 p1 p4) (6 : Int32)) (own_o6 p2 (own_v0_11 p1 p4)) (6 : Int32))), (.int (1 : Int32))]))
  rw [show (own_f4o (own_f3 p2 (own_v0_11 p1 p4) (6 : Int32)) (own_o6 p2 (own_v0_11 p1 p4)) (6 : Int32)) = (0 : Int32) from if_pos (by decide)]
  show own_Go p.tables e below _ (T23.setTop (mkF m 252 #[.val (.int p1), .val (.int p2), .val (.int p3), .val (.int p4), .val (.int (own_v0_11 p1 p4)), .val (.int (p4 &&& (3 : Int32))), .val (.ref b8), .val (.int (1 : Int32))] [(.int (0 : Int32)), (.int (1 : Int32))]))
  refine own_go (fun _ => XS.ifNo X23.here hx rfl (hb hby at_252) rfl ((if0 _ _).trans (teq (by decide : (0 : Int32) = (0 : Int32))).2)) ?_
  show own_Go p.tables e below _ (T23.setTop (mkF m 255 #[.val (.int p1), .val (.int p2), .val (.int p3), .val (.int p4), .val (.int (own_v0_11 p1 p4)), .val (.int (p4 &&& (3 : Int32))), .val (.ref b8), .val (.int (1 : Int32))] [(.int (1 : Int32))]))
  refine own_go (fun _ => XS.iconst X23.here hx rfl (hb hby at_255)) ?_
  show own_Go p.tables e below _ (T23.setTop (mkF m 256 #[.val (.int p1), .val (.int p2), .val (.int p3), .val (.int p4), .val (.int (own_v0_11 p1 p4)), .val (.int (p4 &&& (3 : Int32))), .val (.ref b8), .val (.int (1 : Int32))] [(.int (1 : Int32)), (.int (1 : Int32))]))
  refine own_go (fun _ => XS.goto X23.here hx rfl (pc0 := 256) (pc' := 260) rfl (hb hby at_256) (by decide) (by decide)) ?_
  show own_Go p.tables e below _ (T23.setTop (mkF m 260 #[.val (.int p1), .val (.int p2), .val (.int p3), .val (.int p4), .val (.int (own_v0_11 p1 p4)), .val (.int (p4 &&& (3 : Int32))), .val (.ref b8), .val (.int (1 : Int32))] [(.int (1 : Int32)), (.int (1 : Int32))]))
  refine own_go (fun _ => XS.iand X23.here hx rfl (hb hby at_260) rfl) ?_
  show own_Go p.tables e below _ (T23.setTop (mkF m 261 #[.val (.int p1), .val (.int p2), .val (.int p3), .val (.int p4), .val (.int (own_v0_11 p1 p4)), .val (.int (p4 &&& (3 : Int32))), .val (.ref b8), .val (.int (1 : Int32))] [(.int ((1 : Int32) &&& (1 : Int32)))]))
  rw [show ((1 : Int32) &&& (1 : Int32)) = (1 : Int32) from by decide]
  show own_Go p.tables e below _ (T23.setTop (mkF m 261 #[.val (.int p1), .val (.int p2), .val (.int p3), .val (.int p4), .val (.int (own_v0_11 p1 p4)), .val (.int (p4 &&& (3 : Int32))), .val (.ref b8), .val (.int (1 : Int32))] [(.int (1 : Int32))]))
  refine own_go (fun _ => XS.istore X23.here hx rfl (hb hby at_261) rfl (l' := #[.val (.int p1), .val (.int p2), .val (.int p3), .val (.int p4), .val (.int (own_v0_11 p1 p4)), .val (.int (p4 &&& (3 : Int32))), .val (.ref b8), .val (.int (1 : Int32))]) rfl) ?_
  show own_Go p.tables e below _ (T23.setTop (mkF m 263 #[.val (.int p1), .val (.int p2), .val (.int p3), .val (.int p4), .val (.int (own_v0_11 p1 p4)), .val (.int (p4 &&& (3 : Int32))), .val (.ref b8), .val (.int (1 : Int32))] []))
  refine own_go (fun _ => XS.iload X23.here hx rfl (hb hby at_263) rfl) ?_
  show own_Go p.tables e below _ (T23.setTop (mkF m 265 #[.val (.int p1), .val (.int p2), .val (.int p3), .val (.int p4), .val (.int (own_v0_11 p1 p4)), .val (.int (p4 &&& (3 : Int32))), .val (.ref b8), .val (.int (1 : Int32))] [(.int (1 : Int32))]))
  refine own_go (fun _ => XS.aload X23.here hx rfl (hb hby at_265) rfl rfl) ?_
  show own_Go p.tables e below _ (T23.setTop (mkF m 267 #[.val (.int p1), .val (.int p2), .val (.int p3), .val (.int p4), .val (.int (own_v0_11 p1 p4)), .val (.int (p4 &&& (3 : Int32))), .val (.ref b8), .val (.int (1 : Int32))] [(.ref b8), (.int (1 : Int32))]))
  refine own_go (fun _ => XS.iloadN X23.here hx rfl (hb hby at_267) rfl) ?_
  show own_Go p.tables e below _ (T23.setTop (mkF m 268 #[.val (.int p1), .val (.int p2), .val (.int p3), .val (.int p4), .val (.int (own_v0_11 p1 p4)), .val (.int (p4 &&& (3 : Int32))), .val (.ref b8), .val (.int (1 : Int32))] [(.int p3), (.ref b8), (.int (1 : Int32))]))
  refine own_go (fun _ => XS.iconst X23.here hx rfl (hb hby at_268)) ?_
  show own_Go p.tables e below _ (T23.setTop (mkF m 269 #[.val (.int p1), .val (.int p2), .val (.int p3), .val (.int p4), .val (.int (own_v0_11 p1 p4)), .val (.int (p4 &&& (3 : Int32))), .val (.ref b8), .val (.int (1 : Int32))] [(.int (1 : Int32)), (.int p3), (.ref b8), (.int (1 : Int32))]))
  obtain ⟨cq24, kq24, q24a, q24b, q24c⟩ := isOf hZ rfl F23_0
  obtain ⟨v24, T24, L24, X24, hQ24, st24⟩ := own_tidyV X23 (X23.virtualBack hx (y := (⟨"com/example/pathgauge/pathgauge/e1/MultiframeSearch", "take", "(IZ)Z"⟩ : MethodName)) (z := (⟨"com/example/pathgauge/pathgauge/e1/MultiframeSearch", "take", "(IZ)Z"⟩ : MethodName)) hown (mvT hZ (hw _ (List.mem_of_getElem? (i := 14) rfl))) (mvT hZ (hw _ (List.mem_of_getElem? (i := 15) rfl))) (notFace_of_selects (args := #[]) (mvT hZ (hw _ (List.mem_of_getElem? (i := 17) rfl)))) (mvT hZ (hw _ (List.mem_of_getElem? (i := 17) rfl))) (mvT hZ (hw _ (List.mem_of_getElem? (i := 16) rfl))) (by decide) (backOf (W := 1) (rm4e l Z a0 hw [] b8 p3 (.int (own_o7 p2 (own_v0_11 p1 p4))) (.int (7 : Int32)) (7 : Int32) T23.heap n0 (Nat.le_trans (Nat.le_trans (Nat.le_trans (Nat.le_trans (Nat.le_trans (Nat.le_trans (Nat.le_trans (Nat.le_trans Z0 E8.1) Kc11.1) Kc13.1) Kc15.1) Kc17.1) Kc19.1) Kc21.1) Kc23.1) G23_2 G23_3 G23_1 F23_0 g_b8) hZ (hw _ (List.mem_of_getElem? (i := 18) rfl)) (hw _ (List.mem_of_getElem? (i := 2) rfl)) (by decide) (by decide)) q24a q24c (g := (mkF m 269 #[.val (.int p1), .val (.int p2), .val (.int p3), .val (.int p4), .val (.int (own_v0_11 p1 p4)), .val (.int (p4 &&& (3 : Int32))), .val (.ref b8), .val (.int (1 : Int32))] [(.int (1 : Int32)), (.int p3), (.ref b8), (.int (1 : Int32))])) rfl (by rw [hml]; rfl) (Steps.refl _) (argsL := [(.int p3), (.int (1 : Int32))]) (rest := [(.int (1 : Int32))]) (lenOf pd_2 rfl) rfl (by show 2 * 0 + _ ≤ _; exact Nat.le_of_eq rfl) (hb hby at_269) (fun _ _ => ⟨rfl, rfl, (by decide : 1 + 0 ≤ _), (by decide : 3 + 0 ≤ _)⟩)) (c' := 1) (n' := 3) rfl rfl
  obtain ⟨rfl, N24q, Kc24, F24_0, F24_1, F24_2, F24_3⟩ := hQ24
  have N24 := Fr.app N23 N24q
  refine own_via st24 ?_
  have K24 : Keep h0 T24.heap [] := K23.trans Kc24 (allS (Or.inr sz_b8) all0)
  have G24_1 : Fld Z T24.heap b8 "com/example/pathgauge/pathgauge/e1/MultiframeSearch" "frames" "I" (.int (8 : Int32)) := F24_1
  have G24_2 : Fld Z T24.heap b8 "com/example/pathgauge/pathgauge/e1/MultiframeSearch" "oddFrameBits" "I" (.int (own_o7 p2 (own_v0_11 p1 p4))) := F24_2
  have G24_3 : Fld Z T24.heap b8 "com/example/pathgauge/pathgauge/e1/MultiframeSearch" "oddFrames" "I" (.int (7 : Int32)) := F24_3
  show own_Go p.tables e below _ (T24.setTop (mkF m 272 #[.val (.int p1), .val (.int p2), .val (.int p3), .val (.int p4), .val (.int (own_v0_11 p1 p4)), .val (.int (p4 &&& (3 : Int32))), .val (.ref b8), .val (.int (1 : Int32))] [(.int (0 : Int32)), (.int (1 : Int32))]))
  refine own_go (fun _ => XS.ifNo X24.here hx rfl (hb hby at_272) rfl ((if0 _ _).trans (teq (by decide : (0 : Int32) = (0 : Int32))).2)) ?_
  show own_Go p.tables e below _ (T24.setTop (mkF m 275 #[.val (.int p1), .val (.int p2), .val (.int p3), .val (.int p4), .val (.int (own_v0_11 p1 p4)), .val (.int (p4 &&& (3 : Int32))), .val (.ref b8), .val (.int (1 : Int32))] [(.int (1 : Int32))]))
  refine own_go (fun _ => XS.iconst X24.here hx rfl (hb hby at_275)) ?_
  show own_Go p.tables e below _ (T24.setTop (mkF m 276 #[.val (.int p1), .val (.int p2), .val (.int p3), .val (.int p4), .val (.int (own_v0_11 p1 p4)), .val (.int (p4 &&& (3 : Int32))), .val (.ref b8), .val (.int (1 : Int32))] [(.int (1 : Int32)), (.int (1 : Int32))]))
  refine own_go (fun _ => XS.goto X24.here hx rfl (pc0 := 276) (pc' := 280) rfl (hb hby at_276) (by decide) (by decide)) ?_
  show own_Go p.tables e below _ (T24.setTop (mkF m 280 #[.val (.int p1), .val (.int p2), .val (.int p3), .val (.int p4), .val (.int (own_v0_11 p1 p4)), .val (.int (p4 &&& (3 : Int32))), .val (.ref b8), .val (.int (1 : Int32))] [(.int (1 : Int32)), (.int (1 : Int32))]))
  refine own_go (fun _ => XS.iand X24.here hx rfl (hb hby at_280) rfl) ?_
  show own_Go p.tables e below _ (T24.setTop (mkF m 281 #[.val (.int p1), .val (.int p2), .val (.int p3), .val (.int p4), .val (.int (own_v0_11 p1 p4)), .val (.int (p4 &&& (3 : Int32))), .val (.ref b8), .val (.int (1 : Int32))] [(.int ((1 : Int32) &&& (1 : Int32)))]))
  rw [show ((1 : Int32) &&& (1 : Int32)) = (1 : Int32) from by decide]
  show own_Go p.tables e below _ (T24.setTop (mkF m 281 #[.val (.int p1), .val (.int p2), .val (.int p3), .val (.int p4), .val (.int (own_v0_11 p1 p4)), .val (.int (p4 &&& (3 : Int32))), .val (.ref b8), .val (.int (1 : Int32))] [(.int (1 : Int32))]))
  refine own_go (fun _ => XS.istore X24.here hx rfl (hb hby at_281) rfl (l' := #[.val (.int p1), .val (.int p2), .val (.int p3), .val (.int p4), .val (.int (own_v0_11 p1 p4)), .val (.int (p4 &&& (3 : Int32))), .val (.ref b8), .val (.int (1 : Int32))]) rfl) ?_
  show own_Go p.tables e below _ (T24.setTop (mkF m 283 #[.val (.int p1), .val (.int p2), .val (.int p3), .val (.int p4), .val (.int (own_v0_11 p1 p4)), .val (.int (p4 &&& (3 : Int32))), .val (.ref b8), .val (.int (1 : Int32))] []))
  refine own_go (fun _ => XS.iload X24.here hx rfl (hb hby at_283) rfl) ?_
  show own_Go p.tables e below _ (T24.setTop (mkF m 285 #[.val (.int p1), .val (.int p2), .val (.int p3), .val (.int p4), .val (.int (own_v0_11 p1 p4)), .val (.int (p4 &&& (3 : Int32))), .val (.ref b8), .val (.int (1 : Int32))] [(.int (1 : Int32))]))
  refine own_go (fun _ => XS.aload X24.here hx rfl (hb hby at_285) rfl rfl) ?_
  show own_Go p.tables e below _ (T24.setTop (mkF m 287 #[.val (.int p1), .val (.int p2), .val (.int p3), .val (.int p4), .val (.int (own_v0_11 p1 p4)), .val (.int (p4 &&& (3 : Int32))), .val (.ref b8), .val (.int (1 : Int32))] [(.ref b8), (.int (1 : Int32))]))
  refine own_go (fun _ => XS.iloadN X24.here hx rfl (hb hby at_287) rfl) ?_
  show own_Go p.tables e below _ (T24.setTop (mkF m 288 #[.val (.int p1), .val (.int p2), .val (.int p3), .val (.int p4), .val (.int (own_v0_11 p1 p4)), .val (.int (p4 &&& (3 : Int32))), .val (.ref b8), .val (.int (1 : Int32))] [(.int p2), (.ref b8), (.int (1 : Int32))]))
  refine own_go (fun _ => XS.iload X24.here hx rfl (hb hby at_288) rfl) ?_
  show own_Go p.tables e below _ (T24.setTop (mkF m 290 #[.val (.int p1), .val (.int p2), .val (.int p3), .val (.int p4), .val (.int (own_v0_11 p1 p4)), .val (.int (p4 &&& (3 : Int32))), .val (.ref b8), .val (.int (1 : Int32))] [(.int (own_v0_11 p1 p4)), (.int p2), (.ref b8), (.int (1 : Int32))]))
  refine own_go (fun _ => XS.bipush X24.here hx rfl (hb hby at_290)) ?_
  show own_Go p.tables e below _ (T24.setTop (mkF m 292 #[.val (.int p1), .val (.int p2), .val (.int p3), .val (.int p4), .val (.int (own_v0_11 p1 p4)), .val (.int (p4 &&& (3 : Int32))), .val (.ref b8), .val (.int (1 : Int32))] [(.int (7 : Int32)), (.int (own_v0_11 p1 p4)), (.int p2), (.ref b8), (.int (1 : Int32))]))
  obtain ⟨v25, T25, L25, X25, hQ25, st25⟩ := own_tidyS X24 (Jvm.LawKit.callS X24 hx (y := (⟨"com/example/pathgauge/pathgauge/e1/MultiframeSearchTakePinLaw", "ts", "(III)I"⟩ : MethodName)) hown (mvT hZ (hw _ (List.mem_of_getElem? (i := 9) rfl))) (mvT hZ (hw _ (List.mem_of_getElem? (i := 10) rfl))) (mvT hZ (hw _ (List.mem_of_getElem? (i := 11) rfl))) (mvT hZ (hw _ (List.mem_of_getElem? (i := 12) rfl))) (by decide) (backOf (W := 2) (rm3 l Z a0 hw [] p2 (own_v0_11 p1 p4) (7 : Int32) T24.heap n0 (Nat.le_trans (Nat.le_trans (Nat.le_trans (Nat.le_trans (Nat.le_trans (Nat.le_trans (Nat.le_trans (Nat.le_trans (Nat.le_trans Z0 E8.1) Kc11.1) Kc13.1) Kc15.1) Kc17.1) Kc19.1) Kc21.1) Kc23.1) Kc24.1) ) hZ (hw _ (List.mem_of_getElem? (i := 12) rfl)) (hw _ (List.mem_of_getElem? (i := 11) rfl)) (by decide) (by decide)) (g := (mkF m 292 #[.val (.int p1), .val (.int p2), .val (.int p3), .val (.int p4), .val (.int (own_v0_11 p1 p4)), .val (.int (p4 &&& (3 : Int32))), .val (.ref b8), .val (.int (1 : Int32))] [(.int (7 : Int32)), (.int (own_v0_11 p1 p4)), (.int p2), (.ref b8), (.int (1 : Int32))])) rfl (by rw [hml]; rfl) (argsL := [(.int p2), (.int (own_v0_11 p1 p4)), (.int (7 : Int32))]) (rest := [(.ref b8), (.int (1 : Int32))]) (lenOf pd_1 rfl) rfl (by show 2 * 0 + _ ≤ _; exact Nat.le_of_eq rfl) (hb hby at_292) (fun _ _ => ⟨rfl, rfl, (by decide : 1 + 0 ≤ _), (by decide : 3 + 0 ≤ _)⟩)) (c' := 1) (n' := 3) rfl rfl
  obtain ⟨rfl, N25q, e25⟩ := hQ25
  have N25 := Fr.app N24 N25q
  refine own_go st25 ?_
  show own_Go p.tables e below _ (T25.setTop (mkF m 295 #[.val (.int p1), .val (.int p2), .val (.int p3), .val (.int p4), .val (.int (own_v0_11 p1 p4)), .val (.int (p4 &&& (3 : Int32))), .val (.ref b8), .val (.int (1 : Int32))] [(.int (own_f3 p2 (own_v0_11 p1 p4) (7 : Int32))), (.ref b8), (.int (1 : Int32))]))
  refine own_go (fun _ => XS.iconst X25.here hx rfl (hb hby at_295)) ?_
  show own_Go p.tables e below _ (T25.setTop (mkF m 296 #[.val (.int p1), .val (.int p2), .val (.int p3), .val (.int p4), .val (.int (own_v0_11 p1 p4)), .val (.int (p4 &&& (3 : Int32))), .val (.ref b8), .val (.int (1 : Int32))] [(.int (0 : Int32)), (.int (own_f3 p2 (own_v0_11 p1 p4) (7 : Int32))), (.ref b8), (.int (1 : Int32))]))
  obtain ⟨cq26, kq26, q26a, q26b, q26c⟩ := isOf hZ e25 F24_0
  obtain ⟨v26, T26, L26, X26, hQ26, st26⟩ := own_tidyV X25 (X25.virtualBack hx (y := (⟨"com/example/pathgauge/pathgauge/e1/MultiframeSearch", "take", "(IZ)Z"⟩ : MethodName)) (z := (⟨"com/example/pathgauge/pathgauge/e1/MultiframeSearch", "take", "(IZ)Z"⟩ : MethodName)) hown (mvT hZ (hw _ (List.mem_of_getElem? (i := 14) rfl))) (mvT hZ (hw _ (List.mem_of_getElem? (i := 15) rfl))) (notFace_of_selects (args := #[]) (mvT hZ (hw _ (List.mem_of_getElem? (i := 17) rfl)))) (mvT hZ (hw _ (List.mem_of_getElem? (i := 17) rfl))) (mvT hZ (hw _ (List.mem_of_getElem? (i := 16) rfl))) (by decide) (backOf (W := 1) (rm4o l Z a0 hw [] b8 (own_f3 p2 (own_v0_11 p1 p4) (7 : Int32)) (8 : Int32) (own_o7 p2 (own_v0_11 p1 p4)) (7 : Int32) T24.heap n0 (Nat.le_trans (Nat.le_trans (Nat.le_trans (Nat.le_trans (Nat.le_trans (Nat.le_trans (Nat.le_trans (Nat.le_trans (Nat.le_trans Z0 E8.1) Kc11.1) Kc13.1) Kc15.1) Kc17.1) Kc19.1) Kc21.1) Kc23.1) Kc24.1) G24_1 F24_0 g_b8 G24_2 G24_3) hZ (hw _ (List.mem_of_getElem? (i := 18) rfl)) (hw _ (List.mem_of_getElem? (i := 2) rfl)) (by decide) (by decide)) q26a q26c (g := (mkF m 296 #[.val (.int p1), .val (.int p2), .val (.int p3), .val (.int p4), .val (.int (own_v0_11 p1 p4)), .val (.int (p4 &&& (3 : Int32))), .val (.ref b8), .val (.int (1 : Int32))] [(.int (0 : Int32)), (.int (own_f3 p2 (own_v0_11 p1 p4) (7 : Int32))), (.ref b8), (.int (1 : Int32))])) rfl (by rw [hml]; rfl) (Steps.refl _) (argsL := [(.int (own_f3 p2 (own_v0_11 p1 p4) (7 : Int32))), (.int (0 : Int32))]) (rest := [(.int (1 : Int32))]) (lenOf pd_2 rfl) rfl (by show 2 * 0 + _ ≤ _; exact Nat.le_of_eq rfl) (hb hby at_296) (fun _ _ => ⟨rfl, e25, (by decide : 1 + 0 ≤ _), (by decide : 3 + 0 ≤ _)⟩)) (c' := 1) (n' := 3) rfl rfl
  obtain ⟨rfl, N26q, Kc26, F26_0, F26_1, F26_2, F26_3⟩ := hQ26
  have N26 := Fr.app N25 N26q
  refine own_via st26 ?_
  have K26 : Keep h0 T26.heap [] := K24.trans Kc26 (allS (Or.inr sz_b8) all0)
  have G26_1 : Fld Z T26.heap b8 "com/example/pathgauge/pathgauge/e1/MultiframeSearch" "frames" "I" (.int (9 : Int32)) := F26_1
  have G26_2 : Fld Z T26.heap b8 "com/example/pathgauge/pathgauge/e1/MultiframeSearch" "oddFrameBits" "I" (.int (own_o8 p2 (own_v0_11 p1 p4))) := F26_2
  have G26_3 : Fld Z T26.heap b8 "com/example/pathgauge/pathgauge/e1/MultiframeSearch" "oddFrames" "I" (.int (8 : Int32)) := F26_3
  show own_Go p.tables e below _ (T26.setTop (mkF m 299 #[.val (.int p1), .val (.int p2), .val (.int p3), .val (.int p4), .val (.int (own_v0_11 p1 p4)), .val (.int (p4 &&& (3 : Int32))), .val (.ref b8), .val (.int (1 : Int32))] [(.int (own_f4o (own_f3 p2 (own_v0_11 p1 p4) (7 : Int32)) (own_o7 p2 (own_v0_11 p1 p4)) (7 : Int32))), (.int (1 : Int32))]))
  rw [show (own_f4o (own_f3 p2 (own_v0_11 p1 p4) (7 : Int32)) (own_o7 p2 (own_v0_11 p1 p4)) (7 : Int32)) = (0 : Int32) from if_pos (by decide)]
  show own_Go p.tables e below _ (T26.setTop (mkF m 299 #[.val (.int p1), .val (.int p2), .val (.int p3), .val (.int p4), .val (.int (own_v0_11 p1 p4)), .val (.int (p4 &&& (3 : Int32))), .val (.ref b8), .val (.int (1 : Int32))] [(.int (0 : Int32)), (.int (1 : Int32))]))
  refine own_go (fun _ => XS.ifNo X26.here hx rfl (hb hby at_299) rfl ((if0 _ _).trans (teq (by decide : (0 : Int32) = (0 : Int32))).2)) ?_
  show own_Go p.tables e below _ (T26.setTop (mkF m 302 #[.val (.int p1), .val (.int p2), .val (.int p3), .val (.int p4), .val (.int (own_v0_11 p1 p4)), .val (.int (p4 &&& (3 : Int32))), .val (.ref b8), .val (.int (1 : Int32))] [(.int (1 : Int32))]))
  refine own_go (fun _ => XS.iconst X26.here hx rfl (hb hby at_302)) ?_
  show own_Go p.tables e below _ (T26.setTop (mkF m 303 #[.val (.int p1), .val (.int p2), .val (.int p3), .val (.int p4), .val (.int (own_v0_11 p1 p4)), .val (.int (p4 &&& (3 : Int32))), .val (.ref b8), .val (.int (1 : Int32))] [(.int (1 : Int32)), (.int (1 : Int32))]))
  refine own_go (fun _ => XS.goto X26.here hx rfl (pc0 := 303) (pc' := 307) rfl (hb hby at_303) (by decide) (by decide)) ?_
  show own_Go p.tables e below _ (T26.setTop (mkF m 307 #[.val (.int p1), .val (.int p2), .val (.int p3), .val (.int p4), .val (.int (own_v0_11 p1 p4)), .val (.int (p4 &&& (3 : Int32))), .val (.ref b8), .val (.int (1 : Int32))] [(.int (1 : Int32)), (.int (1 : Int32))]))
  refine own_go (fun _ => XS.iand X26.here hx rfl (hb hby at_307) rfl) ?_
  show own_Go p.tables e below _ (T26.setTop (mkF m 308 #[.val (.int p1), .val (.int p2), .val (.int p3), .val (.int p4), .val (.int (own_v0_11 p1 p4)), .val (.int (p4 &&& (3 : Int32))), .val (.ref b8), .val (.int (1 : Int32))] [(.int ((1 : Int32) &&& (1 : Int32)))]))
  rw [show ((1 : Int32) &&& (1 : Int32)) = (1 : Int32) from by decide]
  show own_Go p.tables e below _ (T26.setTop (mkF m 308 #[.val (.int p1), .val (.int p2), .val (.int p3), .val (.int p4), .val (.int (own_v0_11 p1 p4)), .val (.int (p4 &&& (3 : Int32))), .val (.ref b8), .val (.int (1 : Int32))] [(.int (1 : Int32))]))
  refine own_go (fun _ => XS.istore X26.here hx rfl (hb hby at_308) rfl (l' := #[.val (.int p1), .val (.int p2), .val (.int p3), .val (.int p4), .val (.int (own_v0_11 p1 p4)), .val (.int (p4 &&& (3 : Int32))), .val (.ref b8), .val (.int (1 : Int32))]) rfl) ?_
  show own_Go p.tables e below _ (T26.setTop (mkF m 310 #[.val (.int p1), .val (.int p2), .val (.int p3), .val (.int p4), .val (.int (own_v0_11 p1 p4)), .val (.int (p4 &&& (3 : Int32))), .val (.ref b8), .val (.int (1 : Int32))] []))
  refine own_go (fun _ => XS.iload X26.here hx rfl (hb hby at_310) rfl) ?_
  show own_Go p.tables e below _ (T26.setTop (mkF m 312 #[.val (.int p1), .val (.int p2), .val (.int p3), .val (.int p4), .val (.int (own_v0_11 p1 p4)), .val (.int (p4 &&& (3 : Int32))), .val (.ref b8), .val (.int (1 : Int32))] [(.int (1 : Int32))]))
  refine own_go (fun _ => XS.aload X26.here hx rfl (hb hby at_312) rfl rfl) ?_
  show own_Go p.tables e below _ (T26.setTop (mkF m 314 #[.val (.int p1), .val (.int p2), .val (.int p3), .val (.int p4), .val (.int (own_v0_11 p1 p4)), .val (.int (p4 &&& (3 : Int32))), .val (.ref b8), .val (.int (1 : Int32))] [(.ref b8), (.int (1 : Int32))]))
  refine own_go (fun _ => XS.iloadN X26.here hx rfl (hb hby at_314) rfl) ?_
  show own_Go p.tables e below _ (T26.setTop (mkF m 315 #[.val (.int p1), .val (.int p2), .val (.int p3), .val (.int p4), .val (.int (own_v0_11 p1 p4)), .val (.int (p4 &&& (3 : Int32))), .val (.ref b8), .val (.int (1 : Int32))] [(.int p2), (.ref b8), (.int (1 : Int32))]))
  refine own_go (fun _ => XS.iload X26.here hx rfl (hb hby at_315) rfl) ?_
  show own_Go p.tables e below _ (T26.setTop (mkF m 317 #[.val (.int p1), .val (.int p2), .val (.int p3), .val (.int p4), .val (.int (own_v0_11 p1 p4)), .val (.int (p4 &&& (3 : Int32))), .val (.ref b8), .val (.int (1 : Int32))] [(.int (own_v0_11 p1 p4)), (.int p2), (.ref b8), (.int (1 : Int32))]))
  refine own_go (fun _ => XS.bipush X26.here hx rfl (hb hby at_317)) ?_
  show own_Go p.tables e below _ (T26.setTop (mkF m 319 #[.val (.int p1), .val (.int p2), .val (.int p3), .val (.int p4), .val (.int (own_v0_11 p1 p4)), .val (.int (p4 &&& (3 : Int32))), .val (.ref b8), .val (.int (1 : Int32))] [(.int (8 : Int32)), (.int (own_v0_11 p1 p4)), (.int p2), (.ref b8), (.int (1 : Int32))]))
  obtain ⟨v27, T27, L27, X27, hQ27, st27⟩ := own_tidyS X26 (Jvm.LawKit.callS X26 hx (y := (⟨"com/example/pathgauge/pathgauge/e1/MultiframeSearchTakePinLaw", "ts", "(III)I"⟩ : MethodName)) hown (mvT hZ (hw _ (List.mem_of_getElem? (i := 9) rfl))) (mvT hZ (hw _ (List.mem_of_getElem? (i := 10) rfl))) (mvT hZ (hw _ (List.mem_of_getElem? (i := 11) rfl))) (mvT hZ (hw _ (List.mem_of_getElem? (i := 12) rfl))) (by decide) (backOf (W := 2) (rm3 l Z a0 hw [] p2 (own_v0_11 p1 p4) (8 : Int32) T26.heap n0 (Nat.le_trans (Nat.le_trans (Nat.le_trans (Nat.le_trans (Nat.le_trans (Nat.le_trans (Nat.le_trans (Nat.le_trans (Nat.le_trans (Nat.le_trans Z0 E8.1) Kc11.1) Kc13.1) Kc15.1) Kc17.1) Kc19.1) Kc21.1) Kc23.1) Kc24.1) Kc26.1) ) hZ (hw _ (List.mem_of_getElem? (i := 12) rfl)) (hw _ (List.mem_of_getElem? (i := 11) rfl)) (by decide) (by decide)) (g := (mkF m 319 #[.val (.int p1), .val (.int p2), .val (.int p3), .val (.int p4), .val (.int (own_v0_11 p1 p4)), .val (.int (p4 &&& (3 : Int32))), .val (.ref b8), .val (.int (1 : Int32))] [(.int (8 : Int32)), (.int (own_v0_11 p1 p4)), (.int p2), (.ref b8), (.int (1 : Int32))])) rfl (by rw [hml]; rfl) (argsL := [(.int p2), (.int (own_v0_11 p1 p4)), (.int (8 : Int32))]) (rest := [(.ref b8), (.int (1 : Int32))]) (lenOf pd_1 rfl) rfl (by show 2 * 0 + _ ≤ _; exact Nat.le_of_eq rfl) (hb hby at_319) (fun _ _ => ⟨rfl, rfl, (by decide : 1 + 0 ≤ _), (by decide : 3 + 0 ≤ _)⟩)) (c' := 1) (n' := 3) rfl rfl
  obtain ⟨rfl, N27q, e27⟩ := hQ27
  have N27 := Fr.app N26 N27q
  refine own_go st27 ?_
  show own_Go p.tables e below _ (T27.setTop (mkF m 322 #[.val (.int p1), .val (.int p2), .val (.int p3), .val (.int p4), .val (.int (own_v0_11 p1 p4)), .val (.int (p4 &&& (3 : Int32))), .val (.ref b8), .val (.int (1 : Int32))] [(.int (own_f3 p2 (own_v0_11 p1 p4) (8 : Int32))), (.ref b8), (.int (1 : Int32))]))
  refine own_go (fun _ => XS.iconst X27.here hx rfl (hb hby at_322)) ?_
  show own_Go p.tables e below _ (T27.setTop (mkF m 323 #[.val (.int p1), .val (.int p2), .val (.int p3), .val (.int p4), .val (.int (own_v0_11 p1 p4)), .val (.int (p4 &&& (3 : Int32))), .val (.ref b8), .val (.int (1 : Int32))] [(.int (0 : Int32)), (.int (own_f3 p2 (own_v0_11 p1 p4) (8 : Int32))), (.ref b8), (.int (1 : Int32))]))
  obtain ⟨cq28, kq28, q28a, q28b, q28c⟩ := isOf hZ e27 F26_0
  obtain ⟨v28, T28, L28, X28, hQ28, st28⟩ := own_tidyV X27 (X27.virtualBack hx (y := (⟨"com/example/pathgauge/pathgauge/e1/MultiframeSearch", "take", "(IZ)Z"⟩ : MethodName)) (z := (⟨"com/example/pathgauge/pathgauge/e1/MultiframeSearch", "take", "(IZ)Z"⟩ : MethodName)) hown (mvT hZ (hw _ (List.mem_of_getElem? (i := 14) rfl))) (mvT hZ (hw _ (List.mem_of_getElem? (i := 15) rfl))) (notFace_of_selects (args := #[]) (mvT hZ (hw _ (List.mem_of_getElem? (i := 17) rfl)))) (mvT hZ (hw _ (List.mem_of_getElem? (i := 17) rfl))) (mvT hZ (hw _ (List.mem_of_getElem? (i := 16) rfl))) (by decide) (backOf (W := 1) (rm4o l Z a0 hw [] b8 (own_f3 p2 (own_v0_11 p1 p4) (8 : Int32)) (9 : Int32) (own_o8 p2 (own_v0_11 p1 p4)) (8 : Int32) T26.heap n0 (Nat.le_trans (Nat.le_trans (Nat.le_trans (Nat.le_trans (Nat.le_trans (Nat.le_trans (Nat.le_trans (Nat.le_trans (Nat.le_trans (Nat.le_trans Z0 E8.1) Kc11.1) Kc13.1) Kc15.1) Kc17.1) Kc19.1) Kc21.1) Kc23.1) Kc24.1) Kc26.1) G26_1 F26_0 g_b8 G26_2 G26_3) hZ (hw _ (List.mem_of_getElem? (i := 18) rfl)) (hw _ (List.mem_of_getElem? (i := 2) rfl)) (by decide) (by decide)) q28a q28c (g := (mkF m 323 #[.val (.int p1), .val (.int p2), .val (.int p3), .val (.int p4), .val (.int (own_v0_11 p1 p4)), .val (.int (p4 &&& (3 : Int32))), .val (.ref b8), .val (.int (1 : Int32))] [(.int (0 : Int32)), (.int (own_f3 p2 (own_v0_11 p1 p4) (8 : Int32))), (.ref b8), (.int (1 : Int32))])) rfl (by rw [hml]; rfl) (Steps.refl _) (argsL := [(.int (own_f3 p2 (own_v0_11 p1 p4) (8 : Int32))), (.int (0 : Int32))]) (rest := [(.int (1 : Int32))]) (lenOf pd_2 rfl) rfl (by show 2 * 0 + _ ≤ _; exact Nat.le_of_eq rfl) (hb hby at_323) (fun _ _ => ⟨rfl, e27, (by decide : 1 + 0 ≤ _), (by decide : 3 + 0 ≤ _)⟩)) (c' := 1) (n' := 3) rfl rfl
  obtain ⟨rfl, N28q, Kc28, F28_0, F28_1, F28_2, F28_3⟩ := hQ28
  have N28 := Fr.app N27 N28q
  refine own_via st28 ?_
  have K28 : Keep h0 T28.heap [] := K26.trans Kc28 (allS (Or.inr sz_b8) all0)
  have G28_1 : Fld Z T28.heap b8 "com/example/pathgauge/pathgauge/e1/MultiframeSearch" "frames" "I" (.int (10 : Int32)) := F28_1
  have G28_2 : Fld Z T28.heap b8 "com/example/pathgauge/pathgauge/e1/MultiframeSearch" "oddFrameBits" "I" (.int (own_o9 p2 (own_v0_11 p1 p4))) := F28_2
  have G28_3 : Fld Z T28.heap b8 "com/example/pathgauge/pathgauge/e1/MultiframeSearch" "oddFrames" "I" (.int (9 : Int32)) := F28_3
  show own_Go p.tables e below _ (T28.setTop (mkF m 326 #[.val (.int p1), .val (.int p2), .val (.int p3), .val (.int p4), .val (.int (own_v0_11 p1 p4)), .val (.int (p4 &&& (3 : Int32))), .val (.ref b8), .val (.int (1 : Int32))] [(.int (own_f4o (own_f3 p2 (own_v0_11 p1 p4) (8 : Int32)) (own_o8 p2 (own_v0_11 p1 p4)) (8 : Int32))), (.int (1 : Int32))]))
  rw [show (own_f4o (own_f3 p2 (own_v0_11 p1 p4) (8 : Int32)) (own_o8 p2 (own_v0_11 p1 p4)) (8 : Int32)) = (0 : Int32) from if_pos (by decide)]
  show own_Go p.tables e below _ (T28.setTop (mkF m 326 #[.val (.int p1), .val (.int p2), .val (.int p3), .val (.int p4), .val (.int (own_v0_11 p1 p4)), .val (.int (p4 &&& (3 : Int32))), .val (.ref b8), .val (.int (1 : Int32))] [(.int (0 : Int32)), (.int (1 : Int32))]))
  refine own_go (fun _ => XS.ifNo X28.here hx rfl (hb hby at_326) rfl ((if0 _ _).trans (teq (by decide : (0 : Int32) = (0 : Int32))).2)) ?_
  show own_Go p.tables e below _ (T28.setTop (mkF m 329 #[.val (.int p1), .val (.int p2), .val (.int p3), .val (.int p4), .val (.int (own_v0_11 p1 p4)), .val (.int (p4 &&& (3 : Int32))), .val (.ref b8), .val (.int (1 : Int32))] [(.int (1 : Int32))]))
  refine own_go (fun _ => XS.iconst X28.here hx rfl (hb hby at_329)) ?_
  show own_Go p.tables e below _ (T28.setTop (mkF m 330 #[.val (.int p1), .val (.int p2), .val (.int p3), .val (.int p4), .val (.int (own_v0_11 p1 p4)), .val (.int (p4 &&& (3 : Int32))), .val (.ref b8), .val (.int (1 : Int32))] [(.int (1 : Int32)), (.int (1 : Int32))]))
  refine own_go (fun _ => XS.goto X28.here hx rfl (pc0 := 330) (pc' := 334) rfl (hb hby at_330) (by decide) (by decide)) ?_
  show own_Go p.tables e below _ (T28.setTop (mkF m 334 #[.val (.int p1), .val (.int p2), .val (.int p3), .val (.int p4), .val (.int (own_v0_11 p1 p4)), .val (.int (p4 &&& (3 : Int32))), .val (.ref b8), .val (.int (1 : Int32))] [(.int (1 : Int32)), (.int (1 : Int32))]))
  refine own_go (fun _ => XS.iand X28.here hx rfl (hb hby at_334) rfl) ?_
  show own_Go p.tables e below _ (T28.setTop (mkF m 335 #[.val (.int p1), .val (.int p2), .val (.int p3), .val (.int p4), .val (.int (own_v0_11 p1 p4)), .val (.int (p4 &&& (3 : Int32))), .val (.ref b8), .val (.int (1 : Int32))] [(.int ((1 : Int32) &&& (1 : Int32)))]))
  rw [show ((1 : Int32) &&& (1 : Int32)) = (1 : Int32) from by decide]
  show own_Go p.tables e below _ (T28.setTop (mkF m 335 #[.val (.int p1), .val (.int p2), .val (.int p3), .val (.int p4), .val (.int (own_v0_11 p1 p4)), .val (.int (p4 &&& (3 : Int32))), .val (.ref b8), .val (.int (1 : Int32))] [(.int (1 : Int32))]))
  refine own_go (fun _ => XS.istore X28.here hx rfl (hb hby at_335) rfl (l' := #[.val (.int p1), .val (.int p2), .val (.int p3), .val (.int p4), .val (.int (own_v0_11 p1 p4)), .val (.int (p4 &&& (3 : Int32))), .val (.ref b8), .val (.int (1 : Int32))]) rfl) ?_
  show own_Go p.tables e below _ (T28.setTop (mkF m 337 #[.val (.int p1), .val (.int p2), .val (.int p3), .val (.int p4), .val (.int (own_v0_11 p1 p4)), .val (.int (p4 &&& (3 : Int32))), .val (.ref b8), .val (.int (1 : Int32))] []))
  refine own_go (fun _ => XS.iload X28.here hx rfl (hb hby at_337) rfl) ?_
  show own_Go p.tables e below _ (T28.setTop (mkF m 339 #[.val (.int p1), .val (.int p2), .val (.int p3), .val (.int p4), .val (.int (own_v0_11 p1 p4)), .val (.int (p4 &&& (3 : Int32))), .val (.ref b8), .val (.int (1 : Int32))] [(.int (1 : Int32))]))
  refine own_go (fun _ => XS.aload X28.here hx rfl (hb hby at_339) rfl rfl) ?_
  show own_Go p.tables e below _ (T28.setTop (mkF m 341 #[.val (.int p1), .val (.int p2), .val (.int p3), .val (.int p4), .val (.int (own_v0_11 p1 p4)), .val (.int (p4 &&& (3 : Int32))), .val (.ref b8), .val (.int (1 : Int32))] [(.ref b8), (.int (1 : Int32))]))
  refine own_go (fun _ => XS.iloadN X28.here hx rfl (hb hby at_341) rfl) ?_
  show own_Go p.tables e below _ (T28.setTop (mkF m 342 #[.val (.int p1), .val (.int p2), .val (.int p3), .val (.int p4), .val (.int (own_v0_11 p1 p4)), .val (.int (p4 &&& (3 : Int32))), .val (.ref b8), .val (.int (1 : Int32))] [(.int p2), (.ref b8), (.int (1 : Int32))]))
  refine own_go (fun _ => XS.iload X28.here hx rfl (hb hby at_342) rfl) ?_
  show own_Go p.tables e below _ (T28.setTop (mkF m 344 #[.val (.int p1), .val (.int p2), .val (.int p3), .val (.int p4), .val (.int (own_v0_11 p1 p4)), .val (.int (p4 &&& (3 : Int32))), .val (.ref b8), .val (.int (1 : Int32))] [(.int (own_v0_11 p1 p4)), (.int p2), (.ref b8), (.int (1 : Int32))]))
  refine own_go (fun _ => XS.bipush X28.here hx rfl (hb hby at_344)) ?_
  show own_Go p.tables e below _ (T28.setTop (mkF m 346 #[.val (.int p1), .val (.int p2), .val (.int p3), .val (.int p4), .val (.int (own_v0_11 p1 p4)), .val (.int (p4 &&& (3 : Int32))), .val (.ref b8), .val (.int (1 : Int32))] [(.int (9 : Int32)), (.int (own_v0_11 p1 p4)), (.int p2), (.ref b8), (.int (1 : Int32))]))
  obtain ⟨v29, T29, L29, X29, hQ29, st29⟩ := own_tidyS X28 (Jvm.LawKit.callS X28 hx (y := (⟨"com/example/pathgauge/pathgauge/e1/MultiframeSearchTakePinLaw", "ts", "(III)I"⟩ : MethodName)) hown (mvT hZ (hw _ (List.mem_of_getElem? (i := 9) rfl))) (mvT hZ (hw _ (List.mem_of_getElem? (i := 10) rfl))) (mvT hZ (hw _ (List.mem_of_getElem? (i := 11) rfl))) (mvT hZ (hw _ (List.mem_of_getElem? (i := 12) rfl))) (by decide) (backOf (W := 2) (rm3 l Z a0 hw [] p2 (own_v0_11 p1 p4) (9 : Int32) T28.heap n0 (Nat.le_trans (Nat.le_trans (Nat.le_trans (Nat.le_trans (Nat.le_trans (Nat.le_trans (Nat.le_trans (Nat.le_trans (Nat.le_trans (Nat.le_trans (Nat.le_trans Z0 E8.1) Kc11.1) Kc13.1) Kc15.1) Kc17.1) Kc19.1) Kc21.1) Kc23.1) Kc24.1) Kc26.1) Kc28.1) ) hZ (hw _ (List.mem_of_getElem? (i := 12) rfl)) (hw _ (List.mem_of_getElem? (i := 11) rfl)) (by decide) (by decide)) (g := (mkF m 346 #[.val (.int p1), .val (.int p2), .val (.int p3), .val (.int p4), .val (.int (own_v0_11 p1 p4)), .val (.int (p4 &&& (3 : Int32))), .val (.ref b8), .val (.int (1 : Int32))] [(.int (9 : Int32)), (.int (own_v0_11 p1 p4)), (.int p2), (.ref b8), (.int (1 : Int32))])) rfl (by rw [hml]; rfl) (argsL := [(.int p2), (.int (own_v0_11 p1 p4)), (.int (9 : Int32))]) (rest := [(.ref b8), (.int (1 : Int32))]) (lenOf pd_1 rfl) rfl (by show 2 * 0 + _ ≤ _; exact Nat.le_of_eq rfl) (hb hby at_346) (fun _ _ => ⟨rfl, rfl, (by decide : 1 + 0 ≤ _), (by decide : 3 + 0 ≤ _)⟩)) (c' := 1) (n' := 3) rfl rfl
  obtain ⟨rfl, N29q, e29⟩ := hQ29
  have N29 := Fr.app N28 N29q
  refine own_go st29 ?_
  show own_Go p.tables e below _ (T29.setTop (mkF m 349 #[.val (.int p1), .val (.int p2), .val (.int p3), .val (.int p4), .val (.int (own_v0_11 p1 p4)), .val (.int (p4 &&& (3 : Int32))), .val (.ref b8), .val (.int (1 : Int32))] [(.int (own_f3 p2 (own_v0_11 p1 p4) (9 : Int32))), (.ref b8), (.int (1 : Int32))]))
  refine own_go (fun _ => XS.iconst X29.here hx rfl (hb hby at_349)) ?_
  show own_Go p.tables e below _ (T29.setTop (mkF m 350 #[.val (.int p1), .val (.int p2), .val (.int p3), .val (.int p4), .val (.int (own_v0_11 p1 p4)), .val (.int (p4 &&& (3 : Int32))), .val (.ref b8), .val (.int (1 : Int32))] [(.int (0 : Int32)), (.int (own_f3 p2 (own_v0_11 p1 p4) (9 : Int32))), (.ref b8), (.int (1 : Int32))]))
  obtain ⟨cq30, kq30, q30a, q30b, q30c⟩ := isOf hZ e29 F28_0
  obtain ⟨v30, T30, L30, X30, hQ30, st30⟩ := own_tidyV X29 (X29.virtualBack hx (y := (⟨"com/example/pathgauge/pathgauge/e1/MultiframeSearch", "take", "(IZ)Z"⟩ : MethodName)) (z := (⟨"com/example/pathgauge/pathgauge/e1/MultiframeSearch", "take", "(IZ)Z"⟩ : MethodName)) hown (mvT hZ (hw _ (List.mem_of_getElem? (i := 14) rfl))) (mvT hZ (hw _ (List.mem_of_getElem? (i := 15) rfl))) (notFace_of_selects (args := #[]) (mvT hZ (hw _ (List.mem_of_getElem? (i := 17) rfl)))) (mvT hZ (hw _ (List.mem_of_getElem? (i := 17) rfl))) (mvT hZ (hw _ (List.mem_of_getElem? (i := 16) rfl))) (by decide) (backOf (W := 1) (rm4o l Z a0 hw [] b8 (own_f3 p2 (own_v0_11 p1 p4) (9 : Int32)) (10 : Int32) (own_o9 p2 (own_v0_11 p1 p4)) (9 : Int32) T28.heap n0 (Nat.le_trans (Nat.le_trans (Nat.le_trans (Nat.le_trans (Nat.le_trans (Nat.le_trans (Nat.le_trans (Nat.le_trans (Nat.le_trans (Nat.le_trans (Nat.le_trans Z0 E8.1) Kc11.1) Kc13.1) Kc15.1) Kc17.1) Kc19.1) Kc21.1) Kc23.1) Kc24.1) Kc26.1) Kc28.1) G28_1 F28_0 g_b8 G28_2 G28_3) hZ (hw _ (List.mem_of_getElem? (i := 18) rfl)) (hw _ (List.mem_of_getElem? (i := 2) rfl)) (by decide) (by decide)) q30a q30c (g := (mkF m 350 #[.val (.int p1), .val (.int p2), .val (.int p3), .val (.int p4), .val (.int (own_v0_11 p1 p4)), .val (.int (p4 &&& (3 : Int32))), .val (.ref b8), .val (.int (1 : Int32))] [(.int (0 : Int32)), (.int (own_f3 p2 (own_v0_11 p1 p4) (9 : Int32))), (.ref b8), (.int (1 : Int32))])) rfl (by rw [hml]; rfl) (Steps.refl _) (argsL := [(.int (own_f3 p2 (own_v0_11 p1 p4) (9 : Int32))), (.int (0 : Int32))]) (rest := [(.int (1 : Int32))]) (lenOf pd_2 rfl) rfl (by show 2 * 0 + _ ≤ _; exact Nat.le_of_eq rfl) (hb hby at_350) (fun _ _ => ⟨rfl, e29, (by decide : 1 + 0 ≤ _), (by decide : 3 + 0 ≤ _)⟩)) (c' := 1) (n' := 3) rfl rfl
  obtain ⟨rfl, N30q, Kc30, F30_0, F30_1, F30_2, F30_3⟩ := hQ30
  have N30 := Fr.app N29 N30q
  refine own_via st30 ?_
  have K30 : Keep h0 T30.heap [] := K28.trans Kc30 (allS (Or.inr sz_b8) all0)
  have G30_1 : Fld Z T30.heap b8 "com/example/pathgauge/pathgauge/e1/MultiframeSearch" "frames" "I" (.int (11 : Int32)) := F30_1
  have G30_2 : Fld Z T30.heap b8 "com/example/pathgauge/pathgauge/e1/MultiframeSearch" "oddFrameBits" "I" (.int (own_o10 p2 (own_v0_11 p1 p4))) := F30_2
  have G30_3 : Fld Z T30.heap b8 "com/example/pathgauge/pathgauge/e1/MultiframeSearch" "oddFrames" "I" (.int (10 : Int32)) := F30_3
  show own_Go p.tables e below _ (T30.setTop (mkF m 353 #[.val (.int p1), .val (.int p2), .val (.int p3), .val (.int p4), .val (.int (own_v0_11 p1 p4)), .val (.int (p4 &&& (3 : Int32))), .val (.ref b8), .val (.int (1 : Int32))] [(.int (own_f4o (own_f3 p2 (own_v0_11 p1 p4) (9 : Int32)) (own_o9 p2 (own_v0_11 p1 p4)) (9 : Int32))), (.int (1 : Int32))]))
  rw [show (own_f4o (own_f3 p2 (own_v0_11 p1 p4) (9 : Int32)) (own_o9 p2 (own_v0_11 p1 p4)) (9 : Int32)) = (0 : Int32) from if_pos (by decide)]
  show own_Go p.tables e below _ (T30.setTop (mkF m 353 #[.val (.int p1), .val (.int p2), .val (.int p3), .val (.int p4), .val (.int (own_v0_11 p1 p4)), .val (.int (p4 &&& (3 : Int32))), .val (.ref b8), .val (.int (1 : Int32))] [(.int (0 : Int32)), (.int (1 : Int32))]))
  refine own_go (fun _ => XS.ifNo X30.here hx rfl (hb hby at_353) rfl ((if0 _ _).trans (teq (by decide : (0 : Int32) = (0 : Int32))).2)) ?_
  show own_Go p.tables e below _ (T30.setTop (mkF m 356 #[.val (.int p1), .val (.int p2), .val (.int p3), .val (.int p4), .val (.int (own_v0_11 p1 p4)), .val (.int (p4 &&& (3 : Int32))), .val (.ref b8), .val (.int (1 : Int32))] [(.int (1 : Int32))]))
  refine own_go (fun _ => XS.iconst X30.here hx rfl (hb hby at_356)) ?_
  show own_Go p.tables e below _ (T30.setTop (mkF m 357 #[.val (.int p1), .val (.int p2), .val (.int p3), .val (.int p4), .val (.int (own_v0_11 p1 p4)), .val (.int (p4 &&& (3 : Int32))), .val (.ref b8), .val (.int (1 : Int32))] [(.int (1 : Int32)), (.int (1 : Int32))]))
  refine own_go (fun _ => XS.goto X30.here hx rfl (pc0 := 357) (pc' := 361) rfl (hb hby at_357) (by decide) (by decide)) ?_
  show own_Go p.tables e below _ (T30.setTop (mkF m 361 #[.val (.int p1), .val (.int p2), .val (.int p3), .val (.int p4), .val (.int (own_v0_11 p1 p4)), .val (.int (p4 &&& (3 : Int32))), .val (.ref b8), .val (.int (1 : Int32))] [(.int (1 : Int32)), (.int (1 : Int32))]))
  refine own_go (fun _ => XS.iand X30.here hx rfl (hb hby at_361) rfl) ?_
  show own_Go p.tables e below _ (T30.setTop (mkF m 362 #[.val (.int p1), .val (.int p2), .val (.int p3), .val (.int p4), .val (.int (own_v0_11 p1 p4)), .val (.int (p4 &&& (3 : Int32))), .val (.ref b8), .val (.int (1 : Int32))] [(.int ((1 : Int32) &&& (1 : Int32)))]))
  rw [show ((1 : Int32) &&& (1 : Int32)) = (1 : Int32) from by decide]
  show own_Go p.tables e below _ (T30.setTop (mkF m 362 #[.val (.int p1), .val (.int p2), .val (.int p3), .val (.int p4), .val (.int (own_v0_11 p1 p4)), .val (.int (p4 &&& (3 : Int32))), .val (.ref b8), .val (.int (1 : Int32))] [(.int (1 : Int32))]))
  refine own_go (fun _ => XS.istore X30.here hx rfl (hb hby at_362) rfl (l' := #[.val (.int p1), .val (.int p2), .val (.int p3), .val (.int p4), .val (.int (own_v0_11 p1 p4)), .val (.int (p4 &&& (3 : Int32))), .val (.ref b8), .val (.int (1 : Int32))]) rfl) ?_
  show own_Go p.tables e below _ (T30.setTop (mkF m 364 #[.val (.int p1), .val (.int p2), .val (.int p3), .val (.int p4), .val (.int (own_v0_11 p1 p4)), .val (.int (p4 &&& (3 : Int32))), .val (.ref b8), .val (.int (1 : Int32))] []))
  refine own_go (fun _ => XS.iload X30.here hx rfl (hb hby at_364) rfl) ?_
  show own_Go p.tables e below _ (T30.setTop (mkF m 366 #[.val (.int p1), .val (.int p2), .val (.int p3), .val (.int p4), .val (.int (own_v0_11 p1 p4)), .val (.int (p4 &&& (3 : Int32))), .val (.ref b8), .val (.int (1 : Int32))] [(.int (1 : Int32))]))
  refine own_go (fun _ => XS.aload X30.here hx rfl (hb hby at_366) rfl rfl) ?_
  show own_Go p.tables e below _ (T30.setTop (mkF m 368 #[.val (.int p1), .val (.int p2), .val (.int p3), .val (.int p4), .val (.int (own_v0_11 p1 p4)), .val (.int (p4 &&& (3 : Int32))), .val (.ref b8), .val (.int (1 : Int32))] [(.ref b8), (.int (1 : Int32))]))
  refine own_go (fun _ => XS.iloadN X30.here hx rfl (hb hby at_368) rfl) ?_
  show own_Go p.tables e below _ (T30.setTop (mkF m 369 #[.val (.int p1), .val (.int p2), .val (.int p3), .val (.int p4), .val (.int (own_v0_11 p1 p4)), .val (.int (p4 &&& (3 : Int32))), .val (.ref b8), .val (.int (1 : Int32))] [(.int p2), (.ref b8), (.int (1 : Int32))]))
  refine own_go (fun _ => XS.iload X30.here hx rfl (hb hby at_369) rfl) ?_
  show own_Go p.tables e below _ (T30.setTop (mkF m 371 #[.val (.int p1), .val (.int p2), .val (.int p3), .val (.int p4), .val (.int (own_v0_11 p1 p4)), .val (.int (p4 &&& (3 : Int32))), .val (.ref b8), .val (.int (1 : Int32))] [(.int (own_v0_11 p1 p4)), (.int p2), (.ref b8), (.int (1 : Int32))]))
  refine own_go (fun _ => XS.bipush X30.here hx rfl (hb hby at_371)) ?_
  show own_Go p.tables e below _ (T30.setTop (mkF m 373 #[.val (.int p1), .val (.int p2), .val (.int p3), .val (.int p4), .val (.int (own_v0_11 p1 p4)), .val (.int (p4 &&& (3 : Int32))), .val (.ref b8), .val (.int (1 : Int32))] [(.int (10 : Int32)), (.int (own_v0_11 p1 p4)), (.int p2), (.ref b8), (.int (1 : Int32))]))
  obtain ⟨v31, T31, L31, X31, hQ31, st31⟩ := own_tidyS X30 (Jvm.LawKit.callS X30 hx (y := (⟨"com/example/pathgauge/pathgauge/e1/MultiframeSearchTakePinLaw", "ts", "(III)I"⟩ : MethodName)) hown (mvT hZ (hw _ (List.mem_of_getElem? (i := 9) rfl))) (mvT hZ (hw _ (List.mem_of_getElem? (i := 10) rfl))) (mvT hZ (hw _ (List.mem_of_getElem? (i := 11) rfl))) (mvT hZ (hw _ (List.mem_of_getElem? (i := 12) rfl))) (by decide) (backOf (W := 2) (rm3 l Z a0 hw [] p2 (own_v0_11 p1 p4) (10 : Int32) T30.heap n0 (Nat.le_trans (Nat.le_trans (Nat.le_trans (Nat.le_trans (Nat.le_trans (Nat.le_trans (Nat.le_trans (Nat.le_trans (Nat.le_trans (Nat.le_trans (Nat.le_trans (Nat.le_trans Z0 E8.1) Kc11.1) Kc13.1) Kc15.1) Kc17.1) Kc19.1) Kc21.1) Kc23.1) Kc24.1) Kc26.1) Kc28.1) Kc30.1) ) hZ (hw _ (List.mem_of_getElem? (i := 12) rfl)) (hw _ (List.mem_of_getElem? (i := 11) rfl)) (by decide) (by decide)) (g := (mkF m 373 #[.val (.int p1), .val (.int p2), .val (.int p3), .val (.int p4), .val (.int (own_v0_11 p1 p4)), .val (.int (p4 &&& (3 : Int32))), .val (.ref b8), .val (.int (1 : Int32))] [(.int (10 : Int32)), (.int (own_v0_11 p1 p4)), (.int p2), (.ref b8), (.int (1 : Int32))])) rfl (by rw [hml]; rfl) (argsL := [(.int p2), (.int (own_v0_11 p1 p4)), (.int (10 : Int32))]) (rest := [(.ref b8), (.int (1 : Int32))]) (lenOf pd_1 rfl) rfl (by show 2 * 0 + _ ≤ _; exact Nat.le_of_eq rfl) (hb hby at_373) (fun _ _ => ⟨rfl, rfl, (by decide : 1 + 0 ≤ _), (by decide : 3 + 0 ≤ _)⟩)) (c' := 1) (n' := 3) rfl rfl
  obtain ⟨rfl, N31q, e31⟩ := hQ31
  have N31 := Fr.app N30 N31q
  refine own_go st31 ?_
  show own_Go p.tables e below _ (T31.setTop (mkF m 376 #[.val (.int p1), .val (.int p2), .val (.int p3), .val (.int p4), .val (.int (own_v0_11 p1 p4)), .val (.int (p4 &&& (3 : Int32))), .val (.ref b8), .val (.int (1 : Int32))] [(.int (own_f3 p2 (own_v0_11 p1 p4) (10 : Int32))), (.ref b8), (.int (1 : Int32))]))
  refine own_go (fun _ => XS.iconst X31.here hx rfl (hb hby at_376)) ?_
  show own_Go p.tables e below _ (T31.setTop (mkF m 377 #[.val (.int p1), .val (.int p2), .val (.int p3), .val (.int p4), .val (.int (own_v0_11 p1 p4)), .val (.int (p4 &&& (3 : Int32))), .val (.ref b8), .val (.int (1 : Int32))] [(.int (0 : Int32)), (.int (own_f3 p2 (own_v0_11 p1 p4) (10 : Int32))), (.ref b8), (.int (1 : Int32))]))
  obtain ⟨cq32, kq32, q32a, q32b, q32c⟩ := isOf hZ e31 F30_0
  obtain ⟨v32, T32, L32, X32, hQ32, st32⟩ := own_tidyV X31 (X31.virtualBack hx (y := (⟨"com/example/pathgauge/pathgauge/e1/MultiframeSearch", "take", "(IZ)Z"⟩ : MethodName)) (z := (⟨"com/example/pathgauge/pathgauge/e1/MultiframeSearch", "take", "(IZ)Z"⟩ : MethodName)) hown (mvT hZ (hw _ (List.mem_of_getElem? (i := 14) rfl))) (mvT hZ (hw _ (List.mem_of_getElem? (i := 15) rfl))) (notFace_of_selects (args := #[]) (mvT hZ (hw _ (List.mem_of_getElem? (i := 17) rfl)))) (mvT hZ (hw _ (List.mem_of_getElem? (i := 17) rfl))) (mvT hZ (hw _ (List.mem_of_getElem? (i := 16) rfl))) (by decide) (backOf (W := 1) (rm4o l Z a0 hw [] b8 (own_f3 p2 (own_v0_11 p1 p4) (10 : Int32)) (11 : Int32) (own_o10 p2 (own_v0_11 p1 p4)) (10 : Int32) T30.heap n0 (Nat.le_trans (Nat.le_trans (Nat.le_trans (Nat.le_trans (Nat.le_trans (Nat.le_trans (Nat.le_trans (Nat.le_trans (Nat.le_trans (Nat.le_trans (Nat.le_trans (Nat.le_trans Z0 E8.1) Kc11.1) Kc13.1) Kc15.1) Kc17.1) Kc19.1) Kc21.1) Kc23.1) Kc24.1) Kc26.1) Kc28.1) Kc30.1) G30_1 F30_0 g_b8 G30_2 G30_3) hZ (hw _ (List.mem_of_getElem? (i := 18) rfl)) (hw _ (List.mem_of_getElem? (i := 2) rfl)) (by decide) (by decide)) q32a q32c (g := (mkF m 377 #[.val (.int p1), .val (.int p2), .val (.int p3), .val (.int p4), .val (.int (own_v0_11 p1 p4)), .val (.int (p4 &&& (3 : Int32))), .val (.ref b8), .val (.int (1 : Int32))] [(.int (0 : Int32)), (.int (own_f3 p2 (own_v0_11 p1 p4) (10 : Int32))), (.ref b8), (.int (1 : Int32))])) rfl (by rw [hml]; rfl) (Steps.refl _) (argsL := [(.int (own_f3 p2 (own_v0_11 p1 p4) (10 : Int32))), (.int (0 : Int32))]) (rest := [(.int (1 : Int32))]) (lenOf pd_2 rfl) rfl (by show 2 * 0 + _ ≤ _; exact Nat.le_of_eq rfl) (hb hby at_377) (fun _ _ => ⟨rfl, e31, (by decide : 1 + 0 ≤ _), (by decide : 3 + 0 ≤ _)⟩)) (c' := 1) (n' := 3) rfl rfl
  obtain ⟨rfl, N32q, Kc32, F32_0, F32_1, F32_2, F32_3⟩ := hQ32
  have N32 := Fr.app N31 N32q
  refine own_via st32 ?_
  have K32 : Keep h0 T32.heap [] := K30.trans Kc32 (allS (Or.inr sz_b8) all0)
  have G32_1 : Fld Z T32.heap b8 "com/example/pathgauge/pathgauge/e1/MultiframeSearch" "frames" "I" (.int (12 : Int32)) := F32_1
  have G32_2 : Fld Z T32.heap b8 "com/example/pathgauge/pathgauge/e1/MultiframeSearch" "oddFrameBits" "I" (.int (own_o11 p2 (own_v0_11 p1 p4))) := F32_2
  have G32_3 : Fld Z T32.heap b8 "com/example/pathgauge/pathgauge/e1/MultiframeSearch" "oddFrames" "I" (.int (11 : Int32)) := F32_3
  show own_Go p.tables e below _ (T32.setTop (mkF m 380 #[.val (.int p1), .val (.int p2), .val (.int p3), .val (.int p4), .val (.int (own_v0_11 p1 p4)), .val (.int (p4 &&& (3 : Int32))), .val (.ref b8), .val (.int (1 : Int32))] [(.int (own_f4o (own_f3 p2 (own_v0_11 p1 p4) (10 : Int32)) (own_o10 p2 (own_v0_11 p1 p4)) (10 : Int32))), (.int (1 : Int32))]))
  rw [show (own_f4o (own_f3 p2 (own_v0_11 p1 p4) (10 : Int32)) (own_o10 p2 (own_v0_11 p1 p4)) (10 : Int32)) = (0 : Int32) from if_pos (by decide)]
  show own_Go p.tables e below _ (T32.setTop (mkF m 380 #[.val (.int p1), .val (.int p2), .val (.int p3), .val (.int p4), .val (.int (own_v0_11 p1 p4)), .val (.int (p4 &&& (3 : Int32))), .val (.ref b8), .val (.int (1 : Int32))] [(.int (0 : Int32)), (.int (1 : Int32))]))
  refine own_go (fun _ => XS.ifNo X32.here hx rfl (hb hby at_380) rfl ((if0 _ _).trans (teq (by decide : (0 : Int32) = (0 : Int32))).2)) ?_
  show own_Go p.tables e below _ (T32.setTop (mkF m 383 #[.val (.int p1), .val (.int p2), .val (.int p3), .val (.int p4), .val (.int (own_v0_11 p1 p4)), .val (.int (p4 &&& (3 : Int32))), .val (.ref b8), .val (.int (1 : Int32))] [(.int (1 : Int32))]))
  refine own_go (fun _ => XS.iconst X32.here hx rfl (hb hby at_383)) ?_
  show own_Go p.tables e below _ (T32.setTop (mkF m 384 #[.val (.int p1), .val (.int p2), .val (.int p3), .val (.int p4), .val (.int (own_v0_11 p1 p4)), .val (.int (p4 &&& (3 : Int32))), .val (.ref b8), .val (.int (1 : Int32))] [(.int (1 : Int32)), (.int (1 : Int32))]))
  refine own_go (fun _ => XS.goto X32.here hx rfl (pc0 := 384) (pc' := 388) rfl (hb hby at_384) (by decide) (by decide)) ?_
  show own_Go p.tables e below _ (T32.setTop (mkF m 388 #[.val (.int p1), .val (.int p2), .val (.int p3), .val (.int p4), .val (.int (own_v0_11 p1 p4)), .val (.int (p4 &&& (3 : Int32))), .val (.ref b8), .val (.int (1 : Int32))] [(.int (1 : Int32)), (.int (1 : Int32))]))
  refine own_go (fun _ => XS.iand X32.here hx rfl (hb hby at_388) rfl) ?_
  show own_Go p.tables e below _ (T32.setTop (mkF m 389 #[.val (.int p1), .val (.int p2), .val (.int p3), .val (.int p4), .val (.int (own_v0_11 p1 p4)), .val (.int (p4 &&& (3 : Int32))), .val (.ref b8), .val (.int (1 : Int32))] [(.int ((1 : Int32) &&& (1 : Int32)))]))
  rw [show ((1 : Int32) &&& (1 : Int32)) = (1 : Int32) from by decide]
  show own_Go p.tables e below _ (T32.setTop (mkF m 389 #[.val (.int p1), .val (.int p2), .val (.int p3), .val (.int p4), .val (.int (own_v0_11 p1 p4)), .val (.int (p4 &&& (3 : Int32))), .val (.ref b8), .val (.int (1 : Int32))] [(.int (1 : Int32))]))
  refine own_go (fun _ => XS.istore X32.here hx rfl (hb hby at_389) rfl (l' := #[.val (.int p1), .val (.int p2), .val (.int p3), .val (.int p4), .val (.int (own_v0_11 p1 p4)), .val (.int (p4 &&& (3 : Int32))), .val (.ref b8), .val (.int (1 : Int32))]) rfl) ?_
  show own_Go p.tables e below _ (T32.setTop (mkF m 391 #[.val (.int p1), .val (.int p2), .val (.int p3), .val (.int p4), .val (.int (own_v0_11 p1 p4)), .val (.int (p4 &&& (3 : Int32))), .val (.ref b8), .val (.int (1 : Int32))] []))
  refine own_go (fun _ => XS.iload X32.here hx rfl (hb hby at_391) rfl) ?_
  show own_Go p.tables e below _ (T32.setTop (mkF m 393 #[.val (.int p1), .val (.int p2), .val (.int p3), .val (.int p4), .val (.int (own_v0_11 p1 p4)), .val (.int (p4 &&& (3 : Int32))), .val (.ref b8), .val (.int (1 : Int32))] [(.int (1 : Int32))]))
  refine own_go (fun _ => XS.aload X32.here hx rfl (hb hby at_393) rfl rfl) ?_
  show own_Go p.tables e below _ (T32.setTop (mkF m 395 #[.val (.int p1), .val (.int p2), .val (.int p3), .val (.int p4), .val (.int (own_v0_11 p1 p4)), .val (.int (p4 &&& (3 : Int32))), .val (.ref b8), .val (.int (1 : Int32))] [(.ref b8), (.int (1 : Int32))]))
  refine own_go (fun _ => XS.iloadN X32.here hx rfl (hb hby at_395) rfl) ?_
  show own_Go p.tables e below _ (T32.setTop (mkF m 396 #[.val (.int p1), .val (.int p2), .val (.int p3), .val (.int p4), .val (.int (own_v0_11 p1 p4)), .val (.int (p4 &&& (3 : Int32))), .val (.ref b8), .val (.int (1 : Int32))] [(.int p2), (.ref b8), (.int (1 : Int32))]))
  refine own_go (fun _ => XS.iload X32.here hx rfl (hb hby at_396) rfl) ?_
  show own_Go p.tables e below _ (T32.setTop (mkF m 398 #[.val (.int p1), .val (.int p2), .val (.int p3), .val (.int p4), .val (.int (own_v0_11 p1 p4)), .val (.int (p4 &&& (3 : Int32))), .val (.ref b8), .val (.int (1 : Int32))] [(.int (own_v0_11 p1 p4)), (.int p2), (.ref b8), (.int (1 : Int32))]))
  refine own_go (fun _ => XS.bipush X32.here hx rfl (hb hby at_398)) ?_
  show own_Go p.tables e below _ (T32.setTop (mkF m 400 #[.val (.int p1), .val (.int p2), .val (.int p3), .val (.int p4), .val (.int (own_v0_11 p1 p4)), .val (.int (p4 &&& (3 : Int32))), .val (.ref b8), .val (.int (1 : Int32))] [(.int (11 : Int32)), (.int (own_v0_11 p1 p4)), (.int p2), (.ref b8), (.int (1 : Int32))]))
  obtain ⟨v33, T33, L33, X33, hQ33, st33⟩ := own_tidyS X32 (Jvm.LawKit.callS X32 hx (y := (⟨"com/example/pathgauge/pathgauge/e1/MultiframeSearchTakePinLaw", "ts", "(III)I"⟩ : MethodName)) hown (mvT hZ (hw _ (List.mem_of_getElem? (i := 9) rfl))) (mvT hZ (hw _ (List.mem_of_getElem? (i := 10) rfl))) (mvT hZ (hw _ (List.mem_of_getElem? (i := 11) rfl))) (mvT hZ (hw _ (List.mem_of_getElem? (i := 12) rfl))) (by decide) (backOf (W := 2) (rm3 l Z a0 hw [] p2 (own_v0_11 p1 p4) (11 : Int32) T32.heap n0 (Nat.le_trans (Nat.le_trans (Nat.le_trans (Nat.le_trans (Nat.le_trans (Nat.le_trans (Nat.le_trans (Nat.le_trans (Nat.le_trans (Nat.le_trans (Nat.le_trans (Nat.le_trans (Nat.le_trans Z0 E8.1) Kc11.1) Kc13.1) Kc15.1) Kc17.1) Kc19.1) Kc21.1) Kc23.1) Kc24.1) Kc26.1) Kc28.1) Kc30.1) Kc32.1) ) hZ (hw _ (List.mem_of_getElem? (i := 12) rfl)) (hw _ (List.mem_of_getElem? (i := 11) rfl)) (by decide) (by decide)) (g := (mkF m 400 #[.val (.int p1), .val (.int p2), .val (.int p3), .val (.int p4), .val (.int (own_v0_11 p1 p4)), .val (.int (p4 &&& (3 : Int32))), .val (.ref b8), .val (.int (1 : Int32))] [(.int (11 : Int32)), (.int (own_v0_11 p1 p4)), (.int p2), (.ref b8), (.int (1 : Int32))])) rfl (by rw [hml]; rfl) (argsL := [(.int p2), (.int (own_v0_11 p1 p4)), (.int (11 : Int32))]) (rest := [(.ref b8), (.int (1 : Int32))]) (lenOf pd_1 rfl) rfl (by show 2 * 0 + _ ≤ _; exact Nat.le_of_eq rfl) (hb hby at_400) (fun _ _ => ⟨rfl, rfl, (by decide : 1 + 0 ≤ _), (by decide : 3 + 0 ≤ _)⟩)) (c' := 1) (n' := 3) rfl rfl
  obtain ⟨rfl, N33q, e33⟩ := hQ33
  have N33 := Fr.app N32 N33q
  refine own_go st33 ?_
  show own_Go p.tables e below _ (T33.setTop (mkF m 403 #[.val (.int p1), .val (.int p2), .val (.int p3), .val (.int p4), .val (.int (own_v0_11 p1 p4)), .val (.int (p4 &&& (3 : Int32))), .val (.ref b8), .val (.int (1 : Int32))] [(.int (own_f3 p2 (own_v0_11 p1 p4) (11 : Int32))), (.ref b8), (.int (1 : Int32))]))
  refine own_go (fun _ => XS.iconst X33.here hx rfl (hb hby at_403)) ?_
  show own_Go p.tables e below _ (T33.setTop (mkF m 404 #[.val (.int p1), .val (.int p2), .val (.int p3), .val (.int p4), .val (.int (own_v0_11 p1 p4)), .val (.int (p4 &&& (3 : Int32))), .val (.ref b8), .val (.int (1 : Int32))] [(.int (0 : Int32)), (.int (own_f3 p2 (own_v0_11 p1 p4) (11 : Int32))), (.ref b8), (.int (1 : Int32))]))
  obtain ⟨cq34, kq34, q34a, q34b, q34c⟩ := isOf hZ e33 F32_0
  obtain ⟨v34, T34, L34, X34, hQ34, st34⟩ := own_tidyV X33 (X33.virtualBack hx (y := (⟨"com/example/pathgauge/pathgauge/e1/MultiframeSearch", "take", "(IZ)Z"⟩ : MethodName)) (z := (⟨"com/example/pathgauge/pathgauge/e1/MultiframeSearch", "take", "(IZ)Z"⟩ : MethodName)) hown (mvT hZ (hw _ (List.mem_of_getElem? (i := 14) rfl))) (mvT hZ (hw _ (List.mem_of_getElem? (i := 15) rfl))) (notFace_of_selects (args := #[]) (mvT hZ (hw _ (List.mem_of_getElem? (i := 17) rfl)))) (mvT hZ (hw _ (List.mem_of_getElem? (i := 17) rfl))) (mvT hZ (hw _ (List.mem_of_getElem? (i := 16) rfl))) (by decide) (backOf (W := 1) (rm4o l Z a0 hw [] b8 (own_f3 p2 (own_v0_11 p1 p4) (11 : Int32)) (12 : Int32) (own_o11 p2 (own_v0_11 p1 p4)) (11 : Int32) T32.heap n0 (Nat.le_trans (Nat.le_trans (Nat.le_trans (Nat.le_trans (Nat.le_trans (Nat.le_trans (Nat.le_trans (Nat.le_trans (Nat.le_trans (Nat.le_trans (Nat.le_trans (Nat.le_trans (Nat.le_trans Z0 E8.1) Kc11.1) Kc13.1) Kc15.1) Kc17.1) Kc19.1) Kc21.1) Kc23.1) Kc24.1) Kc26.1) Kc28.1) Kc30.1) Kc32.1) G32_1 F32_0 g_b8 G32_2 G32_3) hZ (hw _ (List.mem_of_getElem? (i := 18) rfl)) (hw _ (List.mem_of_getElem? (i := 2) rfl)) (by decide) (by decide)) q34a q34c (g := (mkF m 404 #[.val (.int p1), .val (.int p2), .val (.int p3), .val (.int p4), .val (.int (own_v0_11 p1 p4)), .val (.int (p4 &&& (3 : Int32))), .val (.ref b8), .val (.int (1 : Int32))] [(.int (0 : Int32)), (.int (own_f3 p2 (own_v0_11 p1 p4) (11 : Int32))), (.ref b8), (.int (1 : Int32))])) rfl (by rw [hml]; rfl) (Steps.refl _) (argsL := [(.int (own_f3 p2 (own_v0_11 p1 p4) (11 : Int32))), (.int (0 : Int32))]) (rest := [(.int (1 : Int32))]) (lenOf pd_2 rfl) rfl (by show 2 * 0 + _ ≤ _; exact Nat.le_of_eq rfl) (hb hby at_404) (fun _ _ => ⟨rfl, e33, (by decide : 1 + 0 ≤ _), (by decide : 3 + 0 ≤ _)⟩)) (c' := 1) (n' := 3) rfl rfl
  obtain ⟨rfl, N34q, Kc34, F34_0, F34_1, F34_2, F34_3⟩ := hQ34
  have N34 := Fr.app N33 N34q
  refine own_via st34 ?_
  have K34 : Keep h0 T34.heap [] := K32.trans Kc34 (allS (Or.inr sz_b8) all0)
  have G34_1 : Fld Z T34.heap b8 "com/example/pathgauge/pathgauge/e1/MultiframeSearch" "frames" "I" (.int (13 : Int32)) := F34_1
  have G34_2 : Fld Z T34.heap b8 "com/example/pathgauge/pathgauge/e1/MultiframeSearch" "oddFrameBits" "I" (.int (own_o12 p2 (own_v0_11 p1 p4))) := F34_2
  have G34_3 : Fld Z T34.heap b8 "com/example/pathgauge/pathgauge/e1/MultiframeSearch" "oddFrames" "I" (.int (12 : Int32)) := F34_3
  show own_Go p.tables e below _ (T34.setTop (mkF m 407 #[.val (.int p1), .val (.int p2), .val (.int p3), .val (.int p4), .val (.int (own_v0_11 p1 p4)), .val (.int (p4 &&& (3 : Int32))), .val (.ref b8), .val (.int (1 : Int32))] [(.int (own_f4o (own_f3 p2 (own_v0_11 p1 p4) (11 : Int32)) (own_o11 p2 (own_v0_11 p1 p4)) (11 : Int32))), (.int (1 : Int32))]))
  rw [show (own_f4o (own_f3 p2 (own_v0_11 p1 p4) (11 : Int32)) (own_o11 p2 (own_v0_11 p1 p4)) (11 : Int32)) = (0 : Int32) from if_pos (by decide)]
  show own_Go p.tables e below _ (T34.setTop (mkF m 407 #[.val (.int p1), .val (.int p2), .val (.int p3), .val (.int p4), .val (.int (own_v0_11 p1 p4)), .val (.int (p4 &&& (3 : Int32))), .val (.ref b8), .val (.int (1 : Int32))] [(.int (0 : Int32)), (.int (1 : Int32))]))
  refine own_go (fun _ => XS.ifNo X34.here hx rfl (hb hby at_407) rfl ((if0 _ _).trans (teq (by decide : (0 : Int32) = (0 : Int32))).2)) ?_
  show own_Go p.tables e below _ (T34.setTop (mkF m 410 #[.val (.int p1), .val (.int p2), .val (.int p3), .val (.int p4), .val (.int (own_v0_11 p1 p4)), .val (.int (p4 &&& (3 : Int32))), .val (.ref b8), .val (.int (1 : Int32))] [(.int (1 : Int32))]))
  refine own_go (fun _ => XS.iconst X34.here hx rfl (hb hby at_410)) ?_
  show own_Go p.tables e below _ (T34.setTop (mkF m 411 #[.val (.int p1), .val (.int p2), .val (.int p3), .val (.int p4), .val (.int (own_v0_11 p1 p4)), .val (.int (p4 &&& (3 : Int32))), .val (.ref b8), .val (.int (1 : Int32))] [(.int (1 : Int32)), (.int (1 : Int32))]))
  refine own_go (fun _ => XS.goto X34.here hx rfl (pc0 := 411) (pc' := 415) rfl (hb hby at_411) (by decide) (by decide)) ?_
  show own_Go p.tables e below _ (T34.setTop (mkF m 415 #[.val (.int p1), .val (.int p2), .val (.int p3), .val (.int p4), .val (.int (own_v0_11 p1 p4)), .val (.int (p4 &&& (3 : Int32))), .val (.ref b8), .val (.int (1 : Int32))] [(.int (1 : Int32)), (.int (1 : Int32))]))
  refine own_go (fun _ => XS.iand X34.here hx rfl (hb hby at_415) rfl) ?_
  show own_Go p.tables e below _ (T34.setTop (mkF m 416 #[.val (.int p1), .val (.int p2), .val (.int p3), .val (.int p4), .val (.int (own_v0_11 p1 p4)), .val (.int (p4 &&& (3 : Int32))), .val (.ref b8), .val (.int (1 : Int32))] [(.int ((1 : Int32) &&& (1 : Int32)))]))
  rw [show ((1 : Int32) &&& (1 : Int32)) = (1 : Int32) from by decide]
  show own_Go p.tables e below _ (T34.setTop (mkF m 416 #[.val (.int p1), .val (.int p2), .val (.int p3), .val (.int p4), .val (.int (own_v0_11 p1 p4)), .val (.int (p4 &&& (3 : Int32))), .val (.ref b8), .val (.int (1 : Int32))] [(.int (1 : Int32))]))
  refine own_go (fun _ => XS.istore X34.here hx rfl (hb hby at_416) rfl (l' := #[.val (.int p1), .val (.int p2), .val (.int p3), .val (.int p4), .val (.int (own_v0_11 p1 p4)), .val (.int (p4 &&& (3 : Int32))), .val (.ref b8), .val (.int (1 : Int32))]) rfl) ?_
  show own_Go p.tables e below _ (T34.setTop (mkF m 418 #[.val (.int p1), .val (.int p2), .val (.int p3), .val (.int p4), .val (.int (own_v0_11 p1 p4)), .val (.int (p4 &&& (3 : Int32))), .val (.ref b8), .val (.int (1 : Int32))] []))
  refine own_go (fun _ => XS.iload X34.here hx rfl (hb hby at_418) rfl) ?_
  show own_Go p.tables e below _ (T34.setTop (mkF m 420 #[.val (.int p1), .val (.int p2), .val (.int p3), .val (.int p4), .val (.int (own_v0_11 p1 p4)), .val (.int (p4 &&& (3 : Int32))), .val (.ref b8), .val (.int (1 : Int32))] [(.int (1 : Int32))]))
  refine own_go (fun _ => XS.aload X34.here hx rfl (hb hby at_420) rfl rfl) ?_
  show own_Go p.tables e below _ (T34.setTop (mkF m 422 #[.val (.int p1), .val (.int p2), .val (.int p3), .val (.int p4), .val (.int (own_v0_11 p1 p4)), .val (.int (p4 &&& (3 : Int32))), .val (.ref b8), .val (.int (1 : Int32))] [(.ref b8), (.int (1 : Int32))]))
  refine own_go (fun _ => XS.iloadN X34.here hx rfl (hb hby at_422) rfl) ?_
  show own_Go p.tables e below _ (T34.setTop (mkF m 423 #[.val (.int p1), .val (.int p2), .val (.int p3), .val (.int p4), .val (.int (own_v0_11 p1 p4)), .val (.int (p4 &&& (3 : Int32))), .val (.ref b8), .val (.int (1 : Int32))] [(.int p2), (.ref b8), (.int (1 : Int32))]))
  refine own_go (fun _ => XS.iload X34.here hx rfl (hb hby at_423) rfl) ?_
  show own_Go p.tables e below _ (T34.setTop (mkF m 425 #[.val (.int p1), .val (.int p2), .val (.int p3), .val (.int p4), .val (.int (own_v0_11 p1 p4)), .val (.int (p4 &&& (3 : Int32))), .val (.ref b8), .val (.int (1 : Int32))] [(.int (own_v0_11 p1 p4)), (.int p2), (.ref b8), (.int (1 : Int32))]))
  refine own_go (fun _ => XS.bipush X34.here hx rfl (hb hby at_425)) ?_
  show own_Go p.tables e below _ (T34.setTop (mkF m 427 #[.val (.int p1), .val (.int p2), .val (.int p3), .val (.int p4), .val (.int (own_v0_11 p1 p4)), .val (.int (p4 &&& (3 : Int32))), .val (.ref b8), .val (.int (1 : Int32))] [(.int (12 : Int32)), (.int (own_v0_11 p1 p4)), (.int p2), (.ref b8), (.int (1 : Int32))]))
  obtain ⟨v35, T35, L35, X35, hQ35, st35⟩ := own_tidyS X34 (Jvm.LawKit.callS X34 hx (y := (⟨"com/example/pathgauge/pathgauge/e1/MultiframeSearchTakePinLaw", "ts", "(III)I"⟩ : MethodName)) hown (mvT hZ (hw _ (List.mem_of_getElem? (i := 9) rfl))) (mvT hZ (hw _ (List.mem_of_getElem? (i := 10) rfl))) (mvT hZ (hw _ (List.mem_of_getElem? (i := 11) rfl))) (mvT hZ (hw _ (List.mem_of_getElem? (i := 12) rfl))) (by decide) (backOf (W := 2) (rm3 l Z a0 hw [] p2 (own_v0_11 p1 p4) (12 : Int32) T34.heap n0 (Nat.le_trans (Nat.le_trans (Nat.le_trans (Nat.le_trans (Nat.le_trans (Nat.le_trans (Nat.le_trans (Nat.le_trans (Nat.le_trans (Nat.le_trans (Nat.le_trans (Nat.le_trans (Nat.le_trans (Nat.le_trans Z0 E8.1) Kc11.1) Kc13.1) Kc15.1) Kc17.1) Kc19.1) Kc21.1) Kc23.1) Kc24.1) Kc26.1) Kc28.1) Kc30.1) Kc32.1) Kc34.1) ) hZ (hw _ (List.mem_of_getElem? (i := 12) rfl)) (hw _ (List.mem_of_getElem? (i := 11) rfl)) (by decide) (by decide)) (g := (mkF m 427 #[.val (.int p1), .val (.int p2), .val (.int p3), .val (.int p4), .val (.int (own_v0_11 p1 p4)), .val (.int (p4 &&& (3 : Int32))), .val (.ref b8), .val (.int (1 : Int32))] [(.int (12 : Int32)), (.int (own_v0_11 p1 p4)), (.int p2), (.ref b8), (.int (1 : Int32))])) rfl (by rw [hml]; rfl) (argsL := [(.int p2), (.int (own_v0_11 p1 p4)), (.int (12 : Int32))]) (rest := [(.ref b8), (.int (1 : Int32))]) (lenOf pd_1 rfl) rfl (by show 2 * 0 + _ ≤ _; exact Nat.le_of_eq rfl) (hb hby at_427) (fun _ _ => ⟨rfl, rfl, (by decide : 1 + 0 ≤ _), (by decide : 3 + 0 ≤ _)⟩)) (c' := 1) (n' := 3) rfl rfl
  obtain ⟨rfl, N35q, e35⟩ := hQ35
  have N35 := Fr.app N34 N35q
  refine own_go st35 ?_
  show own_Go p.tables e below _ (T35.setTop (mkF m 430 #[.val (.int p1), .val (.int p2), .val (.int p3), .val (.int p4), .val (.int (own_v0_11 p1 p4)), .val (.int (p4 &&& (3 : Int32))), .val (.ref b8), .val (.int (1 : Int32))] [(.int (own_f3 p2 (own_v0_11 p1 p4) (12 : Int32))), (.ref b8), (.int (1 : Int32))]))
  refine own_go (fun _ => XS.iconst X35.here hx rfl (hb hby at_430)) ?_
  show own_Go p.tables e below _ (T35.setTop (mkF m 431 #[.val (.int p1), .val (.int p2), .val (.int p3), .val (.int p4), .val (.int (own_v0_11 p1 p4)), .val (.int (p4 &&& (3 : Int32))), .val (.ref b8), .val (.int (1 : Int32))] [(.int (0 : Int32)), (.int (own_f3 p2 (own_v0_11 p1 p4) (12 : Int32))), (.ref b8), (.int (1 : Int32))]))
  obtain ⟨cq36, kq36, q36a, q36b, q36c⟩ := isOf hZ e35 F34_0
  obtain ⟨v36, T36, L36, X36, hQ36, st36⟩ := own_tidyV X35 (X35.virtualBack hx (y := (⟨"com/example/pathgauge/pathgauge/e1/MultiframeSearch", "take", "(IZ)Z"⟩ : MethodName)) (z := (⟨"com/example/pathgauge/pathgauge/e1/MultiframeSearch", "take", "(IZ)Z"⟩ : MethodName)) hown (mvT hZ (hw _ (List.mem_of_getElem? (i := 14) rfl))) (mvT hZ (hw _ (List.mem_of_getElem? (i := 15) rfl))) (notFace_of_selects (args := #[]) (mvT hZ (hw _ (List.mem_of_getElem? (i := 17) rfl)))) (mvT hZ (hw _ (List.mem_of_getElem? (i := 17) rfl))) (mvT hZ (hw _ (List.mem_of_getElem? (i := 16) rfl))) (by decide) (backOf (W := 1) (rm4o l Z a0 hw [] b8 (own_f3 p2 (own_v0_11 p1 p4) (12 : Int32)) (13 : Int32) (own_o12 p2 (own_v0_11 p1 p4)) (12 : Int32) T34.heap n0 (Nat.le_trans (Nat.le_trans (Nat.le_trans (Nat.le_trans (Nat.le_trans (Nat.le_trans (Nat.le_trans (Nat.le_trans (Nat.le_trans (Nat.le_trans (Nat.le_trans (Nat.le_trans (Nat.le_trans (Nat.le_trans Z0 E8.1) Kc11.1) Kc13.1) Kc15.1) Kc17.1) Kc19.1) Kc21.1) Kc23.1) Kc24.1) Kc26.1) Kc28.1) Kc30.1) Kc32.1) Kc34.1) G34_1 F34_0 g_b8 G34_2 G34_3) hZ (hw _ (List.mem_of_getElem? (i := 18) rfl)) (hw _ (List.mem_of_getElem? (i := 2) rfl)) (by decide) (by decide)) q36a q36c (g := (mkF m 431 #[.val (.int p1), .val (.int p2), .val (.int p3), .val (.int p4), .val (.int (own_v0_11 p1 p4)), .val (.int (p4 &&& (3 : Int32))), .val (.ref b8), .val (.int (1 : Int32))] [(.int (0 : Int32)), (.int (own_f3 p2 (own_v0_11 p1 p4) (12 : Int32))), (.ref b8), (.int (1 : Int32))])) rfl (by rw [hml]; rfl) (Steps.refl _) (argsL := [(.int (own_f3 p2 (own_v0_11 p1 p4) (12 : Int32))), (.int (0 : Int32))]) (rest := [(.int (1 : Int32))]) (lenOf pd_2 rfl) rfl (by show 2 * 0 + _ ≤ _; exact Nat.le_of_eq rfl) (hb hby at_431) (fun _ _ => ⟨rfl, e35, (by decide : 1 + 0 ≤ _), (by decide : 3 + 0 ≤ _)⟩)) (c' := 1) (n' := 3) rfl rfl
  obtain ⟨rfl, N36q, Kc36, F36_0, F36_1, F36_2, F36_3⟩ := hQ36
  have N36 := Fr.app N35 N36q
  refine own_via st36 ?_
  have K36 : Keep h0 T36.heap [] := K34.trans Kc36 (allS (Or.inr sz_b8) all0)
  have G36_1 : Fld Z T36.heap b8 "com/example/pathgauge/pathgauge/e1/MultiframeSearch" "frames" "I" (.int (14 : Int32)) := F36_1
  have G36_2 : Fld Z T36.heap b8 "com/example/pathgauge/pathgauge/e1/MultiframeSearch" "oddFrameBits" "I" (.int (own_o13 p2 (own_v0_11 p1 p4))) := F36_2
  have G36_3 : Fld Z T36.heap b8 "com/example/pathgauge/pathgauge/e1/MultiframeSearch" "oddFrames" "I" (.int (13 : Int32)) := F36_3
  show own_Go p.tables e below _ (T36.setTop (mkF m 434 #[.val (.int p1), .val (.int p2), .val (.int p3), .val (.int p4), .val (.int (own_v0_11 p1 p4)), .val (.int (p4 &&& (3 : Int32))), .val (.ref b8), .val (.int (1 : Int32))] [(.int (own_f4o (own_f3 p2 (own_v0_11 p1 p4) (12 : Int32)) (own_o12 p2 (own_v0_11 p1 p4)) (12 : Int32))), (.int (1 : Int32))]))
  rw [show (own_f4o (own_f3 p2 (own_v0_11 p1 p4) (12 : Int32)) (own_o12 p2 (own_v0_11 p1 p4)) (12 : Int32)) = (0 : Int32) from if_pos (by decide)]
  show own_Go p.tables e below _ (T36.setTop (mkF m 434 #[.val (.int p1), .val (.int p2), .val (.int p3), .val (.int p4), .val (.int (own_v0_11 p1 p4)), .val (.int (p4 &&& (3 : Int32))), .val (.ref b8), .val (.int (1 : Int32))] [(.int (0 : Int32)), (.int (1 : Int32))]))
  refine own_go (fun _ => XS.ifNo X36.here hx rfl (hb hby at_434) rfl ((if0 _ _).trans (teq (by decide : (0 : Int32) = (0 : Int32))).2)) ?_
  show own_Go p.tables e below _ (T36.setTop (mkF m 437 #[.val (.int p1), .val (.int p2), .val (.int p3), .val (.int p4), .val (.int (own_v0_11 p1 p4)), .val (.int (p4 &&& (3 : Int32))), .val (.ref b8), .val (.int (1 : Int32))] [(.int (1 : Int32))]))
  refine own_go (fun _ => XS.iconst X36.here hx rfl (hb hby at_437)) ?_
  show own_Go p.tables e below _ (T36.setTop (mkF m 438 #[.val (.int p1), .val (.int p2), .val (.int p3), .val (.int p4), .val (.int (own_v0_11 p1 p4)), .val (.int (p4 &&& (3 : Int32))), .val (.ref b8), .val (.int (1 : Int32))] [(.int (1 : Int32)), (.int (1 : Int32))]))
  refine own_go (fun _ => XS.goto X36.here hx rfl (pc0 := 438) (pc' := 442) rfl (hb hby at_438) (by decide) (by decide)) ?_
  show own_Go p.tables e below _ (T36.setTop (mkF m 442 #[.val (.int p1), .val (.int p2), .val (.int p3), .val (.int p4), .val (.int (own_v0_11 p1 p4)), .val (.int (p4 &&& (3 : Int32))), .val (.ref b8), .val (.int (1 : Int32))] [(.int (1 : Int32)), (.int (1 : Int32))]))
  refine own_go (fun _ => XS.iand X36.here hx rfl (hb hby at_442) rfl) ?_
  show own_Go p.tables e below _ (T36.setTop (mkF m 443 #[.val (.int p1), .val (.int p2), .val (.int p3), .val (.int p4), .val (.int (own_v0_11 p1 p4)), .val (.int (p4 &&& (3 : Int32))), .val (.ref b8), .val (.int (1 : Int32))] [(.int ((1 : Int32) &&& (1 : Int32)))]))
  rw [show ((1 : Int32) &&& (1 : Int32)) = (1 : Int32) from by decide]
  show own_Go p.tables e below _ (T36.setTop (mkF m 443 #[.val (.int p1), .val (.int p2), .val (.int p3), .val (.int p4), .val (.int (own_v0_11 p1 p4)), .val (.int (p4 &&& (3 : Int32))), .val (.ref b8), .val (.int (1 : Int32))] [(.int (1 : Int32))]))
  refine own_go (fun _ => XS.istore X36.here hx rfl (hb hby at_443) rfl (l' := #[.val (.int p1), .val (.int p2), .val (.int p3), .val (.int p4), .val (.int (own_v0_11 p1 p4)), .val (.int (p4 &&& (3 : Int32))), .val (.ref b8), .val (.int (1 : Int32))]) rfl) ?_
  show own_Go p.tables e below _ (T36.setTop (mkF m 445 #[.val (.int p1), .val (.int p2), .val (.int p3), .val (.int p4), .val (.int (own_v0_11 p1 p4)), .val (.int (p4 &&& (3 : Int32))), .val (.ref b8), .val (.int (1 : Int32))] []))
  refine own_go (fun _ => XS.iload X36.here hx rfl (hb hby at_445) rfl) ?_
  show own_Go p.tables e below _ (T36.setTop (mkF m 447 #[.val (.int p1), .val (.int p2), .val (.int p3), .val (.int p4), .val (.int (own_v0_11 p1 p4)), .val (.int (p4 &&& (3 : Int32))), .val (.ref b8), .val (.int (1 : Int32))] [(.int (1 : Int32))]))
  refine own_go (fun _ => XS.aload X36.here hx rfl (hb hby at_447) rfl rfl) ?_
  show own_Go p.tables e below _ (T36.setTop (mkF m 449 #[.val (.int p1), .val (.int p2), .val (.int p3), .val (.int p4), .val (.int (own_v0_11 p1 p4)), .val (.int (p4 &&& (3 : Int32))), .val (.ref b8), .val (.int (1 : Int32))] [(.ref b8), (.int (1 : Int32))]))
  refine own_go (fun _ => XS.iloadN X36.here hx rfl (hb hby at_449) rfl) ?_
  show own_Go p.tables e below _ (T36.setTop (mkF m 450 #[.val (.int p1), .val (.int p2), .val (.int p3), .val (.int p4), .val (.int (own_v0_11 p1 p4)), .val (.int (p4 &&& (3 : Int32))), .val (.ref b8), .val (.int (1 : Int32))] [(.int p2), (.ref b8), (.int (1 : Int32))]))
  refine own_go (fun _ => XS.iload X36.here hx rfl (hb hby at_450) rfl) ?_
  show own_Go p.tables e below _ (T36.setTop (mkF m 452 #[.val (.int p1), .val (.int p2), .val (.int p3), .val (.int p4), .val (.int (own_v0_11 p1 p4)), .val (.int (p4 &&& (3 : Int32))), .val (.ref b8), .val (.int (1 : Int32))] [(.int (own_v0_11 p1 p4)), (.int p2), (.ref b8), (.int (1 : Int32))]))
  refine own_go (fun _ => XS.bipush X36.here hx rfl (hb hby at_452)) ?_
  show own_Go p.tables e below _ (T36.setTop (mkF m 454 #[.val (.int p1), .val (.int p2), .val (.int p3), .val (.int p4), .val (.int (own_v0_11 p1 p4)), .val (.int (p4 &&& (3 : Int32))), .val (.ref b8), .val (.int (1 : Int32))] [(.int (13 : Int32)), (.int (own_v0_11 p1 p4)), (.int p2), (.ref b8), (.int (1 : Int32))]))
  obtain ⟨v37, T37, L37, X37, hQ37, st37⟩ := own_tidyS X36 (Jvm.LawKit.callS X36 hx (y := (⟨"com/example/pathgauge/pathgauge/e1/MultiframeSearchTakePinLaw", "ts", "(III)I"⟩ : MethodName)) hown (mvT hZ (hw _ (List.mem_of_getElem? (i := 9) rfl))) (mvT hZ (hw _ (List.mem_of_getElem? (i := 10) rfl))) (mvT hZ (hw _ (List.mem_of_getElem? (i := 11) rfl))) (mvT hZ (hw _ (List.mem_of_getElem? (i := 12) rfl))) (by decide) (backOf (W := 2) (rm3 l Z a0 hw [] p2 (own_v0_11 p1 p4) (13 : Int32) T36.heap n0 (Nat.le_trans (Nat.le_trans (Nat.le_trans (Nat.le_trans (Nat.le_trans (Nat.le_trans (Nat.le_trans (Nat.le_trans (Nat.le_trans (Nat.le_trans (Nat.le_trans (Nat.le_trans (Nat.le_trans (Nat.le_trans (Nat.le_trans Z0 E8.1) Kc11.1) Kc13.1) Kc15.1) Kc17.1) Kc19.1) Kc21.1) Kc23.1) Kc24.1) Kc26.1) Kc28.1) Kc30.1) Kc32.1) Kc34.1) Kc36.1) ) hZ (hw _ (List.mem_of_getElem? (i := 12) rfl)) (hw _ (List.mem_of_getElem? (i := 11) rfl)) (by decide) (by decide)) (g := (mkF m 454 #[.val (.int p1), .val (.int p2), .val (.int p3), .val (.int p4), .val (.int (own_v0_11 p1 p4)), .val (.int (p4 &&& (3 : Int32))), .val (.ref b8), .val (.int (1 : Int32))] [(.int (13 : Int32)), (.int (own_v0_11 p1 p4)), (.int p2), (.ref b8), (.int (1 : Int32))])) rfl (by rw [hml]; rfl) (argsL := [(.int p2), (.int (own_v0_11 p1 p4)), (.int (13 : Int32))]) (rest := [(.ref b8), (.int (1 : Int32))]) (lenOf pd_1 rfl) rfl (by show 2 * 0 + _ ≤ _; exact Nat.le_of_eq rfl) (hb hby at_454) (fun _ _ => ⟨rfl, rfl, (by decide : 1 + 0 ≤ _), (by decide : 3 + 0 ≤ _)⟩)) (c' := 1) (n' := 3) rfl rfl
  obtain ⟨rfl, N37q, e37⟩ := hQ37
  have N37 := Fr.app N36 N37q
  refine own_go st37 ?_
  show own_Go p.tables e below _ (T37.setTop (mkF m 457 #[.val (.int p1), .val (.int p2), .val (.int p3), .val (.int p4), .val (.int (own_v0_11 p1 p4)), .val (.int (p4 &&& (3 : Int32))), .val (.ref b8), .val (.int (1 : Int32))] [(.int (own_f3 p2 (own_v0_11 p1 p4) (13 : Int32))), (.ref b8), (.int (1 : Int32))]))
  refine own_go (fun _ => XS.iconst X37.here hx rfl (hb hby at_457)) ?_
  show own_Go p.tables e below _ (T37.setTop (mkF m 458 #[.val (.int p1), .val (.int p2), .val (.int p3), .val (.int p4), .val (.int (own_v0_11 p1 p4)), .val (.int (p4 &&& (3 : Int32))), .val (.ref b8), .val (.int (1 : Int32))] [(.int (0 : Int32)), (.int (own_f3 p2 (own_v0_11 p1 p4) (13 : Int32))), (.ref b8), (.int (1 : Int32))]))
  obtain ⟨cq38, kq38, q38a, q38b, q38c⟩ := isOf hZ e37 F36_0
  obtain ⟨v38, T38, L38, X38, hQ38, st38⟩ := own_tidyV X37 (X37.virtualBack hx (y := (⟨"com/example/pathgauge/pathgauge/e1/MultiframeSearch", "take", "(IZ)Z"⟩ : MethodName)) (z := (⟨"com/example/pathgauge/pathgauge/e1/MultiframeSearch", "take", "(IZ)Z"⟩ : MethodName)) hown (mvT hZ (hw _ (List.mem_of_getElem? (i := 14) rfl))) (mvT hZ (hw _ (List.mem_of_getElem? (i := 15) rfl))) (notFace_of_selects (args := #[]) (mvT hZ (hw _ (List.mem_of_getElem? (i := 17) rfl)))) (mvT hZ (hw _ (List.mem_of_getElem? (i := 17) rfl))) (mvT hZ (hw _ (List.mem_of_getElem? (i := 16) rfl))) (by decide) (backOf (W := 1) (rm4o l Z a0 hw [] b8 (own_f3 p2 (own_v0_11 p1 p4) (13 : Int32)) (14 : Int32) (own_o13 p2 (own_v0_11 p1 p4)) (13 : Int32) T36.heap n0 (Nat.le_trans (Nat.le_trans (Nat.le_trans (Nat.le_trans (Nat.le_trans (Nat.le_trans (Nat.le_trans (Nat.le_trans (Nat.le_trans (Nat.le_trans (Nat.le_trans (Nat.le_trans (Nat.le_trans (Nat.le_trans (Nat.le_trans Z0 E8.1) Kc11.1) Kc13.1) Kc15.1) Kc17.1) Kc19.1) Kc21.1) Kc23.1) Kc24.1) Kc26.1) Kc28.1) Kc30.1) Kc32.1) Kc34.1) Kc36.1) G36_1 F36_0 g_b8 G36_2 G36_3) hZ (hw _ (List.mem_of_getElem? (i := 18) rfl)) (hw _ (List.mem_of_getElem? (i := 2) rfl)) (by decide) (by decide)) q38a q38c (g := (mkF m 458 #[.val (.int p1), .val (.int p2), .val (.int p3), .val (.int p4), .val (.int (own_v0_11 p1 p4)), .val (.int (p4 &&& (3 : Int32))), .val (.ref b8), .val (.int (1 : Int32))] [(.int (0 : Int32)), (.int (own_f3 p2 (own_v0_11 p1 p4) (13 : Int32))), (.ref b8), (.int (1 : Int32))])) rfl (by rw [hml]; rfl) (Steps.refl _) (argsL := [(.int (own_f3 p2 (own_v0_11 p1 p4) (13 : Int32))), (.int (0 : Int32))]) (rest := [(.int (1 : Int32))]) (lenOf pd_2 rfl) rfl (by show 2 * 0 + _ ≤ _; exact Nat.le_of_eq rfl) (hb hby at_458) (fun _ _ => ⟨rfl, e37, (by decide : 1 + 0 ≤ _), (by decide : 3 + 0 ≤ _)⟩)) (c' := 1) (n' := 3) rfl rfl
  obtain ⟨rfl, N38q, Kc38, F38_0, F38_1, F38_2, F38_3⟩ := hQ38
  have N38 := Fr.app N37 N38q
  refine own_via st38 ?_
  have K38 : Keep h0 T38.heap [] := K36.trans Kc38 (allS (Or.inr sz_b8) all0)
  have G38_1 : Fld Z T38.heap b8 "com/example/pathgauge/pathgauge/e1/MultiframeSearch" "frames" "I" (.int (15 : Int32)) := F38_1
  have G38_2 : Fld Z T38.heap b8 "com/example/pathgauge/pathgauge/e1/MultiframeSearch" "oddFrameBits" "I" (.int (own_o14 p2 (own_v0_11 p1 p4))) := F38_2
  have G38_3 : Fld Z T38.heap b8 "com/example/pathgauge/pathgauge/e1/MultiframeSearch" "oddFrames" "I" (.int (14 : Int32)) := F38_3
  show own_Go p.tables e below _ (T38.setTop (mkF m 461 #[.val (.int p1), .val (.int p2), .val (.int p3), .val (.int p4), .val (.int (own_v0_11 p1 p4)), .val (.int (p4 &&& (3 : Int32))), .val (.ref b8), .val (.int (1 : Int32))] [(.int (own_f4o (own_f3 p2 (own_v0_11 p1 p4) (13 : Int32)) (own_o13 p2 (own_v0_11 p1 p4)) (13 : Int32))), (.int (1 : Int32))]))
  show own_Go p.tables e below _ (T38.setTop (mkF m 461 #[.val (.int p1), .val (.int p2), .val (.int p3), .val (.int p4), .val (.int (own_v0_11 p1 p4)), .val (.int (p4 &&& (3 : Int32))), .val (.ref b8), .val (.int (1 : Int32))] [(.int (own_f4o (own_f3 p2 (own_v0_11 p1 p4) (13 : Int32)) (own_o13 p2 (own_v0_11 p1 p4)) (13 : Int32))), (.int (1 : Int32))]))
  refine own_go (fun _ => XS.iload X38.here hx rfl (hb hby at_461) rfl) ?_
  show own_Go p.tables e below _ (T38.setTop (mkF m 463 #[.val (.int p1), .val (.int p2), .val (.int p3), .val (.int p4), .val (.int (own_v0_11 p1 p4)), .val (.int (p4 &&& (3 : Int32))), .val (.ref b8), .val (.int (1 : Int32))] [(.int (own_v0_11 p1 p4)), (.int (own_f4o (own_f3 p2 (own_v0_11 p1 p4) (13 : Int32)) (own_o13 p2 (own_v0_11 p1 p4)) (13 : Int32))), (.int (1 : Int32))]))
  refine own_go (fun _ => XS.iconst X38.here hx rfl (hb hby at_463)) ?_
  show own_Go p.tables e below _ (T38.setTop (mkF m 464 #[.val (.int p1), .val (.int p2), .val (.int p3), .val (.int p4), .val (.int (own_v0_11 p1 p4)), .val (.int (p4 &&& (3 : Int32))), .val (.ref b8), .val (.int (1 : Int32))] [(.int (0 : Int32)), (.int (own_v0_11 p1 p4)), (.int (own_f4o (own_f3 p2 (own_v0_11 p1 p4) (13 : Int32)) (own_o13 p2 (own_v0_11 p1 p4)) (13 : Int32))), (.int (1 : Int32))]))
  obtain ⟨v39, T39, L39, X39, hQ39, st39⟩ := own_tidyS X38 (Jvm.LawKit.callS X38 hx (y := (⟨"com/example/pathgauge/pathgauge/e1/MultiframeSearchTakePinLaw", "mfas", "(II)Z"⟩ : MethodName)) hown (mvT hZ (hw _ (List.mem_of_getElem? (i := 25) rfl))) (mvT hZ (hw _ (List.mem_of_getElem? (i := 26) rfl))) (mvT hZ (hw _ (List.mem_of_getElem? (i := 11) rfl))) (mvT hZ (hw _ (List.mem_of_getElem? (i := 27) rfl))) (by decide) (backOf (W := 2) (rm5 l Z a0 hw [] (own_v0_11 p1 p4) (0 : Int32) T38.heap n0 (Nat.le_trans (Nat.le_trans (Nat.le_trans (Nat.le_trans (Nat.le_trans (Nat.le_trans (Nat.le_trans (Nat.le_trans (Nat.le_trans (Nat.le_trans (Nat.le_trans (Nat.le_trans (Nat.le_trans (Nat.le_trans (Nat.le_trans (Nat.le_trans Z0 E8.1) Kc11.1) Kc13.1) Kc15.1) Kc17.1) Kc19.1) Kc21.1) Kc23.1) Kc24.1) Kc26.1) Kc28.1) Kc30.1) Kc32.1) Kc34.1) Kc36.1) Kc38.1) ) hZ (hw _ (List.mem_of_getElem? (i := 27) rfl)) (hw _ (List.mem_of_getElem? (i := 11) rfl)) (by decide) (by decide)) (g := (mkF m 464 #[.val (.int p1), .val (.int p2), .val (.int p3), .val (.int p4), .val (.int (own_v0_11 p1 p4)), .val (.int (p4 &&& (3 : Int32))), .val (.ref b8), .val (.int (1 : Int32))] [(.int (0 : Int32)), (.int (own_v0_11 p1 p4)), (.int (own_f4o (own_f3 p2 (own_v0_11 p1 p4) (13 : Int32)) (own_o13 p2 (own_v0_11 p1 p4)) (13 : Int32))), (.int (1 : Int32))])) rfl (by rw [hml]; rfl) (argsL := [(.int (own_v0_11 p1 p4)), (.int (0 : Int32))]) (rest := [(.int (own_f4o (own_f3 p2 (own_v0_11 p1 p4) (13 : Int32)) (own_o13 p2 (own_v0_11 p1 p4)) (13 : Int32))), (.int (1 : Int32))]) (lenOf pd_3 rfl) rfl (by show 2 * 0 + _ ≤ _; exact Nat.le_of_eq rfl) (hb hby at_464) (fun _ _ => ⟨rfl, rfl, (by decide : 1 + 0 ≤ _), (by decide : 3 + 0 ≤ _)⟩)) (c' := 1) (n' := 3) rfl rfl
  obtain ⟨rfl, N39q, e39⟩ := hQ39
  have N39 := Fr.app N38 N39q
  refine own_go st39 ?_
  show own_Go p.tables e below _ (T39.setTop (mkF m 467 #[.val (.int p1), .val (.int p2), .val (.int p3), .val (.int p4), .val (.int (own_v0_11 p1 p4)), .val (.int (p4 &&& (3 : Int32))), .val (.ref b8), .val (.int (1 : Int32))] [(.int (own_f5 (own_v0_11 p1 p4) (0 : Int32))), (.int (own_f4o (own_f3 p2 (own_v0_11 p1 p4) (13 : Int32)) (own_o13 p2 (own_v0_11 p1 p4)) (13 : Int32))), (.int (1 : Int32))]))
  refine own_go (fun _ => XS.icmpNo X39.here hx rfl (hb hby at_467) rfl (teq (own_p13 p2 (own_v0_11 p1 p4))).2) ?_
  show own_Go p.tables e below _ (T39.setTop (mkF m 470 #[.val (.int p1), .val (.int p2), .val (.int p3), .val (.int p4), .val (.int (own_v0_11 p1 p4)), .val (.int (p4 &&& (3 : Int32))), .val (.ref b8), .val (.int (1 : Int32))] [(.int (1 : Int32))]))
  refine own_go (fun _ => XS.iconst X39.here hx rfl (hb hby at_470)) ?_
  show own_Go p.tables e below _ (T39.setTop (mkF m 471 #[.val (.int p1), .val (.int p2), .val (.int p3), .val (.int p4), .val (.int (own_v0_11 p1 p4)), .val (.int (p4 &&& (3 : Int32))), .val (.ref b8), .val (.int (1 : Int32))] [(.int (1 : Int32)), (.int (1 : Int32))]))
  refine own_go (fun _ => XS.goto X39.here hx rfl (pc0 := 471) (pc' := 475) rfl (hb hby at_471) (by decide) (by decide)) ?_
  show own_Go p.tables e below _ (T39.setTop (mkF m 475 #[.val (.int p1), .val (.int p2), .val (.int p3), .val (.int p4), .val (.int (own_v0_11 p1 p4)), .val (.int (p4 &&& (3 : Int32))), .val (.ref b8), .val (.int (1 : Int32))] [(.int (1 : Int32)), (.int (1 : Int32))]))
  refine own_go (fun _ => XS.iand X39.here hx rfl (hb hby at_475) rfl) ?_
  show own_Go p.tables e below _ (T39.setTop (mkF m 476 #[.val (.int p1), .val (.int p2), .val (.int p3), .val (.int p4), .val (.int (own_v0_11 p1 p4)), .val (.int (p4 &&& (3 : Int32))), .val (.ref b8), .val (.int (1 : Int32))] [(.int ((1 : Int32) &&& (1 : Int32)))]))
  rw [show ((1 : Int32) &&& (1 : Int32)) = (1 : Int32) from by decide]
  show own_Go p.tables e below _ (T39.setTop (mkF m 476 #[.val (.int p1), .val (.int p2), .val (.int p3), .val (.int p4), .val (.int (own_v0_11 p1 p4)), .val (.int (p4 &&& (3 : Int32))), .val (.ref b8), .val (.int (1 : Int32))] [(.int (1 : Int32))]))
  refine own_go (fun _ => XS.istore X39.here hx rfl (hb hby at_476) rfl (l' := #[.val (.int p1), .val (.int p2), .val (.int p3), .val (.int p4), .val (.int (own_v0_11 p1 p4)), .val (.int (p4 &&& (3 : Int32))), .val (.ref b8), .val (.int (1 : Int32))]) rfl) ?_
  show own_Go p.tables e below _ (T39.setTop (mkF m 478 #[.val (.int p1), .val (.int p2), .val (.int p3), .val (.int p4), .val (.int (own_v0_11 p1 p4)), .val (.int (p4 &&& (3 : Int32))), .val (.ref b8), .val (.int (1 : Int32))] []))
  refine own_go (fun _ => XS.iload X39.here hx rfl (hb hby at_478) rfl) ?_
  show own_Go p.tables e below _ (T39.setTop (mkF m 480 #[.val (.int p1), .val (.int p2), .val (.int p3), .val (.int p4), .val (.int (own_v0_11 p1 p4)), .val (.int (p4 &&& (3 : Int32))), .val (.ref b8), .val (.int (1 : Int32))] [(.int (1 : Int32))]))
  refine own_go (fun _ => XS.aload X39.here hx rfl (hb hby at_480) rfl rfl) ?_
  show own_Go p.tables e below _ (T39.setTop (mkF m 482 #[.val (.int p1), .val (.int p2), .val (.int p3), .val (.int p4), .val (.int (own_v0_11 p1 p4)), .val (.int (p4 &&& (3 : Int32))), .val (.ref b8), .val (.int (1 : Int32))] [(.ref b8), (.int (1 : Int32))]))
  refine own_go (fun _ => XS.iloadN X39.here hx rfl (hb hby at_482) rfl) ?_
  show own_Go p.tables e below _ (T39.setTop (mkF m 483 #[.val (.int p1), .val (.int p2), .val (.int p3), .val (.int p4), .val (.int (own_v0_11 p1 p4)), .val (.int (p4 &&& (3 : Int32))), .val (.ref b8), .val (.int (1 : Int32))] [(.int p3), (.ref b8), (.int (1 : Int32))]))
  refine own_go (fun _ => XS.iloadN X39.here hx rfl (hb hby at_483) rfl) ?_
  show own_Go p.tables e below _ (T39.setTop (mkF m 484 #[.val (.int p1), .val (.int p2), .val (.int p3), .val (.int p4), .val (.int (own_v0_11 p1 p4)), .val (.int (p4 &&& (3 : Int32))), .val (.ref b8), .val (.int (1 : Int32))] [(.int p2), (.int p3), (.ref b8), (.int (1 : Int32))]))
  refine own_go (fun _ => XS.ixor X39.here hx rfl (hb hby at_484) rfl) ?_
  show own_Go p.tables e below _ (T39.setTop (mkF m 485 #[.val (.int p1), .val (.int p2), .val (.int p3), .val (.int p4), .val (.int (own_v0_11 p1 p4)), .val (.int (p4 &&& (3 : Int32))), .val (.ref b8), .val (.int (1 : Int32))] [(.int (p3 ^^^ p2)), (.ref b8), (.int (1 : Int32))]))
  refine own_go (fun _ => XS.iconst X39.here hx rfl (hb hby at_485)) ?_
  show own_Go p.tables e below _ (T39.setTop (mkF m 486 #[.val (.int p1), .val (.int p2), .val (.int p3), .val (.int p4), .val (.int (own_v0_11 p1 p4)), .val (.int (p4 &&& (3 : Int32))), .val (.ref b8), .val (.int (1 : Int32))] [(.int (1 : Int32)), (.int (p3 ^^^ p2)), (.ref b8), (.int (1 : Int32))]))
  obtain ⟨cq40, kq40, q40a, q40b, q40c⟩ := isOf hZ e39 F38_0
  obtain ⟨v40, T40, L40, X40, hQ40, st40⟩ := own_tidyV X39 (X39.virtualBack hx (y := (⟨"com/example/pathgauge/pathgauge/e1/MultiframeSearch", "take", "(IZ)Z"⟩ : MethodName)) (z := (⟨"com/example/pathgauge/pathgauge/e1/MultiframeSearch", "take", "(IZ)Z"⟩ : MethodName)) hown (mvT hZ (hw _ (List.mem_of_getElem? (i := 14) rfl))) (mvT hZ (hw _ (List.mem_of_getElem? (i := 15) rfl))) (notFace_of_selects (args := #[]) (mvT hZ (hw _ (List.mem_of_getElem? (i := 17) rfl)))) (mvT hZ (hw _ (List.mem_of_getElem? (i := 17) rfl))) (mvT hZ (hw _ (List.mem_of_getElem? (i := 16) rfl))) (by decide) (backOf (W := 1) (rm4e l Z a0 hw [] b8 (p3 ^^^ p2) (.int (own_o14 p2 (own_v0_11 p1 p4))) (.int (14 : Int32)) (15 : Int32) T38.heap n0 (Nat.le_trans (Nat.le_trans (Nat.le_trans (Nat.le_trans (Nat.le_trans (Nat.le_trans (Nat.le_trans (Nat.le_trans (Nat.le_trans (Nat.le_trans (Nat.le_trans (Nat.le_trans (Nat.le_trans (Nat.le_trans (Nat.le_trans (Nat.le_trans Z0 E8.1) Kc11.1) Kc13.1) Kc15.1) Kc17.1) Kc19.1) Kc21.1) Kc23.1) Kc24.1) Kc26.1) Kc28.1) Kc30.1) Kc32.1) Kc34.1) Kc36.1) Kc38.1) G38_2 G38_3 G38_1 F38_0 g_b8) hZ (hw _ (List.mem_of_getElem? (i := 18) rfl)) (hw _ (List.mem_of_getElem? (i := 2) rfl)) (by decide) (by decide)) q40a q40c (g := (mkF m 486 #[.val (.int p1), .val (.int p2), .val (.int p3), .val (.int p4), .val (.int (own_v0_11 p1 p4)), .val (.int (p4 &&& (3 : Int32))), .val (.ref b8), .val (.int (1 : Int32))] [(.int (1 : Int32)), (.int (p3 ^^^ p2)), (.ref b8), (.int (1 : Int32))])) rfl (by rw [hml]; rfl) (Steps.refl _) (argsL := [(.int (p3 ^^^ p2)), (.int (1 : Int32))]) (rest := [(.int (1 : Int32))]) (lenOf pd_2 rfl) rfl (by show 2 * 0 + _ ≤ _; exact Nat.le_of_eq rfl) (hb hby at_486) (fun _ _ => ⟨rfl, e39, (by decide : 1 + 0 ≤ _), (by decide : 3 + 0 ≤ _)⟩)) (c' := 1) (n' := 3) rfl rfl
  obtain ⟨rfl, N40q, Kc40, F40_0, F40_1, F40_2, F40_3⟩ := hQ40
  have N40 := Fr.app N39 N40q
  refine own_via st40 ?_
  have K40 : Keep h0 T40.heap [] := K38.trans Kc40 (allS (Or.inr sz_b8) all0)
  have G40_1 : Fld Z T40.heap b8 "com/example/pathgauge/pathgauge/e1/MultiframeSearch" "frames" "I" (.int (16 : Int32)) := F40_1
  have G40_2 : Fld Z T40.heap b8 "com/example/pathgauge/pathgauge/e1/MultiframeSearch" "oddFrameBits" "I" (.int (own_o14 p2 (own_v0_11 p1 p4))) := F40_2
  have G40_3 : Fld Z T40.heap b8 "com/example/pathgauge/pathgauge/e1/MultiframeSearch" "oddFrames" "I" (.int (14 : Int32)) := F40_3
  show own_Go p.tables e below _ (T40.setTop (mkF m 489 #[.val (.int p1), .val (.int p2), .val (.int p3), .val (.int p4), .val (.int (own_v0_11 p1 p4)), .val (.int (p4 &&& (3 : Int32))), .val (.ref b8), .val (.int (1 : Int32))] [(.int (0 : Int32)), (.int (1 : Int32))]))
  refine own_go (fun _ => XS.ifNo X40.here hx rfl (hb hby at_489) rfl ((if0 _ _).trans (teq (by decide : (0 : Int32) = (0 : Int32))).2)) ?_
  show own_Go p.tables e below _ (T40.setTop (mkF m 492 #[.val (.int p1), .val (.int p2), .val (.int p3), .val (.int p4), .val (.int (own_v0_11 p1 p4)), .val (.int (p4 &&& (3 : Int32))), .val (.ref b8), .val (.int (1 : Int32))] [(.int (1 : Int32))]))
  refine own_go (fun _ => XS.iconst X40.here hx rfl (hb hby at_492)) ?_
  show own_Go p.tables e below _ (T40.setTop (mkF m 493 #[.val (.int p1), .val (.int p2), .val (.int p3), .val (.int p4), .val (.int (own_v0_11 p1 p4)), .val (.int (p4 &&& (3 : Int32))), .val (.ref b8), .val (.int (1 : Int32))] [(.int (1 : Int32)), (.int (1 : Int32))]))
  refine own_go (fun _ => XS.goto X40.here hx rfl (pc0 := 493) (pc' := 497) rfl (hb hby at_493) (by decide) (by decide)) ?_
  show own_Go p.tables e below _ (T40.setTop (mkF m 497 #[.val (.int p1), .val (.int p2), .val (.int p3), .val (.int p4), .val (.int (own_v0_11 p1 p4)), .val (.int (p4 &&& (3 : Int32))), .val (.ref b8), .val (.int (1 : Int32))] [(.int (1 : Int32)), (.int (1 : Int32))]))
  refine own_go (fun _ => XS.iand X40.here hx rfl (hb hby at_497) rfl) ?_
  show own_Go p.tables e below _ (T40.setTop (mkF m 498 #[.val (.int p1), .val (.int p2), .val (.int p3), .val (.int p4), .val (.int (own_v0_11 p1 p4)), .val (.int (p4 &&& (3 : Int32))), .val (.ref b8), .val (.int (1 : Int32))] [(.int ((1 : Int32) &&& (1 : Int32)))]))
  rw [show ((1 : Int32) &&& (1 : Int32)) = (1 : Int32) from by decide]
  show own_Go p.tables e below _ (T40.setTop (mkF m 498 #[.val (.int p1), .val (.int p2), .val (.int p3), .val (.int p4), .val (.int (own_v0_11 p1 p4)), .val (.int (p4 &&& (3 : Int32))), .val (.ref b8), .val (.int (1 : Int32))] [(.int (1 : Int32))]))
  refine own_go (fun _ => XS.istore X40.here hx rfl (hb hby at_498) rfl (l' := #[.val (.int p1), .val (.int p2), .val (.int p3), .val (.int p4), .val (.int (own_v0_11 p1 p4)), .val (.int (p4 &&& (3 : Int32))), .val (.ref b8), .val (.int (1 : Int32))]) rfl) ?_
  show own_Go p.tables e below _ (T40.setTop (mkF m 500 #[.val (.int p1), .val (.int p2), .val (.int p3), .val (.int p4), .val (.int (own_v0_11 p1 p4)), .val (.int (p4 &&& (3 : Int32))), .val (.ref b8), .val (.int (1 : Int32))] []))
  refine own_go (fun _ => XS.iload X40.here hx rfl (hb hby at_500) rfl) ?_
  show own_Go p.tables e below _ (T40.setTop (mkF m 502 #[.val (.int p1), .val (.int p2), .val (.int p3), .val (.int p4), .val (.int (own_v0_11 p1 p4)), .val (.int (p4 &&& (3 : Int32))), .val (.ref b8), .val (.int (1 : Int32))] [(.int (1 : Int32))]))
  refine own_go (fun _ => XS.aload X40.here hx rfl (hb hby at_502) rfl rfl) ?_
  show own_Go p.tables e below _ (T40.setTop (mkF m 504 #[.val (.int p1), .val (.int p2), .val (.int p3), .val (.int p4), .val (.int (own_v0_11 p1 p4)), .val (.int (p4 &&& (3 : Int32))), .val (.ref b8), .val (.int (1 : Int32))] [(.ref b8), (.int (1 : Int32))]))
  refine own_go (fun _ => XS.iloadN X40.here hx rfl (hb hby at_504) rfl) ?_
  show own_Go p.tables e below _ (T40.setTop (mkF m 505 #[.val (.int p1), .val (.int p2), .val (.int p3), .val (.int p4), .val (.int (own_v0_11 p1 p4)), .val (.int (p4 &&& (3 : Int32))), .val (.ref b8), .val (.int (1 : Int32))] [(.int p2), (.ref b8), (.int (1 : Int32))]))
  refine own_go (fun _ => XS.iload X40.here hx rfl (hb hby at_505) rfl) ?_
  show own_Go p.tables e below _ (T40.setTop (mkF m 507 #[.val (.int p1), .val (.int p2), .val (.int p3), .val (.int p4), .val (.int (own_v0_11 p1 p4)), .val (.int (p4 &&& (3 : Int32))), .val (.ref b8), .val (.int (1 : Int32))] [(.int (own_v0_11 p1 p4)), (.int p2), (.ref b8), (.int (1 : Int32))]))
  refine own_go (fun _ => XS.bipush X40.here hx rfl (hb hby at_507)) ?_
  show own_Go p.tables e below _ (T40.setTop (mkF m 509 #[.val (.int p1), .val (.int p2), .val (.int p3), .val (.int p4), .val (.int (own_v0_11 p1 p4)), .val (.int (p4 &&& (3 : Int32))), .val (.ref b8), .val (.int (1 : Int32))] [(.int (14 : Int32)), (.int (own_v0_11 p1 p4)), (.int p2), (.ref b8), (.int (1 : Int32))]))
  obtain ⟨v41, T41, L41, X41, hQ41, st41⟩ := own_tidyS X40 (Jvm.LawKit.callS X40 hx (y := (⟨"com/example/pathgauge/pathgauge/e1/MultiframeSearchTakePinLaw", "ts", "(III)I"⟩ : MethodName)) hown (mvT hZ (hw _ (List.mem_of_getElem? (i := 9) rfl))) (mvT hZ (hw _ (List.mem_of_getElem? (i := 10) rfl))) (mvT hZ (hw _ (List.mem_of_getElem? (i := 11) rfl))) (mvT hZ (hw _ (List.mem_of_getElem? (i := 12) rfl))) (by decide) (backOf (W := 2) (rm3 l Z a0 hw [] p2 (own_v0_11 p1 p4) (14 : Int32) T40.heap n0 (Nat.le_trans (Nat.le_trans (Nat.le_trans (Nat.le_trans (Nat.le_trans (Nat.le_trans (Nat.le_trans (Nat.le_trans (Nat.le_trans (Nat.le_trans (Nat.le_trans (Nat.le_trans (Nat.le_trans (Nat.le_trans (Nat.le_trans (Nat.le_trans (Nat.le_trans Z0 E8.1) Kc11.1) Kc13.1) Kc15.1) Kc17.1) Kc19.1) Kc21.1) Kc23.1) Kc24.1) Kc26.1) Kc28.1) Kc30.1) Kc32.1) Kc34.1) Kc36.1) Kc38.1) Kc40.1) ) hZ (hw _ (List.mem_of_getElem? (i := 12) rfl)) (hw _ (List.mem_of_getElem? (i := 11) rfl)) (by decide) (by decide)) (g := (mkF m 509 #[.val (.int p1), .val (.int p2), .val (.int p3), .val (.int p4), .val (.int (own_v0_11 p1 p4)), .val (.int (p4 &&& (3 : Int32))), .val (.ref b8), .val (.int (1 : Int32))] [(.int (14 : Int32)), (.int (own_v0_11 p1 p4)), (.int p2), (.ref b8), (.int (1 : Int32))])) rfl (by rw [hml]; rfl) (argsL := [(.int p2), (.int (own_v0_11 p1 p4)), (.int (14 : Int32))]) (rest := [(.ref b8), (.int (1 : Int32))]) (lenOf pd_1 rfl) rfl (by show 2 * 0 + _ ≤ _; exact Nat.le_of_eq rfl) (hb hby at_509) (fun _ _ => ⟨rfl, rfl, (by decide : 1 + 0 ≤ _), (by decide : 3 + 0 ≤ _)⟩)) (c' := 1) (n' := 3) rfl rfl
  obtain ⟨rfl, N41q, e41⟩ := hQ41
  have N41 := Fr.app N40 N41q
  refine own_go st41 ?_
  show own_Go p.tables e below _ (T41.setTop (mkF m 512 #[.val (.int p1), .val (.int p2), .val (.int p3), .val (.int p4), .val (.int (own_v0_11 p1 p4)), .val (.int (p4 &&& (3 : Int32))), .val (.ref b8), .val (.int (1 : Int32))] [(.int (own_f3 p2 (own_v0_11 p1 p4) (14 : Int32))), (.ref b8), (.int (1 : Int32))]))
  refine own_go (fun _ => XS.iconst X41.here hx rfl (hb hby at_512)) ?_
  show own_Go p.tables e below _ (T41.setTop (mkF m 513 #[.val (.int p1), .val (.int p2), .val (.int p3), .val (.int p4), .val (.int (own_v0_11 p1 p4)), .val (.int (p4 &&& (3 : Int32))), .val (.ref b8), .val (.int (1 : Int32))] [(.int (0 : Int32)), (.int (own_f3 p2 (own_v0_11 p1 p4) (14 : Int32))), (.ref b8), (.int (1 : Int32))]))
  obtain ⟨cq42, kq42, q42a, q42b, q42c⟩ := isOf hZ e41 F40_0
  obtain ⟨v42, T42, L42, X42, hQ42, st42⟩ := own_tidyV X41 (X41.virtualBack hx (y := (⟨"com/example/pathgauge/pathgauge/e1/MultiframeSearch", "take", "(IZ)Z"⟩ : MethodName)) (z := (⟨"com/example/pathgauge/pathgauge/e1/MultiframeSearch", "take", "(IZ)Z"⟩ : MethodName)) hown (mvT hZ (hw _ (List.mem_of_getElem? (i := 14) rfl))) (mvT hZ (hw _ (List.mem_of_getElem? (i := 15) rfl))) (notFace_of_selects (args := #[]) (mvT hZ (hw _ (List.mem_of_getElem? (i := 17) rfl)))) (mvT hZ (hw _ (List.mem_of_getElem? (i := 17) rfl))) (mvT hZ (hw _ (List.mem_of_getElem? (i := 16) rfl))) (by decide) (backOf (W := 1) (rm4o l Z a0 hw [] b8 (own_f3 p2 (own_v0_11 p1 p4) (14 : Int32)) (16 : Int32) (own_o14 p2 (own_v0_11 p1 p4)) (14 : Int32) T40.heap n0 (Nat.le_trans (Nat.le_trans (Nat.le_trans (Nat.le_trans (Nat.le_trans (Nat.le_trans (Nat.le_trans (Nat.le_trans (Nat.le_trans (Nat.le_trans (Nat.le_trans (Nat.le_trans (Nat.le_trans (Nat.le_trans (Nat.le_trans (Nat.le_trans (Nat.le_trans Z0 E8.1) Kc11.1) Kc13.1) Kc15.1) Kc17.1) Kc19.1) Kc21.1) Kc23.1) Kc24.1) Kc26.1) Kc28.1) Kc30.1) Kc32.1) Kc34.1) Kc36.1) Kc38.1) Kc40.1) G40_1 F40_0 g_b8 G40_2 G40_3) hZ (hw _ (List.mem_of_getElem? (i := 18) rfl)) (hw _ (List.mem_of_getElem? (i := 2) rfl)) (by decide) (by decide)) q42a q42c (g := (mkF m 513 #[.val (.int p1), .val (.int p2), .val (.int p3), .val (.int p4), .val (.int (own_v0_11 p1 p4)), .val (.int (p4 &&& (3 : Int32))), .val (.ref b8), .val (.int (1 : Int32))] [(.int (0 : Int32)), (.int (own_f3 p2 (own_v0_11 p1 p4) (14 : Int32))), (.ref b8), (.int (1 : Int32))])) rfl (by rw [hml]; rfl) (Steps.refl _) (argsL := [(.int (own_f3 p2 (own_v0_11 p1 p4) (14 : Int32))), (.int (0 : Int32))]) (rest := [(.int (1 : Int32))]) (lenOf pd_2 rfl) rfl (by show 2 * 0 + _ ≤ _; exact Nat.le_of_eq rfl) (hb hby at_513) (fun _ _ => ⟨rfl, e41, (by decide : 1 + 0 ≤ _), (by decide : 3 + 0 ≤ _)⟩)) (c' := 1) (n' := 3) rfl rfl
  obtain ⟨rfl, N42q, Kc42, F42_0, F42_1, F42_2, F42_3⟩ := hQ42
  have N42 := Fr.app N41 N42q
  refine own_via st42 ?_
  have K42 : Keep h0 T42.heap [] := K40.trans Kc42 (allS (Or.inr sz_b8) all0)
  have G42_1 : Fld Z T42.heap b8 "com/example/pathgauge/pathgauge/e1/MultiframeSearch" "frames" "I" (.int (17 : Int32)) := F42_1
  have G42_2 : Fld Z T42.heap b8 "com/example/pathgauge/pathgauge/e1/MultiframeSearch" "oddFrameBits" "I" (.int (own_o15 p2 (own_v0_11 p1 p4))) := F42_2
  have G42_3 : Fld Z T42.heap b8 "com/example/pathgauge/pathgauge/e1/MultiframeSearch" "oddFrames" "I" (.int (15 : Int32)) := F42_3
  show own_Go p.tables e below _ (T42.setTop (mkF m 516 #[.val (.int p1), .val (.int p2), .val (.int p3), .val (.int p4), .val (.int (own_v0_11 p1 p4)), .val (.int (p4 &&& (3 : Int32))), .val (.ref b8), .val (.int (1 : Int32))] [(.int (own_f4o (own_f3 p2 (own_v0_11 p1 p4) (14 : Int32)) (own_o14 p2 (own_v0_11 p1 p4)) (14 : Int32))), (.int (1 : Int32))]))
  show own_Go p.tables e below _ (T42.setTop (mkF m 516 #[.val (.int p1), .val (.int p2), .val (.int p3), .val (.int p4), .val (.int (own_v0_11 p1 p4)), .val (.int (p4 &&& (3 : Int32))), .val (.ref b8), .val (.int (1 : Int32))] [(.int (own_f4o (own_f3 p2 (own_v0_11 p1 p4) (14 : Int32)) (own_o14 p2 (own_v0_11 p1 p4)) (14 : Int32))), (.int (1 : Int32))]))
  refine own_go (fun _ => XS.iload X42.here hx rfl (hb hby at_516) rfl) ?_
  show own_Go p.tables e below _ (T42.setTop (mkF m 518 #[.val (.int p1), .val (.int p2), .val (.int p3), .val (.int p4), .val (.int (own_v0_11 p1 p4)), .val (.int (p4 &&& (3 : Int32))), .val (.ref b8), .val (.int (1 : Int32))] [(.int (own_v0_11 p1 p4)), (.int (own_f4o (own_f3 p2 (own_v0_11 p1 p4) (14 : Int32)) (own_o14 p2 (own_v0_11 p1 p4)) (14 : Int32))), (.int (1 : Int32))]))
  refine own_go (fun _ => XS.iconst X42.here hx rfl (hb hby at_518)) ?_
  show own_Go p.tables e below _ (T42.setTop (mkF m 519 #[.val (.int p1), .val (.int p2), .val (.int p3), .val (.int p4), .val (.int (own_v0_11 p1 p4)), .val (.int (p4 &&& (3 : Int32))), .val (.ref b8), .val (.int (1 : Int32))] [(.int (1 : Int32)), (.int (own_v0_11 p1 p4)), (.int (own_f4o (own_f3 p2 (own_v0_11 p1 p4) (14 : Int32)) (own_o14 p2 (own_v0_11 p1 p4)) (14 : Int32))), (.int (1 : Int32))]))
  obtain ⟨v43, T43, L43, X43, hQ43, st43⟩ := own_tidyS X42 (Jvm.LawKit.callS X42 hx (y := (⟨"com/example/pathgauge/pathgauge/e1/MultiframeSearchTakePinLaw", "mfas", "(II)Z"⟩ : MethodName)) hown (mvT hZ (hw _ (List.mem_of_getElem? (i := 25) rfl))) (mvT hZ (hw _ (List.mem_of_getElem? (i := 26) rfl))) (mvT hZ (hw _ (List.mem_of_getElem? (i := 11) rfl))) (mvT hZ (hw _ (List.mem_of_getElem? (i := 27) rfl))) (by decide) (backOf (W := 2) (rm5 l Z a0 hw [] (own_v0_11 p1 p4) (1 : Int32) T42.heap n0 (Nat.le_trans (Nat.le_trans (Nat.le_trans (Nat.le_trans (Nat.le_trans (Nat.le_trans (Nat.le_trans (Nat.le_trans (Nat.le_trans (Nat.le_trans (Nat.le_trans (Nat.le_trans (Nat.le_trans (Nat.le_trans (Nat.le_trans (Nat.le_trans (Nat.le_trans (Nat.le_trans Z0 E8.1) Kc11.1) Kc13.1) Kc15.1) Kc17.1) Kc19.1) Kc21.1) Kc23.1) Kc24.1) Kc26.1) Kc28.1) Kc30.1) Kc32.1) Kc34.1) Kc36.1) Kc38.1) Kc40.1) Kc42.1) ) hZ (hw _ (List.mem_of_getElem? (i := 27) rfl)) (hw _ (List.mem_of_getElem? (i := 11) rfl)) (by decide) (by decide)) (g := (mkF m 519 #[.val (.int p1), .val (.int p2), .val (.int p3), .val (.int p4), .val (.int (own_v0_11 p1 p4)), .val (.int (p4 &&& (3 : Int32))), .val (.ref b8), .val (.int (1 : Int32))] [(.int (1 : Int32)), (.int (own_v0_11 p1 p4)), (.int (own_f4o (own_f3 p2 (own_v0_11 p1 p4) (14 : Int32)) (own_o14 p2 (own_v0_11 p1 p4)) (14 : Int32))), (.int (1 : Int32))])) rfl (by rw [hml]; rfl) (argsL := [(.int (own_v0_11 p1 p4)), (.int (1 : Int32))]) (rest := [(.int (own_f4o (own_f3 p2 (own_v0_11 p1 p4) (14 : Int32)) (own_o14 p2 (own_v0_11 p1 p4)) (14 : Int32))), (.int (1 : Int32))]) (lenOf pd_3 rfl) rfl (by show 2 * 0 + _ ≤ _; exact Nat.le_of_eq rfl) (hb hby at_519) (fun _ _ => ⟨rfl, rfl, (by decide : 1 + 0 ≤ _), (by decide : 3 + 0 ≤ _)⟩)) (c' := 1) (n' := 3) rfl rfl
  obtain ⟨rfl, N43q, e43⟩ := hQ43
  have N43 := Fr.app N42 N43q
  refine own_go st43 ?_
  show own_Go p.tables e below _ (T43.setTop (mkF m 522 #[.val (.int p1), .val (.int p2), .val (.int p3), .val (.int p4), .val (.int (own_v0_11 p1 p4)), .val (.int (p4 &&& (3 : Int32))), .val (.ref b8), .val (.int (1 : Int32))] [(.int (own_f5 (own_v0_11 p1 p4) (1 : Int32))), (.int (own_f4o (own_f3 p2 (own_v0_11 p1 p4) (14 : Int32)) (own_o14 p2 (own_v0_11 p1 p4)) (14 : Int32))), (.int (1 : Int32))]))
  refine own_go (fun _ => XS.icmpNo X43.here hx rfl (hb hby at_522) rfl (teq (own_p14 p2 (own_v0_11 p1 p4))).2) ?_
  show own_Go p.tables e below _ (T43.setTop (mkF m 525 #[.val (.int p1), .val (.int p2), .val (.int p3), .val (.int p4), .val (.int (own_v0_11 p1 p4)), .val (.int (p4 &&& (3 : Int32))), .val (.ref b8), .val (.int (1 : Int32))] [(.int (1 : Int32))]))
  refine own_go (fun _ => XS.iconst X43.here hx rfl (hb hby at_525)) ?_
  show own_Go p.tables e below _ (T43.setTop (mkF m 526 #[.val (.int p1), .val (.int p2), .val (.int p3), .val (.int p4), .val (.int (own_v0_11 p1 p4)), .val (.int (p4 &&& (3 : Int32))), .val (.ref b8), .val (.int (1 : Int32))] [(.int (1 : Int32)), (.int (1 : Int32))]))
  refine own_go (fun _ => XS.goto X43.here hx rfl (pc0 := 526) (pc' := 530) rfl (hb hby at_526) (by decide) (by decide)) ?_
  show own_Go p.tables e below _ (T43.setTop (mkF m 530 #[.val (.int p1), .val (.int p2), .val (.int p3), .val (.int p4), .val (.int (own_v0_11 p1 p4)), .val (.int (p4 &&& (3 : Int32))), .val (.ref b8), .val (.int (1 : Int32))] [(.int (1 : Int32)), (.int (1 : Int32))]))
  refine own_go (fun _ => XS.iand X43.here hx rfl (hb hby at_530) rfl) ?_
  show own_Go p.tables e below _ (T43.setTop (mkF m 531 #[.val (.int p1), .val (.int p2), .val (.int p3), .val (.int p4), .val (.int (own_v0_11 p1 p4)), .val (.int (p4 &&& (3 : Int32))), .val (.ref b8), .val (.int (1 : Int32))] [(.int ((1 : Int32) &&& (1 : Int32)))]))
  rw [show ((1 : Int32) &&& (1 : Int32)) = (1 : Int32) from by decide]
  show own_Go p.tables e below _ (T43.setTop (mkF m 531 #[.val (.int p1), .val (.int p2), .val (.int p3), .val (.int p4), .val (.int (own_v0_11 p1 p4)), .val (.int (p4 &&& (3 : Int32))), .val (.ref b8), .val (.int (1 : Int32))] [(.int (1 : Int32))]))
  refine own_go (fun _ => XS.istore X43.here hx rfl (hb hby at_531) rfl (l' := #[.val (.int p1), .val (.int p2), .val (.int p3), .val (.int p4), .val (.int (own_v0_11 p1 p4)), .val (.int (p4 &&& (3 : Int32))), .val (.ref b8), .val (.int (1 : Int32))]) rfl) ?_
  show own_Go p.tables e below _ (T43.setTop (mkF m 533 #[.val (.int p1), .val (.int p2), .val (.int p3), .val (.int p4), .val (.int (own_v0_11 p1 p4)), .val (.int (p4 &&& (3 : Int32))), .val (.ref b8), .val (.int (1 : Int32))] []))
  refine own_go (fun _ => XS.iload X43.here hx rfl (hb hby at_533) rfl) ?_
  show own_Go p.tables e below _ (T43.setTop (mkF m 535 #[.val (.int p1), .val (.int p2), .val (.int p3), .val (.int p4), .val (.int (own_v0_11 p1 p4)), .val (.int (p4 &&& (3 : Int32))), .val (.ref b8), .val (.int (1 : Int32))] [(.int (1 : Int32))]))
  refine own_retN X43 Bd.notSynchronized hx (t := .boolean) Bd.returns (by simp) (hb hby at_535) (show Q0 Z p1 p2 p3 p4 h0 n0 _ T43.heap _ from by rw [e43]; exact ⟨rfl, N43⟩) (by decide) (by decide)
set_option maxRecDepth 65536 in
set_option maxHeartbeats 40000000 in
theorem comes_1 {Post : Tables → Env → Array Value → State → Outcome → State → Prop} (hpost : ∀ tb e args s v u, (limb_1_1.after args s (.returned v) u = true ∧ limb_1_2.after args s (.returned v) u = true ∧ True) → FrameEnd s (.returned v) u (Jvm.fieldLocs frame_1_writes args s ++ Jvm.arrayLocs frame_1_arrays args s ++ Jvm.staticLocs frame_1_statics s) 16 128 → Post tb e args s (.returned v) u) :
    ArmFor flags0 classFile x code maxLocals ret World_1 tables_1 room_1 Calls_1 rest_1 Pre_1 Post := by
  intro l hfl _ _ p e ha hc hk s m args below hf hA hF happ hP
  obtain ⟨hcalls, hrest, hpre⟩ := hP
  obtain ⟨-, -, -, hnamed, -, -, -, hat⟩ := (Spec.applies_iff hf).mp happ
  obtain ⟨hg, hn⟩ := and_e (Cond.before_iff.mp (show (Jvm.Cond.and given_1 narrow_1).before args s = true from hpre))
  obtain ⟨g1, g2⟩ := and_e hg
  obtain ⟨g3, g4⟩ := and_e g2
  obtain ⟨g5, g6⟩ := and_e g4
  obtain ⟨g7, g8⟩ := and_e g6
  obtain ⟨w0, w1, w2, w3, rfl⟩ : ∃ w0 w1 w2 w3 : Value, args = #[w0, w1, w2, w3] := by
    have hs : args.size = 4 := by simpa [Cond.value, given_1] using g1
    obtain ⟨L⟩ := args
    match L, hs with
    | [w0, w1, w2, w3], _ => exact ⟨w0, w1, w2, w3, rfl⟩
  have hw := fun d (hd : d ∈ tables_1) => atoms_spec (ws := Jvm.Cond.code x code maxLocals ret :: tables_1) hat d (List.mem_cons_of_mem _ hd)
  have hfit : Fit s := fun {y c} hc i hi => by
    obtain ⟨ha, rfl⟩ := Array.getElem?_eq_some_iff.mp hc
    have q := List.all_eq_true.mp ((Array.all_eq_true_iff_forall_mem.mp hF) _ (Array.getElem_mem ha)) i (List.mem_range.mpr hi)
    simpa [Array.getElem?_eq_getElem hi] using q
  obtain ⟨i0, ei0⟩ := is_v g3
  obtain rfl : w0 = (.int i0) := Option.some.inj ei0
  obtain ⟨i1, ei1⟩ := is_v g5
  obtain rfl : w1 = (.int i1) := Option.some.inj ei1
  obtain ⟨i2, ei2⟩ := is_v g7
  obtain rfl : w2 = (.int i2) := Option.some.inj ei2
  obtain ⟨i3, ei3⟩ := is_v g8
  obtain rfl : w3 = (.int i3) := Option.some.inj ei3
  obtain ⟨n, o, h1, h2, h3, _, L, rfl, ⟨rfl, N⟩, hq⟩ := rm0 l s _ hw tables_1 i0 i1 i2 i3  s.heap s.heap.size (Nat.le_refl _)   p e ha hc hk s m _ below hf ((Spec.applies_iff_loose hf).mp happ).1 ⟨rfl, State.Warmed39.refl s, rfl⟩ trivial
  refine ⟨n, _, h1, h2, h3, hpost _ _ _ _ _ _ ⟨Cond.after_iff.mpr rfl, Cond.after_iff.mpr (eq_i res_at (Term.int_eval (1)) rfl), trivial⟩ ⟨hq.1, hq.2.1, (hq.2.2.sift fun y hy => Or.inr (N y hy)).mono (by decide) (by decide)⟩⟩
theorem main_1_1 : Claimed_1_1 := comes_1 fun _ _ _ _ _ _ h hF => ⟨h.1, hF⟩
theorem main_1_2 : Claimed_1_2 := comes_1 fun _ _ _ _ _ _ h hF => ⟨h.2.1, hF⟩
end Jvm.Pilot.@@N@@
namespace Jvm.Pilot.@@N@@
open Jvm Jvm.ClassFile Sem Op Lib Jvm.Free Jvm.Stand Jvm.Pilot.@@N@@.Jvm.D
/-! MADE BY PROGRAM (witnessworld.py) out of the Statement's table words and the real class files: 9 classes; the members and pool entries that the words name. The judged class is class 1, her method 3. -/
namespace start1
open Jvm.ClassFile
def u (s : String) : CpInfo := .utf8 (stringToUtf16 s)
/-- a pool by its gaps: so many unusable entries, then the entry; so many at the end -/
def gap : Nat → List CpInfo → List CpInfo
  | 0, r => r
  | n + 1, r => .unusable :: gap n r
def poolList (es : List (Nat × CpInfo)) (last : Nat) : List CpInfo := es.foldr (fun e r => gap e.1 (e.2 :: r)) (gap last [])
def pool (es : List (Nat × CpInfo)) (last : Nat) : Array CpInfo := ⟨poolList es last⟩
def fileOf (pool : Array CpInfo) (this : Nat) (attrs : Array Attribute := #[]) (ms : Array MethodInfo := #[]) (fl : Nat := 33) (sup : Nat := 0) (ifs : Array Nat := #[]) (fds : Array FieldInfo := #[]) : ClassFile where
  minorVersion := 0
  majorVersion := 65
  constantPool := pool
  accessFlags := fl
  thisClass := this
  superClass := sup
  interfaces := ifs
  fields := fds
  methods := ms
  attributes := attrs
def plain (name : String) (sup : Option ClassId) : Class where
  name := name
  kind := .ordinary
  loader := none
  accessFlags := 33
  super := sup
  interfaces := #[]
  cf := none
  fields := #[]
  methods := #[]
  instanceTypes := #[]
  staticTypes := #[]
  resolved := #[]
  callSites := []
  init := .initialized
  statics := none
  mirror := none

def pool0 : Array CpInfo := pool [(5, u "<init>"), (0, u "()V"), (1, .class_ 10), (1, u "java/lang/Object")] 113

def k0c0 : Code := { maxStack := 0, maxLocals := 1, code := object_method_1_code, exceptionTable := #[], attributes := #[] }
def k0m0 : Method := { name := "<init>", desc := "()V", sig := { parameters := [], returnType := none }, accessFlags := 1, code := some k0c0 }
/-- java/lang/Object -/
def k0 : Class := { plain "java/lang/Object" none with
  accessFlags := 33
  interfaces := #[]
  cf := some (fileOf pool0 8 #[] #[{ accessFlags := 1, nameIndex := 5, descriptorIndex := 6, attributes := #[] }] 33 0 #[] #[])
  fields := #[]
  methods := #[k0m0]
  instanceTypes := #[]
  staticTypes := #[]
  resolved := Array.replicate 124 none
  statics := none }

def pool1 : Array CpInfo := pool [(2, .class_ 4), (0, .nameAndType 5 6), (0, u "java/lang/Object"), (0, u "<init>"), (0, u "()V"), (0, .integer 16777619), (0, .class_ 9), (0, u "com/example/pathgauge/pathgauge/e1/MultiframeSearch"), (0, .methodref 8 3), (0, .methodref 12 13), (0, .class_ 14), (0, .nameAndType 15 16), (0, u "com/example/pathgauge/pathgauge/e1/MultiframeSearchTakePinLaw"), (0, u "ts"), (0, u "(III)I"), (0, .methodref 8 18), (0, .nameAndType 19 20), (0, u "take"), (0, u "(IZ)Z"), (0, .methodref 12 22), (0, .nameAndType 23 24), (0, u "mfas"), (0, u "(II)Z"), (3, u "law"), (0, u "(IIII)Z")] 2

def k1m0 : Method := { name := "<init>", desc := "()V", sig := { parameters := [], returnType := none }, accessFlags := 1, code := none }
def k1c1 : Code := { maxStack := 3, maxLocals := 3, code := method_2_code, exceptionTable := #[], attributes := #[] }
def k1m1 : Method := { name := "ts", desc := "(III)I", sig := { parameters := [.int, .int, .int], returnType := some .int }, accessFlags := 10, code := some k1c1 }
def k1c2 : Code := { maxStack := 3, maxLocals := 2, code := method_3_code, exceptionTable := #[], attributes := #[] }
def k1m2 : Method := { name := "mfas", desc := "(II)Z", sig := { parameters := [.int, .int], returnType := some .boolean }, accessFlags := 10, code := some k1c2 }
def k1c3 : Code := { maxStack := 5, maxLocals := 8, code := code, exceptionTable := #[], attributes := #[] }
def k1m3 : Method := { name := "law", desc := "(IIII)Z", sig := { parameters := [.int, .int, .int, .int], returnType := some .boolean }, accessFlags := 9, code := some k1c3 }
/-- com/example/pathgauge/pathgauge/e1/MultiframeSearchTakePinLaw -/
def k1 : Class := { plain "com/example/pathgauge/pathgauge/e1/MultiframeSearchTakePinLaw" (some 0) with
  accessFlags := 49
  interfaces := #[]
  cf := some (fileOf pool1 12 #[] #[{ accessFlags := 1, nameIndex := 5, descriptorIndex := 6, attributes := #[] }, { accessFlags := 10, nameIndex := 15, descriptorIndex := 16, attributes := #[] }, { accessFlags := 10, nameIndex := 23, descriptorIndex := 24, attributes := #[] }, { accessFlags := 9, nameIndex := 28, descriptorIndex := 29, attributes := #[] }] 49 2 #[] #[])
  fields := #[]
  methods := #[k1m0, k1m1, k1m2, k1m3]
  instanceTypes := #[]
  staticTypes := #[]
  resolved := Array.replicate 32 none
  statics := none }

def pool2 : Array CpInfo := pool [(1, .methodref 2 3), (0, .class_ 4), (0, .nameAndType 5 6), (0, u "java/lang/Object"), (0, u "<init>"), (0, u "()V"), (0, .fieldref 8 9), (0, .class_ 10), (0, .nameAndType 11 12), (0, u "com/example/pathgauge/pathgauge/e1/MultiframeSearch"), (0, u "frames"), (0, u "I"), (0, .fieldref 8 14), (0, .nameAndType 15 12), (0, u "oddFrameBits"), (0, .fieldref 8 17), (0, .nameAndType 18 12), (0, u "oddFrames"), (2, u "FOUND_FRAME"), (2, u "DEADLINE"), (1, u "MFAS_TWICE"), (1, u "MFAS_TWICE_MASK"), (1, u "MFAS_TWICE_FRAMES"), (4, u "take"), (0, u "(IZ)Z")] 5

def k2c0 : Code := { maxStack := 1, maxLocals := 1, code := prog_23_method_1_code, exceptionTable := #[], attributes := #[] }
def k2m0 : Method := { name := "<init>", desc := "()V", sig := { parameters := [], returnType := none }, accessFlags := 0, code := some k2c0 }
def k2c1 : Code := { maxStack := 4, maxLocals := 4, code := prog_23_method_3_code, exceptionTable := #[], attributes := #[] }
def k2m1 : Method := { name := "take", desc := "(IZ)Z", sig := { parameters := [.int, .boolean], returnType := some .boolean }, accessFlags := 0, code := some k2c1 }
/-- com/example/pathgauge/pathgauge/e1/MultiframeSearch -/
def k2 : Class := { plain "com/example/pathgauge/pathgauge/e1/MultiframeSearch" (some 0) with
  accessFlags := 48
  interfaces := #[]
  cf := some (fileOf pool2 8 #[] #[{ accessFlags := 0, nameIndex := 5, descriptorIndex := 6, attributes := #[] }, { accessFlags := 0, nameIndex := 35, descriptorIndex := 36, attributes := #[] }] 48 2 #[] #[{ accessFlags := 24, nameIndex := 21, descriptorIndex := 12, attributes := #[] }, { accessFlags := 26, nameIndex := 24, descriptorIndex := 12, attributes := #[] }, { accessFlags := 26, nameIndex := 26, descriptorIndex := 12, attributes := #[] }, { accessFlags := 26, nameIndex := 28, descriptorIndex := 12, attributes := #[] }, { accessFlags := 26, nameIndex := 30, descriptorIndex := 12, attributes := #[] }, { accessFlags := 2, nameIndex := 11, descriptorIndex := 12, attributes := #[] }, { accessFlags := 2, nameIndex := 15, descriptorIndex := 12, attributes := #[] }, { accessFlags := 2, nameIndex := 18, descriptorIndex := 12, attributes := #[] }])
  fields := #[{ name := "FOUND_FRAME", type := .int, accessFlags := 24, slot := 0, constantValue := 0 }, { name := "DEADLINE", type := .int, accessFlags := 26, slot := 1, constantValue := 0 }, { name := "MFAS_TWICE", type := .int, accessFlags := 26, slot := 2, constantValue := 0 }, { name := "MFAS_TWICE_MASK", type := .int, accessFlags := 26, slot := 3, constantValue := 0 }, { name := "MFAS_TWICE_FRAMES", type := .int, accessFlags := 26, slot := 4, constantValue := 0 }, { name := "frames", type := .int, accessFlags := 2, slot := 0, constantValue := 0 }, { name := "oddFrameBits", type := .int, accessFlags := 2, slot := 1, constantValue := 0 }, { name := "oddFrames", type := .int, accessFlags := 2, slot := 2, constantValue := 0 }]
  methods := #[k2m0, k2m1]
  instanceTypes := #[.int, .int, .int]
  staticTypes := #[.int, .int, .int, .int, .int]
  resolved := Array.replicate 42 none
  statics := none }

def pool3 : Array CpInfo := pool [(1, u "java/lang/Cloneable"), (0, .class_ 1), (0, u "java/lang/Object"), (0, .class_ 3)] 3

/-- java/lang/Cloneable -/
def k3 : Class := { plain "java/lang/Cloneable" (some 0) with
  accessFlags := 1537
  interfaces := #[]
  cf := some (fileOf pool3 2 #[] #[] 1537 4 #[] #[])
  fields := #[]
  methods := #[]
  instanceTypes := #[]
  staticTypes := #[]
  resolved := Array.replicate 8 none
  statics := none }

def pool4 : Array CpInfo := pool [(1, u "java/io/Serializable"), (0, .class_ 1), (0, u "java/lang/Object"), (0, .class_ 3)] 3

/-- java/io/Serializable -/
def k4 : Class := { plain "java/io/Serializable" (some 0) with
  accessFlags := 1537
  interfaces := #[]
  cf := some (fileOf pool4 2 #[] #[] 1537 4 #[] #[])
  fields := #[]
  methods := #[]
  instanceTypes := #[]
  staticTypes := #[]
  resolved := Array.replicate 8 none
  statics := none }

/-- the primitive byte -/
def k5 : Class := { plain "byte" none with kind := .primitive 'B', accessFlags := 0x411 }
/-- [B -/
def k6 : Class := { plain "[B" (some 0) with kind := .array 5 .byte, interfaces := #[3, 4], accessFlags := 1041 }

/-- the primitive int -/
def k7 : Class := { plain "int" none with kind := .primitive 'I', accessFlags := 0x411 }
/-- [I -/
def k8 : Class := { plain "[I" (some 0) with kind := .array 7 .int, interfaces := #[3, 4], accessFlags := 1041 }

def heap : Heap := #[]
def classes : Array Class := #[k0, k1, k2, k3, k4, k5, k6, k7, k8]
def interned : List (Array UInt16 × Addr) := []
def slotsUsed : Nat := 0
def theMethod : MethodId := ⟨1, 3⟩
def args0 : Array Value := #[.int 5, .int 7, .int 1, .int 1]
def aboutOver (below : List Frame) : State where
  vm := { classes := classes, interned := interned.toArray }
  heap := heap
  slotsUsed := slotsUsed
  threads := #[{ frames := .invoking theMethod args0 :: below }]
def below0 : List Frame := [.native { method := ⟨0, 0⟩, args := #[] }]
def about1 : State := aboutOver below0
def p0 : Program := .bare "" "" ""
def e0 : Env := launch0.env 0 0 0
theorem w_frames : about1.frames = Frame.invoking theMethod args0 :: below0 := rfl
set_option maxRecDepth 65536 in
theorem w_args : argsFit about1.vm theMethod args0 = true := by decide +kernel
set_option maxRecDepth 65536 in
theorem w_heap : heapFits about1 = true := by decide +kernel
set_option maxRecDepth 65536 in
theorem w_runnable : about1.curStatus? = some .runnable := by decide +kernel
set_option maxRecDepth 65536 in
theorem w_alone : about1.alone = true := by decide +kernel
set_option maxRecDepth 65536 in
theorem w_named : about1.methodNamed? x = some theMethod := by decide +kernel
set_option maxRecDepth 65536 in
theorem w_hears : about1.hears theMethod below0 = true := by decide +kernel
set_option maxRecDepth 65536 in
theorem w_ripe : about1.ripe theMethod args0 below0 = true := by decide +kernel
theorem w_running : about1.status = .running := rfl
set_option maxRecDepth 65536 in
theorem w_room : about1.hasRoom e0.platform room_1 = true :=
  launch0.hasRoom_least _ room_1 (by decide +kernel) (by decide +kernel) (by decide +kernel) (by decide +kernel) (by decide +kernel) (by decide +kernel)
theorem allAtoms_all (ts : List Jvm.Cond) (a : Array Jvm.Value) (st : Jvm.State) : (allAtoms ts).before a st = ts.all (fun c => c.before a st) := by
  induction ts with
  | nil => rfl
  | cons c t ih =>
    show (Jvm.Cond.and c (allAtoms t)).before a st = _
    rw [Jvm.Cond.before_and, ih, List.all_cons]
def words1 : List Jvm.Cond := Jvm.Cond.code x code maxLocals ret :: tables_1
/-- a 'code' word, met by the world's own term for the bytes: nothing is compared byte by byte -/
theorem code_word {y : MethodName} {bytes : ByteArray} {mx : Nat} {rt : Option FieldType} {a : Array Value} {s : State} {m : MethodId} {meth : Method} {c : Code} (h1 : s.methodNamed? y = some m) (h2 : s.vm.method? m = some meth) (h3 : meth.code = some c) (h4 : c.code = bytes)
    (h5 : (c.maxLocals == mx && c.exceptionTable.isEmpty && decide (c.maxStack ≤ mostOperands) && decide (meth.sig.returnType = rt) && !meth.locks && decide (parseMethodDescriptor y.desc = some meth.sig)) = true) : (Jvm.Cond.code y bytes mx rt).before a s = true := by
  simp only [Bool.and_eq_true, beq_iff_eq, Bool.not_eq_true', decide_eq_true_eq] at h5
  obtain ⟨⟨⟨⟨⟨g1, g2⟩, g3⟩, g4⟩, g5⟩, g6⟩ := h5
  simp [Cond.before, Cond.holds, Cond.value, h1, h2, h3, h4, g1, g2, g3, g4, g5, g6]
def isCode : Jvm.Cond → Bool
  | .code _ _ _ _ => true
  | _ => false
theorem all_split {L : List Jvm.Cond} {P : Jvm.Cond → Bool} (h1 : L.all (fun c => isCode c || P c) = true) (h2 : ∀ c ∈ L.filter isCode, P c = true) : L.all P = true := by
  refine List.all_eq_true.mpr fun c hc => ?_
  have h := List.all_eq_true.mp h1 c hc
  rcases Bool.eq_false_or_eq_true (isCode c) with hi | hi
  · exact h2 c (List.mem_filter.mpr ⟨hc, hi⟩)
  · simpa [hi] using h
set_option maxRecDepth 65536 in
theorem w_c0 : (Jvm.Cond.code x code maxLocals ret).before args0 about1 = true := code_word (m := ⟨1, 3⟩) (meth := k1m3) (c := k1c3) (by decide +kernel) rfl rfl rfl (by decide +kernel)
set_option maxRecDepth 65536 in
theorem w_c1 : (Jvm.Cond.code ({ cls := "com/example/pathgauge/pathgauge/e1/MultiframeSearch", name := "<init>", desc := "()V" } : Jvm.MethodName) prog_23_method_1_code (1 : Nat) (Option.none : Option Jvm.ClassFile.FieldType)).before args0 about1 = true := code_word (m := ⟨2, 0⟩) (meth := k2m0) (c := k2c0) (by decide +kernel) rfl rfl rfl (by decide +kernel)
set_option maxRecDepth 65536 in
theorem w_c2 : (Jvm.Cond.code ({ cls := "java/lang/Object", name := "<init>", desc := "()V" } : Jvm.MethodName) object_method_1_code (1 : Nat) (Option.none : Option Jvm.ClassFile.FieldType)).before args0 about1 = true := code_word (m := ⟨0, 0⟩) (meth := k0m0) (c := k0c0) (by decide +kernel) rfl rfl rfl (by decide +kernel)
set_option maxRecDepth 65536 in
theorem w_c3 : (Jvm.Cond.code ({ cls := "com/example/pathgauge/pathgauge/e1/MultiframeSearchTakePinLaw", name := "ts", desc := "(III)I" } : Jvm.MethodName) method_2_code (3 : Nat) (Option.some Jvm.ClassFile.FieldType.int)).before args0 about1 = true := code_word (m := ⟨1, 1⟩) (meth := k1m1) (c := k1c1) (by decide +kernel) rfl rfl rfl (by decide +kernel)
set_option maxRecDepth 65536 in
theorem w_c4 : (Jvm.Cond.code ({ cls := "com/example/pathgauge/pathgauge/e1/MultiframeSearch", name := "take", desc := "(IZ)Z" } : Jvm.MethodName) prog_23_method_3_code (4 : Nat) (Option.some Jvm.ClassFile.FieldType.boolean)).before args0 about1 = true := code_word (m := ⟨2, 1⟩) (meth := k2m1) (c := k2c1) (by decide +kernel) rfl rfl rfl (by decide +kernel)
set_option maxRecDepth 65536 in
theorem w_c5 : (Jvm.Cond.code ({ cls := "com/example/pathgauge/pathgauge/e1/MultiframeSearchTakePinLaw", name := "mfas", desc := "(II)Z" } : Jvm.MethodName) method_3_code (2 : Nat) (Option.some Jvm.ClassFile.FieldType.boolean)).before args0 about1 = true := code_word (m := ⟨1, 2⟩) (meth := k1m2) (c := k1c2) (by decide +kernel) rfl rfl rfl (by decide +kernel)
def codes1 : List Jvm.Cond := [Jvm.Cond.code x code maxLocals ret, Jvm.Cond.code ({ cls := "com/example/pathgauge/pathgauge/e1/MultiframeSearch", name := "<init>", desc := "()V" } : Jvm.MethodName) prog_23_method_1_code (1 : Nat) (Option.none : Option Jvm.ClassFile.FieldType), Jvm.Cond.code ({ cls := "java/lang/Object", name := "<init>", desc := "()V" } : Jvm.MethodName) object_method_1_code (1 : Nat) (Option.none : Option Jvm.ClassFile.FieldType), Jvm.Cond.code ({ cls := "com/example/pathgauge/pathgauge/e1/MultiframeSearchTakePinLaw", name := "ts", desc := "(III)I" } : Jvm.MethodName) method_2_code (3 : Nat) (Option.some Jvm.ClassFile.FieldType.int), Jvm.Cond.code ({ cls := "com/example/pathgauge/pathgauge/e1/MultiframeSearch", name := "take", desc := "(IZ)Z" } : Jvm.MethodName) prog_23_method_3_code (4 : Nat) (Option.some Jvm.ClassFile.FieldType.boolean), Jvm.Cond.code ({ cls := "com/example/pathgauge/pathgauge/e1/MultiframeSearchTakePinLaw", name := "mfas", desc := "(II)Z" } : Jvm.MethodName) method_3_code (2 : Nat) (Option.some Jvm.ClassFile.FieldType.boolean)]
set_option maxRecDepth 65536 in
theorem codes_eq : words1.filter isCode = codes1 := rfl
theorem w_codes : ∀ c ∈ words1.filter isCode, c.before args0 about1 = true := by
  rw [codes_eq]
  intro c hc
  simp only [codes1, List.mem_cons, List.not_mem_nil, or_false] at hc
  rcases hc with rfl | rfl | rfl | rfl | rfl | rfl
  · exact w_c0
  · exact w_c1
  · exact w_c2
  · exact w_c3
  · exact w_c4
  · exact w_c5
set_option maxRecDepth 65536 in
theorem w_t1 : (words1.take 24).all (fun c => isCode c || c.before args0 about1) = true := by decide +kernel
set_option maxRecDepth 65536 in
theorem w_t2 : (words1.drop 24).all (fun c => isCode c || c.before args0 about1) = true := by decide +kernel
theorem w_tables : (allAtoms (Jvm.Cond.code x code maxLocals ret :: tables_1)).before args0 about1 = true := by
  rw [allAtoms_all]
  show words1.all (fun c => c.before args0 about1) = true
  refine all_split ?_ w_codes
  rw [← List.take_append_drop 24 words1, List.all_append, w_t1, w_t2]
  rfl
set_option maxRecDepth 65536 in
theorem w_case : (Jvm.Cond.and given_1 narrow_1).before args0 about1 = true := by decide +kernel
theorem w_applies : (headSpec (Jvm.Cond.code x code maxLocals ret :: tables_1) room_1).applies x e0.platform about1 = true :=
  (Spec.applies_iff w_frames).mpr ⟨w_running, w_runnable, w_alone, w_named, w_hears, w_ripe, w_room, w_tables⟩
theorem atStart : AtStart classFile x code maxLocals ret World_1 tables_1 room_1 Calls_1 rest_1 Pre_1 launch0 p0 e0 about1 theMethod args0 below0 :=
  ⟨lists_1, trivial, launch0.admits_env _ _ _, launch0.least_env, fairChoices_fair.cas, fairChoices_fair.clock, w_frames, w_args, w_heap, w_applies, trivial, trivial, w_case⟩
end start1
theorem witness_1 : WitnessClaimed_1 := ⟨start1.p0, start1.e0, start1.about1, start1.theMethod, start1.args0, start1.below0, start1.atStart⟩
end Jvm.Pilot.@@N@@
