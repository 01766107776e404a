import JvmDerived
import JvmDerived.Pilot.@@N@@Statement
import JvmDerived.Pilot.@@N@@Code
set_option linter.unusedVariables false
set_option linter.unusedSimpArgs false
namespace Jvm.Pilot.@@N@@
open Jvm Jvm.ClassFile Sem Op Lib Jvm.Free Jvm.Stand Jvm.LawKit Jvm.RoadKit Bundle Jvm.Pilot.@@N@@.Jvm.D
/-- from the state S the run comes to an end that meets F -/
def own_Go (tb : Tables) (e : Env) (below : List Frame) (F : State → Outcome → Prop) (S : State) : Prop := ∃ s₂ o, Steps tb e below S s₂ ∧ F s₂ o
/-- the end: it returned what Q says, over the heap that Q says -/
def own_Fin (below : List Frame) (s : State) (Q : Option Value → Heap → List Loc → Prop) (k n : Nat) : State → Outcome → Prop := fun s₂ o => s₂.status = .running ∧ Ended s₂ below o ∧ ∃ v L, o = .returned v ∧ Q v s₂.heap L ∧ FrameEnd s o s₂ L k n
theorem own_go {tb : Tables} {e : Env} {below : List Frame} {F : State → Outcome → Prop} {S S' : State} (h : ∀ t, Steps tb e below S' t → Steps tb e below S t) (k : own_Go tb e below F S') : own_Go tb e below F S := by
  obtain ⟨t, o, h1, h2⟩ := k
  exact ⟨t, o, h t h1, h2⟩
theorem own_via {tb : Tables} {e : Env} {below : List Frame} {F : State → Outcome → Prop} {S S' : State} (h : Steps tb e below S S') (k : own_Go tb e below F S') : own_Go tb e below F S := by
  obtain ⟨t, o, h1, h2⟩ := k
  exact ⟨t, o, h.trans h1, h2⟩
section OwnRet
variable {p : Program} {l : Launch} {e : Env} {R : Room} {s : State} {m : MethodId} {args : Array Value} {below : List Frame} {meth : Method} {c : Code} {T : State} {locs : List Loc} {cells slots : Nat} {Q : Option Value → Heap → List Loc → Prop} {K N : Nat}
theorem own_retN (X : Stand p l e R s m args below meth c T locs cells slots) (hlocks : meth.locks = false) (hx : p.tables.exec = Jvm.exec) {pc : Nat} {Ls : Array Slot} {z : Int32} {rest : List Value} {t : FieldType} (hret : meth.sig.returnType = some t) (ht : t = .boolean ∨ t = .byte ∨ t = .char ∨ t = .short) (hd : decode c.code pc = .ok (.ireturn, 1)) (hQ : Q (some (.int (nar t z))) T.heap locs) (hk : cells ≤ K) (hn : slots ≤ N) :
    own_Go p.tables e below (own_Fin below s Q K N) (T.setTop (mkF m pc Ls (.int z :: rest))) := by
  obtain ⟨fs, hr, hrun, hended, hW, hsame⟩ := X.leave (v := some (.int (nar t z))) (fun h => by rw [hret] at h; cases h) hlocks
  exact ⟨_, _, retN X hx hret ht hd hr, hrun, hended, _, _, rfl, hQ, ⟨_, rfl⟩, hW, hsame.mono hk hn⟩
theorem own_retI (X : Stand p l e R s m args below meth c T locs cells slots) (hlocks : meth.locks = false) (hx : p.tables.exec = Jvm.exec) {pc : Nat} {Ls : Array Slot} {z : Int32} {rest : List Value} (hret : meth.sig.returnType = some .int) (hd : decode c.code pc = .ok (.ireturn, 1)) (hQ : Q (some (.int z)) T.heap locs) (hk : cells ≤ K) (hn : slots ≤ N) :
    own_Go p.tables e below (own_Fin below s Q K N) (T.setTop (mkF m pc Ls (.int z :: rest))) := by
  obtain ⟨fs, hr, hrun, hended, hW, hsame⟩ := X.leave (v := some (.int z)) (fun h => by rw [hret] at h; cases h) hlocks
  exact ⟨_, _, retOut X hx (i := .ireturn) hret rfl (Or.inl ⟨rfl, Or.inl rfl, _, rfl⟩) hd hr, hrun, hended, _, _, rfl, hQ, ⟨_, rfl⟩, hW, hsame.mono hk hn⟩
theorem own_retJ (X : Stand p l e R s m args below meth c T locs cells slots) (hlocks : meth.locks = false) (hx : p.tables.exec = Jvm.exec) {pc : Nat} {Ls : Array Slot} {z : Int64} {rest : List Value} (hret : meth.sig.returnType = some .long) (hd : decode c.code pc = .ok (.lreturn, 1)) (hQ : Q (some (.long z)) T.heap locs) (hk : cells ≤ K) (hn : slots ≤ N) :
    own_Go p.tables e below (own_Fin below s Q K N) (T.setTop (mkF m pc Ls (.long z :: rest))) := by
  obtain ⟨fs, hr, hrun, hended, hW, hsame⟩ := X.leave (v := some (.long z)) (fun h => by rw [hret] at h; cases h) hlocks
  exact ⟨_, _, retOut X hx (i := .lreturn) hret rfl (Or.inr (Or.inl ⟨rfl, rfl, _, rfl⟩)) hd hr, hrun, hended, _, _, rfl, hQ, ⟨_, rfl⟩, hW, hsame.mono hk hn⟩
theorem own_retA (X : Stand p l e R s m args below meth c T locs cells slots) (hlocks : meth.locks = false) (hx : p.tables.exec = Jvm.exec) {pc : Nat} {Ls : Array Slot} {w : Value} {rest : List Value} {t : FieldType} (hret : meth.sig.returnType = some t) (ht : t.isReference = true) (hn' : narrow t w = w) (hw : w.isRef = true) (hd : decode c.code pc = .ok (.areturn, 1)) (hQ : Q (some w) T.heap locs) (hk : cells ≤ K) (hn : slots ≤ N) :
    own_Go p.tables e below (own_Fin below s Q K N) (T.setTop (mkF m pc Ls (w :: rest))) := by
  obtain ⟨fs, hr, hrun, hended, hW, hsame⟩ := X.leave (v := some w) (fun h => by rw [hret] at h; cases h) hlocks
  exact ⟨_, _, retOut X hx (i := .areturn) hret hn' (Or.inr (Or.inr (Or.inr (Or.inr ⟨rfl, ht, hw⟩)))) hd hr, hrun, hended, _, _, rfl, hQ, ⟨_, rfl⟩, hW, hsame.mono hk hn⟩
theorem own_ret0 (X : Stand p l e R s m args below meth c T locs cells slots) (hlocks : meth.locks = false) (hx : p.tables.exec = Jvm.exec) {pc : Nat} {Ls : Array Slot} (hret : meth.sig.returnType = none) (hd : decode c.code pc = .ok (.return_, 1)) (hQ : Q none T.heap locs) (hk : cells ≤ K) (hn : slots ≤ N) :
    own_Go p.tables e below (own_Fin below s Q K N) (T.setTop (mkF m pc Ls [])) := by
  obtain ⟨fs, hr, hrun, hended, hW, hsame⟩ := X.leave (v := none) (fun _ => rfl) hlocks
  exact ⟨_, _, X.returnOut hx hret hd hr, hrun, hended, _, _, rfl, hQ, ⟨_, rfl⟩, hW, hsame.mono hk hn⟩
/-- the end where String constants may have been made meanwhile -/
def own_FinW (below : List Frame) (s : State) (Q : Option Value → Heap → List Loc → Prop) (k n : Nat) : State → Outcome → Prop := fun s₂ o => s₂.status = .running ∧ Ended s₂ below o ∧ ∃ v L, o = .returned v ∧ Q v s₂.heap L ∧ ReturnedEndW s o s₂ L k n
theorem own_more {s t : State} {o : Outcome} {L : List Loc} {k n K N : Nat} (h : ReturnedEndW s o t L k n) (hk : k ≤ K) (hn : n ≤ N) : ReturnedEndW s o t L K N := ⟨h.1, h.2.1, h.2.2.1, h.2.2.2.mono hk hn⟩
variable {vm₁ : Vm} {n₁ : Nat}
theorem own_retNW (X : Stand p l e R (s.setVm vm₁) m args below meth c T locs cells slots) (hS : s.Since vm₁ n₁) (hn₁ : n₁ ≤ T.heap.size) (hlocks : meth.locks = false) (hx : p.tables.exec = Jvm.exec) {pc : Nat} {Ls : Array Slot} {z : Int32} {rest : List Value} {t : FieldType} (hret : meth.sig.returnType = some t) (ht : t = .boolean ∨ t = .byte ∨ t = .char ∨ t = .short) (hd : decode c.code pc = .ok (.ireturn, 1)) (hQ : Q (some (.int (nar t z))) T.heap locs) (hk : cells ≤ K) (hn : slots ≤ N) :
    own_Go p.tables e below (own_FinW below s Q K N) (T.setTop (mkF m pc Ls (.int z :: rest))) := by
  obtain ⟨fs, hr, hrun, hended, hE⟩ := X.leaveW hS hn₁ (v := some (.int (nar t z))) (fun h => by rw [hret] at h; cases h) hlocks
  exact ⟨_, _, retN X hx hret ht hd hr, hrun, hended, _, _, rfl, hQ, own_more hE hk hn⟩
theorem own_retAW (X : Stand p l e R (s.setVm vm₁) m args below meth c T locs cells slots) (hS : s.Since vm₁ n₁) (hn₁ : n₁ ≤ T.heap.size) (hlocks : meth.locks = false) (hx : p.tables.exec = Jvm.exec) {pc : Nat} {Ls : Array Slot} {w : Value} {rest : List Value} {t : FieldType} (hret : meth.sig.returnType = some t) (ht : t.isReference = true) (hn' : narrow t w = w) (hw : w.isRef = true) (hd : decode c.code pc = .ok (.areturn, 1)) (hQ : Q (some w) T.heap locs) (hk : cells ≤ K) (hn : slots ≤ N) :
    own_Go p.tables e below (own_FinW below s Q K N) (T.setTop (mkF m pc Ls (w :: rest))) := by
  obtain ⟨fs, hr, hrun, hended, hE⟩ := X.leaveW hS hn₁ (v := some w) (fun h => by rw [hret] at h; cases h) hlocks
  exact ⟨_, _, retOut X hx (i := .areturn) hret hn' (Or.inr (Or.inr (Or.inr (Or.inr ⟨rfl, ht, hw⟩)))) hd hr, hrun, hended, _, _, rfl, hQ, own_more hE hk hn⟩
theorem own_ret0W (X : Stand p l e R (s.setVm vm₁) m args below meth c T locs cells slots) (hS : s.Since vm₁ n₁) (hn₁ : n₁ ≤ T.heap.size) (hlocks : meth.locks = false) (hx : p.tables.exec = Jvm.exec) {pc : Nat} {Ls : Array Slot} (hret : meth.sig.returnType = none) (hd : decode c.code pc = .ok (.return_, 1)) (hQ : Q none T.heap locs) (hk : cells ≤ K) (hn : slots ≤ N) :
    own_Go p.tables e below (own_FinW below s Q K N) (T.setTop (mkF m pc Ls [])) := by
  obtain ⟨fs, hr, hrun, hended, hE⟩ := X.leaveW hS hn₁ (v := none) (fun _ => rfl) hlocks
  exact ⟨_, _, X.returnOut hx hret hd hr, hrun, hended, _, _, rfl, hQ, own_more hE hk hn⟩
end OwnRet
theorem own_val {x y : Int32} (h : y = x) : some (Value.int x) = some (Value.int y) := by rw [h]
theorem own_valJ {x y : Int64} (h : y = x) : some (Value.long x) = some (Value.long y) := by rw [h]
theorem own_valV {x y : Value} (h : y = x) : some x = some y := by rw [h]
theorem own_valR {x y : Addr} (h : y = x) : some (Value.ref x) = some (Value.ref y) := by rw [h]
theorem own_cat {v : Value} (h : v.isRef = true) : v.category = 1 := by rcases ref_cases h with rfl | ⟨z, rfl⟩ <;> rfl
theorem own_narR {v : Value} {C : String} (h : v.isRef = true) : narrow (.object C) v = v := by rcases ref_cases h with rfl | ⟨z, rfl⟩ <;> rfl
theorem own_fitR {v : Value} {C : String} (h : v.isRef = true) : fits (.object C) v = true := by rcases ref_cases h with rfl | ⟨z, rfl⟩ <;> rfl
theorem own_narA {v : Value} {t : FieldType} (h : v.isRef = true) : narrow (.array t) v = v := by rcases ref_cases h with rfl | ⟨z, rfl⟩ <;> rfl
theorem own_fitA {v : Value} {t : FieldType} (h : v.isRef = true) : fits (.array t) v = true := by rcases ref_cases h with rfl | ⟨z, rfl⟩ <;> rfl
theorem own_dne {p : Prop} (h : p) : ¬ ¬ p := fun q => q h
theorem d2_0 : decode jdk_30_method_1_code 0 = .ok (.aload_n 0, 1) := by decide +kernel
theorem d2_1 : decode jdk_30_method_1_code 1 = .ok (.invokespecial 1, 3) := by decide +kernel
theorem d2_4 : decode jdk_30_method_1_code 4 = .ok (.return_, 1) := by decide +kernel
theorem pn_2 : plainName "java/lang/Record" = true := by first | (simp [plainName, overriddenIn]; done) | decide +kernel
theorem ef_2 (m : MethodId) (a1 : Addr) : entryFrame m #[(.ref a1)] 1 = mkF m 0 #[.val (.ref a1)] [] := by first | (simp [entryFrame, mkF, argsToLocals, Value.category]; done) | rfl
def Q2 (Z : State) (a1 : Addr) (h0 : Heap) (n0 : Nat) (v : Option Value) (h : Heap) (L : List Loc) : Prop := v = none ∧ Fr n0 L ∧ h = h0
set_option maxRecDepth 65536 in
set_option maxHeartbeats 40000000 in
theorem rm2 (l : Launch) (Z : State) (a0 : Array Value) (hw : ∀ d ∈ tables_1, d.before a0 Z = true) (ws : List Jvm.Cond) (a1 : Addr) (h0 : Heap) (n0 : Nat) (Z0 : n0 ≤ h0.size) :
    MetFree l (⟨"java/lang/Record", "<init>", "()V"⟩ : MethodName) (head1 (Jvm.Cond.code (⟨"java/lang/Record", "<init>", "()V"⟩ : MethodName) jdk_30_method_1_code 1 none :: ws) ({ frames := 1, cells := 0, slots := 0, locals := 12 } : Room)) (fun a U => a = #[(.ref a1)] ∧ Z.Warmed39 U.vm ∧ U.heap = h0) (fun _ _ _ _ _ => True) (fun _ U o U' => ∃ v L, o = .returned v ∧ Q2 Z a1 h0 n0 v U'.heap L ∧ FrameEnd U o U' L ({ frames := 1, cells := 0, slots := 0, locals := 12 } : Room).cells ({ frames := 1, cells := 0, slots := 0, locals := 12 } : Room).slots) := by
  refine MetFree.of_bodySF (plainFor_of_name pn_2) hisR ?_
  intro p e s m args below meth c s₁ Bd hml0 hP hK
  obtain ⟨rfl, hZ, hh⟩ := hP
  have hx := Bd.exec
  have hby := Bd.bytes
  have hml : c.maxLocals = 1 := hml0
  have hown : s.vm.findClass "java/lang/Record" = some m.cls := findClass_of_methodNamed Bd.named
  have hnm := (name_of_methodNamed Bd.named Bd.method).1
  have X0 : Stand p l e ({ frames := 1, cells := 0, slots := 0, locals := 12 } : Room) s m #[(.ref a1)] below meth c s₁ [] 0 0 := Stand.of_body Bd
  have e0 : s₁.heap = h0 := by rw [← hh, Bd.state]; rfl
  have N0 := Fr.nil n0
  show own_Go p.tables e below (own_Fin below s (Q2 Z a1 h0 n0) ({ frames := 1, cells := 0, slots := 0, locals := 12 } : Room).cells ({ frames := 1, cells := 0, slots := 0, locals := 12 } : Room).slots) (s₁.setTop (entryFrame m #[(.ref a1)] 1))
  refine own_go (S' := s₁.setTop (mkF m 0 #[.val (.ref a1)] [])) (fun t k => castTop (ef_2 m a1) k) ?_
  show own_Go p.tables e below _ (s₁.setTop (mkF m 0 #[.val (.ref a1)] []))
  refine own_go (fun _ => XS.aloadN X0.here hx rfl (hb hby d2_0) rfl rfl) ?_
  show own_Go p.tables e below _ (s₁.setTop (mkF m 1 #[.val (.ref a1)] [(.ref a1)]))
  obtain ⟨T2, X2, e2, st2⟩ := initO X0 hx hZ hown (hw _ (List.mem_of_getElem? (i := 11) rfl)) (hw _ (List.mem_of_getElem? (i := 12) rfl)) (hw _ (List.mem_of_getElem? (i := 13) rfl)) e0 (g := (mkF m 1 #[.val (.ref a1)] [(.ref a1)])) rfl (by rw [hml]; rfl) rfl (hb hby d2_1) (by decide) (W := 0) (by show 2 * 0 + _ ≤ _; exact Nat.le_of_eq rfl) (by decide)
  refine own_go st2 ?_
  show own_Go p.tables e below _ (T2.setTop (mkF m 4 #[.val (.ref a1)] []))
  refine own_ret0 X2 Bd.notSynchronized hx Bd.returns (hb hby d2_4) (show Q2 Z a1 h0 n0 _ T2.heap _ from by rw [e2]; exact ⟨rfl, N0, rfl⟩) (by decide) (by decide)
theorem d1_0 : decode prog_47_method_1_code 0 = .ok (.aload_n 0, 1) := by decide +kernel
theorem d1_1 : decode prog_47_method_1_code 1 = .ok (.invokespecial 1, 3) := by decide +kernel
theorem d1_4 : decode prog_47_method_1_code 4 = .ok (.aload_n 0, 1) := by decide +kernel
theorem d1_5 : decode prog_47_method_1_code 5 = .ok (.iload_n 1, 1) := by decide +kernel
theorem d1_6 : decode prog_47_method_1_code 6 = .ok (.putfield 7, 3) := by decide +kernel
theorem d1_9 : decode prog_47_method_1_code 9 = .ok (.aload_n 0, 1) := by decide +kernel
theorem d1_10 : decode prog_47_method_1_code 10 = .ok (.iload_n 2, 1) := by decide +kernel
theorem d1_11 : decode prog_47_method_1_code 11 = .ok (.putfield 13, 3) := by decide +kernel
theorem d1_14 : decode prog_47_method_1_code 14 = .ok (.aload_n 0, 1) := by decide +kernel
theorem d1_15 : decode prog_47_method_1_code 15 = .ok (.iload_n 3, 1) := by decide +kernel
theorem d1_16 : decode prog_47_method_1_code 16 = .ok (.putfield 16, 3) := by decide +kernel
theorem d1_19 : decode prog_47_method_1_code 19 = .ok (.aload_n 0, 1) := by decide +kernel
theorem d1_20 : decode prog_47_method_1_code 20 = .ok (.iload 4, 2) := by decide +kernel
theorem d1_22 : decode prog_47_method_1_code 22 = .ok (.putfield 19, 3) := by decide +kernel
theorem d1_25 : decode prog_47_method_1_code 25 = .ok (.return_, 1) := by decide +kernel
theorem pn_1 : plainName "com/example/leipzig/leipzig/formats/nupn/NupnFile$Header" = true := by first | (simp [plainName, overriddenIn]; done) | decide +kernel
theorem pd_1 : parseMethodDescriptor "()V" = some ⟨[], none⟩ := by decide +kernel
theorem ef_1 (m : MethodId) (a1 : Addr) (p2 : Int32) (p3 : Int32) (p4 : Int32) (p5 : Int32) : entryFrame m #[(.ref a1), (.int p2), (.int p3), (.int p4), (.int p5)] 5 = mkF m 0 #[.val (.ref a1), .val (.int p2), .val (.int p3), .val (.int p4), .val (.int p5)] [] := by first | (simp [entryFrame, mkF, argsToLocals, Value.category]; done) | rfl
def Q1 (Z : State) (a1 : Addr) (p2 : Int32) (p3 : Int32) (p4 : Int32) (p5 : Int32) (u_line_a1 : Value) (u_count_a1 : Value) (u_low_a1 : Value) (u_high_a1 : Value) (h0 : Heap) (n0 : Nat) (v : Option Value) (h : Heap) (L : List Loc) : Prop := v = none ∧ Fr n0 L ∧ Keep h0 h [a1] ∧ Exa Z h a1 "com/example/leipzig/leipzig/formats/nupn/NupnFile$Header" ∧ Fld Z h a1 "com/example/leipzig/leipzig/formats/nupn/NupnFile$Header" "line" "I" (.int p2) ∧ Fld Z h a1 "com/example/leipzig/leipzig/formats/nupn/NupnFile$Header" "count" "I" (.int p3) ∧ Fld Z h a1 "com/example/leipzig/leipzig/formats/nupn/NupnFile$Header" "low" "I" (.int p4) ∧ Fld Z h a1 "com/example/leipzig/leipzig/formats/nupn/NupnFile$Header" "high" "I" (.int p5)
set_option maxRecDepth 65536 in
set_option maxHeartbeats 40000000 in
theorem rm1 (l : Launch) (Z : State) (a0 : Array Value) (hw : ∀ d ∈ tables_1, d.before a0 Z = true) (ws : List Jvm.Cond) (a1 : Addr) (p2 : Int32) (p3 : Int32) (p4 : Int32) (p5 : Int32) (u_line_a1 : Value) (u_count_a1 : Value) (u_low_a1 : Value) (u_high_a1 : Value) (h0 : Heap) (n0 : Nat) (Z0 : n0 ≤ h0.size) (E_a1 : Exa Z h0 a1 "com/example/leipzig/leipzig/formats/nupn/NupnFile$Header") (F_line_a1 : Fld Z h0 a1 "com/example/leipzig/leipzig/formats/nupn/NupnFile$Header" "line" "I" u_line_a1) (g_a1 : n0 ≤ a1) (F_count_a1 : Fld Z h0 a1 "com/example/leipzig/leipzig/formats/nupn/NupnFile$Header" "count" "I" u_count_a1) (F_low_a1 : Fld Z h0 a1 "com/example/leipzig/leipzig/formats/nupn/NupnFile$Header" "low" "I" u_low_a1) (F_high_a1 : Fld Z h0 a1 "com/example/leipzig/leipzig/formats/nupn/NupnFile$Header" "high" "I" u_high_a1) :
    MetFree l (⟨"com/example/leipzig/leipzig/formats/nupn/NupnFile$Header", "<init>", "(IIII)V"⟩ : MethodName) (head1 (Jvm.Cond.code (⟨"com/example/leipzig/leipzig/formats/nupn/NupnFile$Header", "<init>", "(IIII)V"⟩ : MethodName) prog_47_method_1_code 5 none :: ws) ({ frames := 2, cells := 0, slots := 0, locals := 24 } : Room)) (fun a U => a = #[(.ref a1), (.int p2), (.int p3), (.int p4), (.int p5)] ∧ Z.Warmed39 U.vm ∧ U.heap = h0) (fun _ _ _ _ _ => True) (fun _ U o U' => ∃ v L, o = .returned v ∧ Q1 Z a1 p2 p3 p4 p5 u_line_a1 u_count_a1 u_low_a1 u_high_a1 h0 n0 v U'.heap L ∧ FrameEnd U o U' L ({ frames := 2, cells := 0, slots := 0, locals := 24 } : Room).cells ({ frames := 2, cells := 0, slots := 0, locals := 24 } : Room).slots) := by
  refine MetFree.of_bodySF (plainFor_of_name pn_1) hisR ?_
  intro p e s m args below meth c s₁ Bd hml0 hP hK
  obtain ⟨rfl, hZ, hh⟩ := hP
  have hx := Bd.exec
  have hby := Bd.bytes
  have hml : c.maxLocals = 5 := hml0
  have hown : s.vm.findClass "com/example/leipzig/leipzig/formats/nupn/NupnFile$Header" = some m.cls := findClass_of_methodNamed Bd.named
  have hnm := (name_of_methodNamed Bd.named Bd.method).1
  have X0 : Stand p l e ({ frames := 2, cells := 0, slots := 0, locals := 24 } : Room) s m #[(.ref a1), (.int p2), (.int p3), (.int p4), (.int p5)] below meth c s₁ [] 0 0 := Stand.of_body Bd
  have e0 : s₁.heap = h0 := by rw [← hh, Bd.state]; rfl
  have N0 := Fr.nil n0
  show own_Go p.tables e below (own_Fin below s (Q1 Z a1 p2 p3 p4 p5 u_line_a1 u_count_a1 u_low_a1 u_high_a1 h0 n0) ({ frames := 2, cells := 0, slots := 0, locals := 24 } : Room).cells ({ frames := 2, cells := 0, slots := 0, locals := 24 } : Room).slots) (s₁.setTop (entryFrame m #[(.ref a1), (.int p2), (.int p3), (.int p4), (.int p5)] 5))
  refine own_go (S' := s₁.setTop (mkF m 0 #[.val (.ref a1), .val (.int p2), .val (.int p3), .val (.int p4), .val (.int p5)] [])) (fun t k => castTop (ef_1 m a1 p2 p3 p4 p5) k) ?_
  show own_Go p.tables e below _ (s₁.setTop (mkF m 0 #[.val (.ref a1), .val (.int p2), .val (.int p3), .val (.int p4), .val (.int p5)] []))
  refine own_go (fun _ => XS.aloadN X0.here hx rfl (hb hby d1_0) rfl rfl) ?_
  show own_Go p.tables e below _ (s₁.setTop (mkF m 1 #[.val (.ref a1), .val (.int p2), .val (.int p3), .val (.int p4), .val (.int p5)] [(.ref a1)]))
  obtain ⟨_, _, ⟨T6, L6, k6, n6⟩, -, X6, ⟨Lc6, hQ6, l6, y6, z6⟩, st6⟩ := X0.specialBack hx (y := (⟨"java/lang/Record", "<init>", "()V"⟩ : MethodName)) rfl hown (mvT hZ (hw _ (List.mem_of_getElem? (i := 6) rfl))) (mvT hZ (hw _ (List.mem_of_getElem? (i := 7) rfl))) (mvT hZ (hw _ (List.mem_of_getElem? (i := 10) rfl))) (by decide) (backOf (W := 0) (rm2 l Z a0 hw [] a1 h0 n0 Z0 ) hZ (hw _ (List.mem_of_getElem? (i := 10) rfl)) (hw _ (List.mem_of_getElem? (i := 9) rfl)) (by decide) (by decide)) (g := (mkF m 1 #[.val (.ref a1), .val (.int p2), .val (.int p3), .val (.int p4), .val (.int p5)] [(.ref a1)])) rfl (by rw [hml]; rfl) (Steps.refl _) (a := a1) (argsL := []) (rest := []) (lenOf pd_1 rfl) rfl (by show 2 * 0 + _ ≤ _; exact Nat.le_of_eq rfl) (hb hby d1_1) (fun _ _ => ⟨rfl, e0, (by decide : 0 + 0 ≤ _), (by decide : 0 + 0 ≤ _)⟩)
  dsimp only [Pt.U, Pt.locs, Pt.cells, Pt.slots] at X6 l6 y6 z6 st6 hQ6
  subst l6 y6 z6
  obtain ⟨rfl, N6q, e6⟩ := hQ6
  have N6 := Fr.app N0 N6q
  refine own_via st6 ?_
  show own_Go p.tables e below _ (T6.setTop (mkF m 4 #[.val (.ref a1), .val (.int p2), .val (.int p3), .val (.int p4), .val (.int p5)] []))
  refine own_go (fun _ => XS.aloadN X6.here hx rfl (hb hby d1_4) rfl rfl) ?_
  show own_Go p.tables e below _ (T6.setTop (mkF m 5 #[.val (.ref a1), .val (.int p2), .val (.int p3), .val (.int p4), .val (.int p5)] [(.ref a1)]))
  refine own_go (fun _ => XS.iloadN X6.here hx rfl (hb hby d1_5) rfl) ?_
  show own_Go p.tables e below _ (T6.setTop (mkF m 6 #[.val (.ref a1), .val (.int p2), .val (.int p3), .val (.int p4), .val (.int p5)] [(.int p2), (.ref a1)]))
  obtain ⟨T7, h7, X7, e7, W7, st7⟩ := putF X6 hx hZ hown (host := "") (Or.inl (hw _ (List.mem_of_getElem? (i := 14) rfl))) Via.refl e6 F_line_a1 E_a1 (Or.inr ⟨(hw _ (List.mem_of_getElem? (i := 15) rfl)), rfl, hnm⟩) (hw _ (List.mem_of_getElem? (i := 1) rfl)) (ty := .int) (by decide) rfl rfl (g := (mkF m 6 #[.val (.ref a1), .val (.int p2), .val (.int p3), .val (.int p4), .val (.int p5)] [(.int p2), (.ref a1)])) rfl rfl (hb hby d1_6)
  refine own_go st7 ?_
  have Fw7 := F_line_a1.same W7
  have K7 : Keep h0 h7 [a1] := (Keep.refl h0 [a1]).wr W7 (Or.inl (List.mem_of_getElem? (i := 0) rfl))
  have N7 := Fr.snoc X7 N6 g_a1
  show own_Go p.tables e below _ (T7.setTop (mkF m 9 #[.val (.ref a1), .val (.int p2), .val (.int p3), .val (.int p4), .val (.int p5)] []))
  refine own_go (fun _ => XS.aloadN X7.here hx rfl (hb hby d1_9) rfl rfl) ?_
  show own_Go p.tables e below _ (T7.setTop (mkF m 10 #[.val (.ref a1), .val (.int p2), .val (.int p3), .val (.int p4), .val (.int p5)] [(.ref a1)]))
  refine own_go (fun _ => XS.iloadN X7.here hx rfl (hb hby d1_10) rfl) ?_
  show own_Go p.tables e below _ (T7.setTop (mkF m 11 #[.val (.ref a1), .val (.int p2), .val (.int p3), .val (.int p4), .val (.int p5)] [(.int p3), (.ref a1)]))
  obtain ⟨T8, h8, X8, e8, W8, st8⟩ := putF X7 hx hZ hown (host := "") (Or.inl (hw _ (List.mem_of_getElem? (i := 16) rfl))) Via.refl e7 (F_count_a1.other W7 (Or.inr (slot_ne (Or.inr (hw _ (List.mem_of_getElem? (i := 17) rfl))) (Or.inr (hw _ (List.mem_of_getElem? (i := 15) rfl))) (by decide) (t := .int) (t' := .int) (by decide) (by decide)))) (E_a1.wr W7) (Or.inr ⟨(hw _ (List.mem_of_getElem? (i := 17) rfl)), rfl, hnm⟩) (hw _ (List.mem_of_getElem? (i := 1) rfl)) (ty := .int) (by decide) rfl rfl (g := (mkF m 11 #[.val (.ref a1), .val (.int p2), .val (.int p3), .val (.int p4), .val (.int p5)] [(.int p3), (.ref a1)])) rfl rfl (hb hby d1_11)
  refine own_go st8 ?_
  have Fw8 := (F_count_a1.other W7 (Or.inr (slot_ne (Or.inr (hw _ (List.mem_of_getElem? (i := 17) rfl))) (Or.inr (hw _ (List.mem_of_getElem? (i := 15) rfl))) (by decide) (t := .int) (t' := .int) (by decide) (by decide)))).same W8
  have K8 : Keep h0 h8 [a1] := K7.wr W8 (Or.inl (List.mem_of_getElem? (i := 0) rfl))
  have N8 := Fr.snoc X8 N7 g_a1
  show own_Go p.tables e below _ (T8.setTop (mkF m 14 #[.val (.ref a1), .val (.int p2), .val (.int p3), .val (.int p4), .val (.int p5)] []))
  refine own_go (fun _ => XS.aloadN X8.here hx rfl (hb hby d1_14) rfl rfl) ?_
  show own_Go p.tables e below _ (T8.setTop (mkF m 15 #[.val (.ref a1), .val (.int p2), .val (.int p3), .val (.int p4), .val (.int p5)] [(.ref a1)]))
  refine own_go (fun _ => XS.iloadN X8.here hx rfl (hb hby d1_15) rfl) ?_
  show own_Go p.tables e below _ (T8.setTop (mkF m 16 #[.val (.ref a1), .val (.int p2), .val (.int p3), .val (.int p4), .val (.int p5)] [(.int p4), (.ref a1)]))
  obtain ⟨T9, h9, X9, e9, W9, st9⟩ := putF X8 hx hZ hown (host := "") (Or.inl (hw _ (List.mem_of_getElem? (i := 18) rfl))) Via.refl e8 ((F_low_a1.other W7 (Or.inr (slot_ne (Or.inr (hw _ (List.mem_of_getElem? (i := 19) rfl))) (Or.inr (hw _ (List.mem_of_getElem? (i := 15) rfl))) (by decide) (t := .int) (t' := .int) (by decide) (by decide)))).other W8 (Or.inr (slot_ne (Or.inr (hw _ (List.mem_of_getElem? (i := 19) rfl))) (Or.inr (hw _ (List.mem_of_getElem? (i := 17) rfl))) (by decide) (t := .int) (t' := .int) (by decide) (by decide)))) ((E_a1.wr W7).wr W8) (Or.inr ⟨(hw _ (List.mem_of_getElem? (i := 19) rfl)), rfl, hnm⟩) (hw _ (List.mem_of_getElem? (i := 1) rfl)) (ty := .int) (by decide) rfl rfl (g := (mkF m 16 #[.val (.ref a1), .val (.int p2), .val (.int p3), .val (.int p4), .val (.int p5)] [(.int p4), (.ref a1)])) rfl rfl (hb hby d1_16)
  refine own_go st9 ?_
  have Fw9 := ((F_low_a1.other W7 (Or.inr (slot_ne (Or.inr (hw _ (List.mem_of_getElem? (i := 19) rfl))) (Or.inr (hw _ (List.mem_of_getElem? (i := 15) rfl))) (by decide) (t := .int) (t' := .int) (by decide) (by decide)))).other W8 (Or.inr (slot_ne (Or.inr (hw _ (List.mem_of_getElem? (i := 19) rfl))) (Or.inr (hw _ (List.mem_of_getElem? (i := 17) rfl))) (by decide) (t := .int) (t' := .int) (by decide) (by decide)))).same W9
  have K9 : Keep h0 h9 [a1] := K8.wr W9 (Or.inl (List.mem_of_getElem? (i := 0) rfl))
  have N9 := Fr.snoc X9 N8 g_a1
  show own_Go p.tables e below _ (T9.setTop (mkF m 19 #[.val (.ref a1), .val (.int p2), .val (.int p3), .val (.int p4), .val (.int p5)] []))
  refine own_go (fun _ => XS.aloadN X9.here hx rfl (hb hby d1_19) rfl rfl) ?_
  show own_Go p.tables e below _ (T9.setTop (mkF m 20 #[.val (.ref a1), .val (.int p2), .val (.int p3), .val (.int p4), .val (.int p5)] [(.ref a1)]))
  refine own_go (fun _ => XS.iload X9.here hx rfl (hb hby d1_20) rfl) ?_
  show own_Go p.tables e below _ (T9.setTop (mkF m 22 #[.val (.ref a1), .val (.int p2), .val (.int p3), .val (.int p4), .val (.int p5)] [(.int p5), (.ref a1)]))
  obtain ⟨T10, h10, X10, e10, W10, st10⟩ := putF X9 hx hZ hown (host := "") (Or.inl (hw _ (List.mem_of_getElem? (i := 20) rfl))) Via.refl e9 (((F_high_a1.other W7 (Or.inr (slot_ne (Or.inr (hw _ (List.mem_of_getElem? (i := 21) rfl))) (Or.inr (hw _ (List.mem_of_getElem? (i := 15) rfl))) (by decide) (t := .int) (t' := .int) (by decide) (by decide)))).other W8 (Or.inr (slot_ne (Or.inr (hw _ (List.mem_of_getElem? (i := 21) rfl))) (Or.inr (hw _ (List.mem_of_getElem? (i := 17) rfl))) (by decide) (t := .int) (t' := .int) (by decide) (by decide)))).other W9 (Or.inr (slot_ne (Or.inr (hw _ (List.mem_of_getElem? (i := 21) rfl))) (Or.inr (hw _ (List.mem_of_getElem? (i := 19) rfl))) (by decide) (t := .int) (t' := .int) (by decide) (by decide)))) (((E_a1.wr W7).wr W8).wr W9) (Or.inr ⟨(hw _ (List.mem_of_getElem? (i := 21) rfl)), rfl, hnm⟩) (hw _ (List.mem_of_getElem? (i := 1) rfl)) (ty := .int) (by decide) rfl rfl (g := (mkF m 22 #[.val (.ref a1), .val (.int p2), .val (.int p3), .val (.int p4), .val (.int p5)] [(.int p5), (.ref a1)])) rfl rfl (hb hby d1_22)
  refine own_go st10 ?_
  have Fw10 := (((F_high_a1.other W7 (Or.inr (slot_ne (Or.inr (hw _ (List.mem_of_getElem? (i := 21) rfl))) (Or.inr (hw _ (List.mem_of_getElem? (i := 15) rfl))) (by decide) (t := .int) (t' := .int) (by decide) (by decide)))).other W8 (Or.inr (slot_ne (Or.inr (hw _ (List.mem_of_getElem? (i := 21) rfl))) (Or.inr (hw _ (List.mem_of_getElem? (i := 17) rfl))) (by decide) (t := .int) (t' := .int) (by decide) (by decide)))).other W9 (Or.inr (slot_ne (Or.inr (hw _ (List.mem_of_getElem? (i := 21) rfl))) (Or.inr (hw _ (List.mem_of_getElem? (i := 19) rfl))) (by decide) (t := .int) (t' := .int) (by decide) (by decide)))).same W10
  have K10 : Keep h0 h10 [a1] := K9.wr W10 (Or.inl (List.mem_of_getElem? (i := 0) rfl))
  have N10 := Fr.snoc X10 N9 g_a1
  show own_Go p.tables e below _ (T10.setTop (mkF m 25 #[.val (.ref a1), .val (.int p2), .val (.int p3), .val (.int p4), .val (.int p5)] []))
  refine own_ret0 X10 Bd.notSynchronized hx Bd.returns (hb hby d1_25) (show Q1 Z a1 p2 p3 p4 p5 u_line_a1 u_count_a1 u_low_a1 u_high_a1 h0 n0 _ T10.heap _ from by rw [e10]; exact ⟨rfl, N10, K10, ((((E_a1.wr W7).wr W8).wr W9).wr W10), (((Fw7.other W8 (Or.inr (slot_ne (Or.inr (hw _ (List.mem_of_getElem? (i := 15) rfl))) (Or.inr (hw _ (List.mem_of_getElem? (i := 17) rfl))) (by decide) (t := .int) (t' := .int) (by decide) (by decide)))).other W9 (Or.inr (slot_ne (Or.inr (hw _ (List.mem_of_getElem? (i := 15) rfl))) (Or.inr (hw _ (List.mem_of_getElem? (i := 19) rfl))) (by decide) (t := .int) (t' := .int) (by decide) (by decide)))).other W10 (Or.inr (slot_ne (Or.inr (hw _ (List.mem_of_getElem? (i := 15) rfl))) (Or.inr (hw _ (List.mem_of_getElem? (i := 21) rfl))) (by decide) (t := .int) (t' := .int) (by decide) (by decide)))), ((Fw8.other W9 (Or.inr (slot_ne (Or.inr (hw _ (List.mem_of_getElem? (i := 17) rfl))) (Or.inr (hw _ (List.mem_of_getElem? (i := 19) rfl))) (by decide) (t := .int) (t' := .int) (by decide) (by decide)))).other W10 (Or.inr (slot_ne (Or.inr (hw _ (List.mem_of_getElem? (i := 17) rfl))) (Or.inr (hw _ (List.mem_of_getElem? (i := 21) rfl))) (by decide) (t := .int) (t' := .int) (by decide) (by decide)))), (Fw9.other W10 (Or.inr (slot_ne (Or.inr (hw _ (List.mem_of_getElem? (i := 19) rfl))) (Or.inr (hw _ (List.mem_of_getElem? (i := 21) rfl))) (by decide) (t := .int) (t' := .int) (by decide) (by decide)))), Fw10⟩) (by decide) (by decide)
theorem d4_0 : decode prog_47_method_2_code 0 = .ok (.aload_n 0, 1) := by decide +kernel
theorem d4_1 : decode prog_47_method_2_code 1 = .ok (.getfield 16, 3) := by decide +kernel
theorem d4_4 : decode prog_47_method_2_code 4 = .ok (.iload_n 1, 1) := by decide +kernel
theorem d4_5 : decode prog_47_method_2_code 5 = .ok (.if_icmp .gt 15, 3) := by decide +kernel
theorem d4_8 : decode prog_47_method_2_code 8 = .ok (.iload_n 1, 1) := by decide +kernel
theorem d4_9 : decode prog_47_method_2_code 9 = .ok (.aload_n 0, 1) := by decide +kernel
theorem d4_10 : decode prog_47_method_2_code 10 = .ok (.getfield 19, 3) := by decide +kernel
theorem d4_13 : decode prog_47_method_2_code 13 = .ok (.if_icmp .gt 7, 3) := by decide +kernel
theorem d4_16 : decode prog_47_method_2_code 16 = .ok (.iconst 1, 1) := by decide +kernel
theorem d4_17 : decode prog_47_method_2_code 17 = .ok (.goto 4, 3) := by decide +kernel
theorem d4_20 : decode prog_47_method_2_code 20 = .ok (.iconst 0, 1) := by decide +kernel
theorem d4_21 : decode prog_47_method_2_code 21 = .ok (.ireturn, 1) := by decide +kernel
theorem pn_4 : plainName "com/example/leipzig/leipzig/formats/nupn/NupnFile$Header" = true := by first | (simp [plainName, overriddenIn]; done) | decide +kernel
theorem ef_4 (m : MethodId) (a1 : Addr) (p2 : Int32) : entryFrame m #[(.ref a1), (.int p2)] 2 = mkF m 0 #[.val (.ref a1), .val (.int p2)] [] := by first | (simp [entryFrame, mkF, argsToLocals, Value.category]; done) | rfl
def own_f4 (p2 : Int32) (w3 : Int32) (w6 : Int32) : Int32 :=
  if p2 < w3 then (0 : Int32)
  else if w6 < p2 then (0 : Int32)
  else (1 : Int32)
def Q4 (Z : State) (a1 : Addr) (p2 : Int32) (w3 : Int32) (w6 : Int32) (h0 : Heap) (n0 : Nat) (v : Option Value) (h : Heap) (L : List Loc) : Prop := v = some (.int (own_f4 p2 w3 w6)) ∧ Fr n0 L ∧ h = h0
set_option maxRecDepth 65536 in
set_option maxHeartbeats 40000000 in
theorem rm4 (l : Launch) (Z : State) (a0 : Array Value) (hw : ∀ d ∈ tables_1, d.before a0 Z = true) (ws : List Jvm.Cond) (a1 : Addr) (p2 : Int32) (w3 : Int32) (w6 : Int32) (h0 : Heap) (n0 : Nat) (Z0 : n0 ≤ h0.size) (F_low_a1 : Fld Z h0 a1 "com/example/leipzig/leipzig/formats/nupn/NupnFile$Header" "low" "I" (.int w3)) (F_high_a1 : Fld Z h0 a1 "com/example/leipzig/leipzig/formats/nupn/NupnFile$Header" "high" "I" (.int w6)) :
    MetFree l (⟨"com/example/leipzig/leipzig/formats/nupn/NupnFile$Header", "holds", "(I)Z"⟩ : MethodName) (head1 (Jvm.Cond.code (⟨"com/example/leipzig/leipzig/formats/nupn/NupnFile$Header", "holds", "(I)Z"⟩ : MethodName) prog_47_method_2_code 2 (some .boolean) :: ws) ({ frames := 0, cells := 0, slots := 0, locals := 0 } : Room)) (fun a U => a = #[(.ref a1), (.int p2)] ∧ Z.Warmed39 U.vm ∧ U.heap = h0) (fun _ _ _ _ _ => True) (fun _ U o U' => ∃ v L, o = .returned v ∧ Q4 Z a1 p2 w3 w6 h0 n0 v U'.heap L ∧ FrameEnd U o U' L ({ frames := 0, cells := 0, slots := 0, locals := 0 } : Room).cells ({ frames := 0, cells := 0, slots := 0, locals := 0 } : Room).slots) := by
  refine MetFree.of_bodySF (plainFor_of_name pn_4) hisR ?_
  intro p e s m args below meth c s₁ Bd hml0 hP hK
  obtain ⟨rfl, hZ, hh⟩ := hP
  have hx := Bd.exec
  have hby := Bd.bytes
  have hml : c.maxLocals = 2 := hml0
  have hown : s.vm.findClass "com/example/leipzig/leipzig/formats/nupn/NupnFile$Header" = some m.cls := findClass_of_methodNamed Bd.named
  have hnm := (name_of_methodNamed Bd.named Bd.method).1
  have X0 : Stand p l e ({ frames := 0, cells := 0, slots := 0, locals := 0 } : Room) s m #[(.ref a1), (.int p2)] below meth c s₁ [] 0 0 := Stand.of_body Bd
  have e0 : s₁.heap = h0 := by rw [← hh, Bd.state]; rfl
  have N0 := Fr.nil n0
  show own_Go p.tables e below (own_Fin below s (Q4 Z a1 p2 w3 w6 h0 n0) ({ frames := 0, cells := 0, slots := 0, locals := 0 } : Room).cells ({ frames := 0, cells := 0, slots := 0, locals := 0 } : Room).slots) (s₁.setTop (entryFrame m #[(.ref a1), (.int p2)] 2))
  refine own_go (S' := s₁.setTop (mkF m 0 #[.val (.ref a1), .val (.int p2)] [])) (fun t k => castTop (ef_4 m a1 p2) k) ?_
  show own_Go p.tables e below _ (s₁.setTop (mkF m 0 #[.val (.ref a1), .val (.int p2)] []))
  refine own_go (fun _ => XS.aloadN X0.here hx rfl (hb hby d4_0) rfl rfl) ?_
  show own_Go p.tables e below _ (s₁.setTop (mkF m 1 #[.val (.ref a1), .val (.int p2)] [(.ref a1)]))
  obtain ⟨T4, X4, e4, st4⟩ := getF X0 hx hZ hown (host := "") (Or.inl (hw _ (List.mem_of_getElem? (i := 18) rfl))) Via.refl e0 F_low_a1 (g := (mkF m 1 #[.val (.ref a1), .val (.int p2)] [(.ref a1)])) rfl rfl (hb hby d4_1)
  refine own_go st4 ?_
  show own_Go p.tables e below _ (T4.setTop (mkF m 4 #[.val (.ref a1), .val (.int p2)] [(.int w3)]))
  refine own_go (fun _ => XS.iloadN X4.here hx rfl (hb hby d4_4) rfl) ?_
  show own_Go p.tables e below _ (T4.setTop (mkF m 5 #[.val (.ref a1), .val (.int p2)] [(.int p2), (.int w3)]))
  by_cases hc5_5 : p2 < w3
  · skip
    refine own_go (fun _ => XS.icmpYes X4.here hx rfl (pc0 := 5) (pc' := 20) rfl (hb hby d4_5) rfl (tlt hc5_5).2.2.1 (by decide) (by decide)) ?_
    show own_Go p.tables e below _ (T4.setTop (mkF m 20 #[.val (.ref a1), .val (.int p2)] []))
    refine own_go (fun _ => XS.iconst X4.here hx rfl (hb hby d4_20)) ?_
    show own_Go p.tables e below _ (T4.setTop (mkF m 21 #[.val (.ref a1), .val (.int p2)] [(.int (0 : Int32))]))
    refine own_retN X4 Bd.notSynchronized hx (t := .boolean) Bd.returns (by simp) (hb hby d4_21) (show Q4 Z a1 p2 w3 w6 h0 n0 _ T4.heap _ from by rw [e4]; exact ⟨(own_val ((if_pos hc5_5).trans rfl)), N0, rfl⟩) (by decide) (by decide)
  · skip
    refine own_go (fun _ => XS.icmpNo X4.here hx rfl (hb hby d4_5) rfl (flt hc5_5).2.2.1) ?_
    show own_Go p.tables e below _ (T4.setTop (mkF m 8 #[.val (.ref a1), .val (.int p2)] []))
    refine own_go (fun _ => XS.iloadN X4.here hx rfl (hb hby d4_8) rfl) ?_
    show own_Go p.tables e below _ (T4.setTop (mkF m 9 #[.val (.ref a1), .val (.int p2)] [(.int p2)]))
    refine own_go (fun _ => XS.aloadN X4.here hx rfl (hb hby d4_9) rfl rfl) ?_
    show own_Go p.tables e below _ (T4.setTop (mkF m 10 #[.val (.ref a1), .val (.int p2)] [(.ref a1), (.int p2)]))
    obtain ⟨T7, X7, e7, st7⟩ := getF X4 hx hZ hown (host := "") (Or.inl (hw _ (List.mem_of_getElem? (i := 20) rfl))) Via.refl e4 F_high_a1 (g := (mkF m 10 #[.val (.ref a1), .val (.int p2)] [(.ref a1), (.int p2)])) rfl rfl (hb hby d4_10)
    refine own_go st7 ?_
    show own_Go p.tables e below _ (T7.setTop (mkF m 13 #[.val (.ref a1), .val (.int p2)] [(.int w6), (.int p2)]))
    by_cases hc8_13 : w6 < p2
    · skip
      refine own_go (fun _ => XS.icmpYes X7.here hx rfl (pc0 := 13) (pc' := 20) rfl (hb hby d4_13) rfl (tlt hc8_13).2.2.1 (by decide) (by decide)) ?_
      show own_Go p.tables e below _ (T7.setTop (mkF m 20 #[.val (.ref a1), .val (.int p2)] []))
      refine own_go (fun _ => XS.iconst X7.here hx rfl (hb hby d4_20)) ?_
      show own_Go p.tables e below _ (T7.setTop (mkF m 21 #[.val (.ref a1), .val (.int p2)] [(.int (0 : Int32))]))
      refine own_retN X7 Bd.notSynchronized hx (t := .boolean) Bd.returns (by simp) (hb hby d4_21) (show Q4 Z a1 p2 w3 w6 h0 n0 _ T7.heap _ from by rw [e7]; exact ⟨(own_val ((if_neg hc5_5).trans ((if_pos hc8_13).trans rfl))), N0, rfl⟩) (by decide) (by decide)
    · skip
      refine own_go (fun _ => XS.icmpNo X7.here hx rfl (hb hby d4_13) rfl (flt hc8_13).2.2.1) ?_
      show own_Go p.tables e below _ (T7.setTop (mkF m 16 #[.val (.ref a1), .val (.int p2)] []))
      refine own_go (fun _ => XS.iconst X7.here hx rfl (hb hby d4_16)) ?_
      show own_Go p.tables e below _ (T7.setTop (mkF m 17 #[.val (.ref a1), .val (.int p2)] [(.int (1 : Int32))]))
      refine own_go (fun _ => XS.goto X7.here hx rfl (pc0 := 17) (pc' := 21) rfl (hb hby d4_17) (by decide) (by decide)) ?_
      show own_Go p.tables e below _ (T7.setTop (mkF m 21 #[.val (.ref a1), .val (.int p2)] [(.int (1 : Int32))]))
      refine own_retN X7 Bd.notSynchronized hx (t := .boolean) Bd.returns (by simp) (hb hby d4_21) (show Q4 Z a1 p2 w3 w6 h0 n0 _ T7.heap _ from by rw [e7]; exact ⟨(own_val ((if_neg hc5_5).trans ((if_neg hc8_13).trans rfl))), N0, rfl⟩) (by decide) (by decide)
theorem pn_0 : plainName "com/example/leipzig/leipzig/formats/nupn/HeaderHoldsPinLaw" = true := by first | (simp [plainName, overriddenIn]; done) | decide +kernel
theorem pd_0 : parseMethodDescriptor "(IIII)V" = some ⟨[.int, .int, .int, .int], none⟩ := by decide +kernel
theorem pd_2 : parseMethodDescriptor "(I)Z" = some ⟨[.int], some .boolean⟩ := by decide +kernel
theorem ef_0 (m : MethodId) (p1 : Int32) (p2 : Int32) (p3 : Int32) (p4 : Int32) (p5 : Int32) (p6 : Int32) : entryFrame m #[(.int p1), (.int p2), (.int p3), (.int p4), (.int p5), (.int p6)] maxLocals = mkF m 0 #[.val (.int p1), .val (.int p2), .val (.int p3), .val (.int p4), .val (.int p5), .val (.int p6), .unset, .unset, .unset, .unset, .unset, .unset, .unset, .unset, .unset] [] := by first | (simp [entryFrame, mkF, argsToLocals, Value.category, maxLocals]; done) | rfl
def own_v0_14 (p3 : Int32) (p4 : Int32) (p5 : Int32) (p6 : Int32) : Int32 := (if (p6 &&& (7 : Int32)) = (1 : Int32) then p3 else (if (p6 &&& (7 : Int32)) = (2 : Int32) then p4 else (if (p6 &&& (7 : Int32)) = (3 : Int32) then (p3 - (1 : Int32)) else (if (p6 &&& (7 : Int32)) = (4 : Int32) then (p4 + (1 : Int32)) else (if (p6 &&& (7 : Int32)) = (5 : Int32) then (p3 + (1 : Int32)) else (if (p6 &&& (7 : Int32)) = (6 : Int32) then (p4 - (1 : Int32)) else p5))))))
def own_v0_134 (p3 : Int32) (p4 : Int32) (p5 : Int32) (p6 : Int32) : Int32 := (if (lcmpW ((((own_v0_14 p3 p4 p5 p6).toInt64) - (p3.toInt64)) ||| ((p4.toInt64) - ((own_v0_14 p3 p4 p5 p6).toInt64))) (0 : Int64)) < (0 : Int32) then (0 : Int32) else (1 : Int32))
def own_f0 (p3 : Int32) (p4 : Int32) (p5 : Int32) (p6 : Int32) : Int32 :=
  if (own_f4 (own_v0_14 p3 p4 p5 p6) p3 p4) = (own_v0_134 p3 p4 p5 p6) then (1 : Int32)
  else (0 : Int32)
def Q0 (Z : State) (p1 : Int32) (p2 : Int32) (p3 : Int32) (p4 : Int32) (p5 : Int32) (p6 : Int32) (h0 : Heap) (n0 : Nat) (v : Option Value) (h : Heap) (L : List Loc) : Prop := v = some (.int (own_f0 p3 p4 p5 p6)) ∧ Fr n0 L
set_option maxRecDepth 65536 in
set_option maxHeartbeats 40000000 in
theorem rm0 (l : Launch) (Z : State) (a0 : Array Value) (hw : ∀ d ∈ tables_1, d.before a0 Z = true) (ws : List Jvm.Cond) (p1 : Int32) (p2 : Int32) (p3 : Int32) (p4 : Int32) (p5 : Int32) (p6 : Int32) (h0 : Heap) (n0 : Nat) (Z0 : n0 ≤ h0.size) :
    MetFree l x (head1 (Jvm.Cond.code x code maxLocals ret :: ws) room_1) (fun a U => a = #[(.int p1), (.int p2), (.int p3), (.int p4), (.int p5), (.int p6)] ∧ Z.Warmed39 U.vm ∧ U.heap = h0) (fun _ _ _ _ _ => True) (fun _ U o U' => ∃ v L, o = .returned v ∧ Q0 Z p1 p2 p3 p4 p5 p6 h0 n0 v U'.heap L ∧ FrameEnd U o U' L 16 128) := by
  refine MetFree.of_bodySF (plainFor_of_name pn_0) hisR ?_
  intro p e s m args below meth c s₁ Bd hml0 hP hK
  obtain ⟨rfl, hZ, hh⟩ := hP
  have hx := Bd.exec
  have hby := Bd.bytes
  have hml : c.maxLocals = 15 := hml0
  have hown : s.vm.findClass "com/example/leipzig/leipzig/formats/nupn/HeaderHoldsPinLaw" = some m.cls := findClass_of_methodNamed Bd.named
  have hnm := (name_of_methodNamed Bd.named Bd.method).1
  have X0 : Stand p l e room_1 s m #[(.int p1), (.int p2), (.int p3), (.int p4), (.int p5), (.int p6)] below meth c s₁ [] 0 0 := Stand.of_body Bd
  have e0 : s₁.heap = h0 := by rw [← hh, Bd.state]; rfl
  have N0 := Fr.nil n0
  show own_Go p.tables e below (own_Fin below s (Q0 Z p1 p2 p3 p4 p5 p6 h0 n0) 16 128) (s₁.setTop (entryFrame m #[(.int p1), (.int p2), (.int p3), (.int p4), (.int p5), (.int p6)] maxLocals))
  refine own_go (S' := s₁.setTop (mkF m 0 #[.val (.int p1), .val (.int p2), .val (.int p3), .val (.int p4), .val (.int p5), .val (.int p6), .unset, .unset, .unset, .unset, .unset, .unset, .unset, .unset, .unset] [])) (fun t k => castTop (ef_0 m p1 p2 p3 p4 p5 p6) k) ?_
  show own_Go p.tables e below _ (s₁.setTop (mkF m 0 #[.val (.int p1), .val (.int p2), .val (.int p3), .val (.int p4), .val (.int p5), .val (.int p6), .unset, .unset, .unset, .unset, .unset, .unset, .unset, .unset, .unset] []))
  refine own_go (fun _ => XS.iload X0.here hx rfl (hb hby at_0) rfl) ?_
  show own_Go p.tables e below _ (s₁.setTop (mkF m 2 #[.val (.int p1), .val (.int p2), .val (.int p3), .val (.int p4), .val (.int p5), .val (.int p6), .unset, .unset, .unset, .unset, .unset, .unset, .unset, .unset, .unset] [(.int p6)]))
  refine own_go (fun _ => XS.bipush X0.here hx rfl (hb hby at_2)) ?_
  show own_Go p.tables e below _ (s₁.setTop (mkF m 4 #[.val (.int p1), .val (.int p2), .val (.int p3), .val (.int p4), .val (.int p5), .val (.int p6), .unset, .unset, .unset, .unset, .unset, .unset, .unset, .unset, .unset] [(.int (7 : Int32)), (.int p6)]))
  refine own_go (fun _ => XS.iand X0.here hx rfl (hb hby at_4) rfl) ?_
  show own_Go p.tables e below _ (s₁.setTop (mkF m 5 #[.val (.int p1), .val (.int p2), .val (.int p3), .val (.int p4), .val (.int p5), .val (.int p6), .unset, .unset, .unset, .unset, .unset, .unset, .unset, .unset, .unset] [(.int (p6 &&& (7 : Int32)))]))
  refine own_go (fun _ => XS.istore X0.here hx rfl (hb hby at_5) rfl (l' := #[.val (.int p1), .val (.int p2), .val (.int p3), .val (.int p4), .val (.int p5), .val (.int p6), .val (.int (p6 &&& (7 : Int32))), .unset, .unset, .unset, .unset, .unset, .unset, .unset, .unset]) rfl) ?_
  show own_Go p.tables e below _ (s₁.setTop (mkF m 7 #[.val (.int p1), .val (.int p2), .val (.int p3), .val (.int p4), .val (.int p5), .val (.int p6), .val (.int (p6 &&& (7 : Int32))), .unset, .unset, .unset, .unset, .unset, .unset, .unset, .unset] []))
  refine own_go (fun _ => XS.iload X0.here hx rfl (hb hby at_7) rfl) ?_
  show own_Go p.tables e below _ (s₁.setTop (mkF m 9 #[.val (.int p1), .val (.int p2), .val (.int p3), .val (.int p4), .val (.int p5), .val (.int p6), .val (.int (p6 &&& (7 : Int32))), .unset, .unset, .unset, .unset, .unset, .unset, .unset, .unset] [(.int p5)]))
  refine own_go (fun _ => XS.istore X0.here hx rfl (hb hby at_9) rfl (l' := #[.val (.int p1), .val (.int p2), .val (.int p3), .val (.int p4), .val (.int p5), .val (.int p6), .val (.int (p6 &&& (7 : Int32))), .val (.int p5), .unset, .unset, .unset, .unset, .unset, .unset, .unset]) rfl) ?_
  show own_Go p.tables e below _ (s₁.setTop (mkF m 11 #[.val (.int p1), .val (.int p2), .val (.int p3), .val (.int p4), .val (.int p5), .val (.int p6), .val (.int (p6 &&& (7 : Int32))), .val (.int p5), .unset, .unset, .unset, .unset, .unset, .unset, .unset] []))
  refine own_go (fun _ => XS.iload X0.here hx rfl (hb hby at_11) rfl) ?_
  show own_Go p.tables e below _ (s₁.setTop (mkF m 13 #[.val (.int p1), .val (.int p2), .val (.int p3), .val (.int p4), .val (.int p5), .val (.int p6), .val (.int (p6 &&& (7 : Int32))), .val (.int p5), .unset, .unset, .unset, .unset, .unset, .unset, .unset] [(.int (p6 &&& (7 : Int32)))]))
  refine own_go (fun _ => XS.iconst X0.here hx rfl (hb hby at_13)) ?_
  refine own_go (S' := s₁.setTop (mkF m 89 #[.val (.int p1), .val (.int p2), .val (.int p3), .val (.int p4), .val (.int p5), .val (.int p6), .val (.int (p6 &&& (7 : Int32))), .val (.int (own_v0_14 p3 p4 p5 p6)), .unset, .unset, .unset, .unset, .unset, .unset, .unset] [])) (fun t kt => ?_) ?_
  · skip
    show Steps p.tables e below (s₁.setTop (mkF m 14 #[.val (.int p1), .val (.int p2), .val (.int p3), .val (.int p4), .val (.int p5), .val (.int p6), .val (.int (p6 &&& (7 : Int32))), .val (.int p5), .unset, .unset, .unset, .unset, .unset, .unset, .unset] [(.int (1 : Int32)), (.int (p6 &&& (7 : Int32)))])) _
    by_cases hc7_14 : (p6 &&& (7 : Int32)) = (1 : Int32)
    · skip
      refine XS.icmpNo X0.here hx rfl (hb hby at_14) rfl (teq hc7_14).2 ?_
      show Steps p.tables e below (s₁.setTop (mkF m 17 #[.val (.int p1), .val (.int p2), .val (.int p3), .val (.int p4), .val (.int p5), .val (.int p6), .val (.int (p6 &&& (7 : Int32))), .val (.int p5), .unset, .unset, .unset, .unset, .unset, .unset, .unset] [])) _
      refine XS.iloadN X0.here hx rfl (hb hby at_17) rfl ?_
      show Steps p.tables e below (s₁.setTop (mkF m 18 #[.val (.int p1), .val (.int p2), .val (.int p3), .val (.int p4), .val (.int p5), .val (.int p6), .val (.int (p6 &&& (7 : Int32))), .val (.int p5), .unset, .unset, .unset, .unset, .unset, .unset, .unset] [(.int p3)])) _
      refine XS.istore X0.here hx rfl (hb hby at_18) rfl (l' := #[.val (.int p1), .val (.int p2), .val (.int p3), .val (.int p4), .val (.int p5), .val (.int p6), .val (.int (p6 &&& (7 : Int32))), .val (.int p3), .unset, .unset, .unset, .unset, .unset, .unset, .unset]) rfl ?_
      show Steps p.tables e below (s₁.setTop (mkF m 20 #[.val (.int p1), .val (.int p2), .val (.int p3), .val (.int p4), .val (.int p5), .val (.int p6), .val (.int (p6 &&& (7 : Int32))), .val (.int p3), .unset, .unset, .unset, .unset, .unset, .unset, .unset] [])) _
      refine XS.goto X0.here hx rfl (pc0 := 20) (pc' := 89) rfl (hb hby at_20) (by decide) (by decide) ?_
      show Steps p.tables e below (s₁.setTop (mkF m 89 #[.val (.int p1), .val (.int p2), .val (.int p3), .val (.int p4), .val (.int p5), .val (.int p6), .val (.int (p6 &&& (7 : Int32))), .val (.int p3), .unset, .unset, .unset, .unset, .unset, .unset, .unset] [])) _
      rw [show (own_v0_14 p3 p4 p5 p6) = p3 from ((if_pos hc7_14).trans rfl)] at kt
      exact kt
    · skip
      refine XS.icmpYes X0.here hx rfl (pc0 := 14) (pc' := 23) rfl (hb hby at_14) rfl (feq hc7_14).2 (by decide) (by decide) ?_
      show Steps p.tables e below (s₁.setTop (mkF m 23 #[.val (.int p1), .val (.int p2), .val (.int p3), .val (.int p4), .val (.int p5), .val (.int p6), .val (.int (p6 &&& (7 : Int32))), .val (.int p5), .unset, .unset, .unset, .unset, .unset, .unset, .unset] [])) _
      refine XS.iload X0.here hx rfl (hb hby at_23) rfl ?_
      show Steps p.tables e below (s₁.setTop (mkF m 25 #[.val (.int p1), .val (.int p2), .val (.int p3), .val (.int p4), .val (.int p5), .val (.int p6), .val (.int (p6 &&& (7 : Int32))), .val (.int p5), .unset, .unset, .unset, .unset, .unset, .unset, .unset] [(.int (p6 &&& (7 : Int32)))])) _
      refine XS.iconst X0.here hx rfl (hb hby at_25) ?_
      show Steps p.tables e below (s₁.setTop (mkF m 26 #[.val (.int p1), .val (.int p2), .val (.int p3), .val (.int p4), .val (.int p5), .val (.int p6), .val (.int (p6 &&& (7 : Int32))), .val (.int p5), .unset, .unset, .unset, .unset, .unset, .unset, .unset] [(.int (2 : Int32)), (.int (p6 &&& (7 : Int32)))])) _
      by_cases hc8_26 : (p6 &&& (7 : Int32)) = (2 : Int32)
      · skip
        refine XS.icmpNo X0.here hx rfl (hb hby at_26) rfl (teq hc8_26).2 ?_
        show Steps p.tables e below (s₁.setTop (mkF m 29 #[.val (.int p1), .val (.int p2), .val (.int p3), .val (.int p4), .val (.int p5), .val (.int p6), .val (.int (p6 &&& (7 : Int32))), .val (.int p5), .unset, .unset, .unset, .unset, .unset, .unset, .unset] [])) _
        refine XS.iloadN X0.here hx rfl (hb hby at_29) rfl ?_
        show Steps p.tables e below (s₁.setTop (mkF m 30 #[.val (.int p1), .val (.int p2), .val (.int p3), .val (.int p4), .val (.int p5), .val (.int p6), .val (.int (p6 &&& (7 : Int32))), .val (.int p5), .unset, .unset, .unset, .unset, .unset, .unset, .unset] [(.int p4)])) _
        refine XS.istore X0.here hx rfl (hb hby at_30) rfl (l' := #[.val (.int p1), .val (.int p2), .val (.int p3), .val (.int p4), .val (.int p5), .val (.int p6), .val (.int (p6 &&& (7 : Int32))), .val (.int p4), .unset, .unset, .unset, .unset, .unset, .unset, .unset]) rfl ?_
        show Steps p.tables e below (s₁.setTop (mkF m 32 #[.val (.int p1), .val (.int p2), .val (.int p3), .val (.int p4), .val (.int p5), .val (.int p6), .val (.int (p6 &&& (7 : Int32))), .val (.int p4), .unset, .unset, .unset, .unset, .unset, .unset, .unset] [])) _
        refine XS.goto X0.here hx rfl (pc0 := 32) (pc' := 89) rfl (hb hby at_32) (by decide) (by decide) ?_
        show Steps p.tables e below (s₁.setTop (mkF m 89 #[.val (.int p1), .val (.int p2), .val (.int p3), .val (.int p4), .val (.int p5), .val (.int p6), .val (.int (p6 &&& (7 : Int32))), .val (.int p4), .unset, .unset, .unset, .unset, .unset, .unset, .unset] [])) _
        rw [show (own_v0_14 p3 p4 p5 p6) = p4 from ((if_neg hc7_14).trans ((if_pos hc8_26).trans rfl))] at kt
        exact kt
      · skip
        refine XS.icmpYes X0.here hx rfl (pc0 := 26) (pc' := 35) rfl (hb hby at_26) rfl (feq hc8_26).2 (by decide) (by decide) ?_
        show Steps p.tables e below (s₁.setTop (mkF m 35 #[.val (.int p1), .val (.int p2), .val (.int p3), .val (.int p4), .val (.int p5), .val (.int p6), .val (.int (p6 &&& (7 : Int32))), .val (.int p5), .unset, .unset, .unset, .unset, .unset, .unset, .unset] [])) _
        refine XS.iload X0.here hx rfl (hb hby at_35) rfl ?_
        show Steps p.tables e below (s₁.setTop (mkF m 37 #[.val (.int p1), .val (.int p2), .val (.int p3), .val (.int p4), .val (.int p5), .val (.int p6), .val (.int (p6 &&& (7 : Int32))), .val (.int p5), .unset, .unset, .unset, .unset, .unset, .unset, .unset] [(.int (p6 &&& (7 : Int32)))])) _
        refine XS.iconst X0.here hx rfl (hb hby at_37) ?_
        show Steps p.tables e below (s₁.setTop (mkF m 38 #[.val (.int p1), .val (.int p2), .val (.int p3), .val (.int p4), .val (.int p5), .val (.int p6), .val (.int (p6 &&& (7 : Int32))), .val (.int p5), .unset, .unset, .unset, .unset, .unset, .unset, .unset] [(.int (3 : Int32)), (.int (p6 &&& (7 : Int32)))])) _
        by_cases hc9_38 : (p6 &&& (7 : Int32)) = (3 : Int32)
        · skip
          refine XS.icmpNo X0.here hx rfl (hb hby at_38) rfl (teq hc9_38).2 ?_
          show Steps p.tables e below (s₁.setTop (mkF m 41 #[.val (.int p1), .val (.int p2), .val (.int p3), .val (.int p4), .val (.int p5), .val (.int p6), .val (.int (p6 &&& (7 : Int32))), .val (.int p5), .unset, .unset, .unset, .unset, .unset, .unset, .unset] [])) _
          refine XS.iloadN X0.here hx rfl (hb hby at_41) rfl ?_
          show Steps p.tables e below (s₁.setTop (mkF m 42 #[.val (.int p1), .val (.int p2), .val (.int p3), .val (.int p4), .val (.int p5), .val (.int p6), .val (.int (p6 &&& (7 : Int32))), .val (.int p5), .unset, .unset, .unset, .unset, .unset, .unset, .unset] [(.int p3)])) _
          refine XS.iconst X0.here hx rfl (hb hby at_42) ?_
          show Steps p.tables e below (s₁.setTop (mkF m 43 #[.val (.int p1), .val (.int p2), .val (.int p3), .val (.int p4), .val (.int p5), .val (.int p6), .val (.int (p6 &&& (7 : Int32))), .val (.int p5), .unset, .unset, .unset, .unset, .unset, .unset, .unset] [(.int (1 : Int32)), (.int p3)])) _
          refine XS.isub X0.here hx rfl (hb hby at_43) rfl ?_
          show Steps p.tables e below (s₁.setTop (mkF m 44 #[.val (.int p1), .val (.int p2), .val (.int p3), .val (.int p4), .val (.int p5), .val (.int p6), .val (.int (p6 &&& (7 : Int32))), .val (.int p5), .unset, .unset, .unset, .unset, .unset, .unset, .unset] [(.int (p3 - (1 : Int32)))])) _
          refine XS.istore X0.here hx rfl (hb hby at_44) rfl (l' := #[.val (.int p1), .val (.int p2), .val (.int p3), .val (.int p4), .val (.int p5), .val (.int p6), .val (.int (p6 &&& (7 : Int32))), .val (.int (p3 - (1 : Int32))), .unset, .unset, .unset, .unset, .unset, .unset, .unset]) rfl ?_
          show Steps p.tables e below (s₁.setTop (mkF m 46 #[.val (.int p1), .val (.int p2), .val (.int p3), .val (.int p4), .val (.int p5), .val (.int p6), .val (.int (p6 &&& (7 : Int32))), .val (.int (p3 - (1 : Int32))), .unset, .unset, .unset, .unset, .unset, .unset, .unset] [])) _
          refine XS.goto X0.here hx rfl (pc0 := 46) (pc' := 89) rfl (hb hby at_46) (by decide) (by decide) ?_
          show Steps p.tables e below (s₁.setTop (mkF m 89 #[.val (.int p1), .val (.int p2), .val (.int p3), .val (.int p4), .val (.int p5), .val (.int p6), .val (.int (p6 &&& (7 : Int32))), .val (.int (p3 - (1 : Int32))), .unset, .unset, .unset, .unset, .unset, .unset, .unset] [])) _
          rw [show (own_v0_14 p3 p4 p5 p6) = (p3 - (1 : Int32)) from ((if_neg hc7_14).trans ((if_neg hc8_26).trans ((if_pos hc9_38).trans rfl)))] at kt
          exact kt
        · skip
          refine XS.icmpYes X0.here hx rfl (pc0 := 38) (pc' := 49) rfl (hb hby at_38) rfl (feq hc9_38).2 (by decide) (by decide) ?_
          show Steps p.tables e below (s₁.setTop (mkF m 49 #[.val (.int p1), .val (.int p2), .val (.int p3), .val (.int p4), .val (.int p5), .val (.int p6), .val (.int (p6 &&& (7 : Int32))), .val (.int p5), .unset, .unset, .unset, .unset, .unset, .unset, .unset] [])) _
          refine XS.iload X0.here hx rfl (hb hby at_49) rfl ?_
          show Steps p.tables e below (s₁.setTop (mkF m 51 #[.val (.int p1), .val (.int p2), .val (.int p3), .val (.int p4), .val (.int p5), .val (.int p6), .val (.int (p6 &&& (7 : Int32))), .val (.int p5), .unset, .unset, .unset, .unset, .unset, .unset, .unset] [(.int (p6 &&& (7 : Int32)))])) _
          refine XS.iconst X0.here hx rfl (hb hby at_51) ?_
          show Steps p.tables e below (s₁.setTop (mkF m 52 #[.val (.int p1), .val (.int p2), .val (.int p3), .val (.int p4), .val (.int p5), .val (.int p6), .val (.int (p6 &&& (7 : Int32))), .val (.int p5), .unset, .unset, .unset, .unset, .unset, .unset, .unset] [(.int (4 : Int32)), (.int (p6 &&& (7 : Int32)))])) _
          by_cases hc10_52 : (p6 &&& (7 : Int32)) = (4 : Int32)
          · skip
            refine XS.icmpNo X0.here hx rfl (hb hby at_52) rfl (teq hc10_52).2 ?_
            show Steps p.tables e below (s₁.setTop (mkF m 55 #[.val (.int p1), .val (.int p2), .val (.int p3), .val (.int p4), .val (.int p5), .val (.int p6), .val (.int (p6 &&& (7 : Int32))), .val (.int p5), .unset, .unset, .unset, .unset, .unset, .unset, .unset] [])) _
            refine XS.iloadN X0.here hx rfl (hb hby at_55) rfl ?_
            show Steps p.tables e below (s₁.setTop (mkF m 56 #[.val (.int p1), .val (.int p2), .val (.int p3), .val (.int p4), .val (.int p5), .val (.int p6), .val (.int (p6 &&& (7 : Int32))), .val (.int p5), .unset, .unset, .unset, .unset, .unset, .unset, .unset] [(.int p4)])) _
            refine XS.iconst X0.here hx rfl (hb hby at_56) ?_
            show Steps p.tables e below (s₁.setTop (mkF m 57 #[.val (.int p1), .val (.int p2), .val (.int p3), .val (.int p4), .val (.int p5), .val (.int p6), .val (.int (p6 &&& (7 : Int32))), .val (.int p5), .unset, .unset, .unset, .unset, .unset, .unset, .unset] [(.int (1 : Int32)), (.int p4)])) _
            refine XS.iadd X0.here hx rfl (hb hby at_57) rfl ?_
            show Steps p.tables e below (s₁.setTop (mkF m 58 #[.val (.int p1), .val (.int p2), .val (.int p3), .val (.int p4), .val (.int p5), .val (.int p6), .val (.int (p6 &&& (7 : Int32))), .val (.int p5), .unset, .unset, .unset, .unset, .unset, .unset, .unset] [(.int (p4 + (1 : Int32)))])) _
            refine XS.istore X0.here hx rfl (hb hby at_58) rfl (l' := #[.val (.int p1), .val (.int p2), .val (.int p3), .val (.int p4), .val (.int p5), .val (.int p6), .val (.int (p6 &&& (7 : Int32))), .val (.int (p4 + (1 : Int32))), .unset, .unset, .unset, .unset, .unset, .unset, .unset]) rfl ?_
            show Steps p.tables e below (s₁.setTop (mkF m 60 #[.val (.int p1), .val (.int p2), .val (.int p3), .val (.int p4), .val (.int p5), .val (.int p6), .val (.int (p6 &&& (7 : Int32))), .val (.int (p4 + (1 : Int32))), .unset, .unset, .unset, .unset, .unset, .unset, .unset] [])) _
            refine XS.goto X0.here hx rfl (pc0 := 60) (pc' := 89) rfl (hb hby at_60) (by decide) (by decide) ?_
            show Steps p.tables e below (s₁.setTop (mkF m 89 #[.val (.int p1), .val (.int p2), .val (.int p3), .val (.int p4), .val (.int p5), .val (.int p6), .val (.int (p6 &&& (7 : Int32))), .val (.int (p4 + (1 : Int32))), .unset, .unset, .unset, .unset, .unset, .unset, .unset] [])) _
            rw [show (own_v0_14 p3 p4 p5 p6) = (p4 + (1 : Int32)) from ((if_neg hc7_14).trans ((if_neg hc8_26).trans ((if_neg hc9_38).trans ((if_pos hc10_52).trans rfl))))] at kt
            exact kt
          · skip
            refine XS.icmpYes X0.here hx rfl (pc0 := 52) (pc' := 63) rfl (hb hby at_52) rfl (feq hc10_52).2 (by decide) (by decide) ?_
            show Steps p.tables e below (s₁.setTop (mkF m 63 #[.val (.int p1), .val (.int p2), .val (.int p3), .val (.int p4), .val (.int p5), .val (.int p6), .val (.int (p6 &&& (7 : Int32))), .val (.int p5), .unset, .unset, .unset, .unset, .unset, .unset, .unset] [])) _
            refine XS.iload X0.here hx rfl (hb hby at_63) rfl ?_
            show Steps p.tables e below (s₁.setTop (mkF m 65 #[.val (.int p1), .val (.int p2), .val (.int p3), .val (.int p4), .val (.int p5), .val (.int p6), .val (.int (p6 &&& (7 : Int32))), .val (.int p5), .unset, .unset, .unset, .unset, .unset, .unset, .unset] [(.int (p6 &&& (7 : Int32)))])) _
            refine XS.iconst X0.here hx rfl (hb hby at_65) ?_
            show Steps p.tables e below (s₁.setTop (mkF m 66 #[.val (.int p1), .val (.int p2), .val (.int p3), .val (.int p4), .val (.int p5), .val (.int p6), .val (.int (p6 &&& (7 : Int32))), .val (.int p5), .unset, .unset, .unset, .unset, .unset, .unset, .unset] [(.int (5 : Int32)), (.int (p6 &&& (7 : Int32)))])) _
            by_cases hc11_66 : (p6 &&& (7 : Int32)) = (5 : Int32)
            · skip
              refine XS.icmpNo X0.here hx rfl (hb hby at_66) rfl (teq hc11_66).2 ?_
              show Steps p.tables e below (s₁.setTop (mkF m 69 #[.val (.int p1), .val (.int p2), .val (.int p3), .val (.int p4), .val (.int p5), .val (.int p6), .val (.int (p6 &&& (7 : Int32))), .val (.int p5), .unset, .unset, .unset, .unset, .unset, .unset, .unset] [])) _
              refine XS.iloadN X0.here hx rfl (hb hby at_69) rfl ?_
              show Steps p.tables e below (s₁.setTop (mkF m 70 #[.val (.int p1), .val (.int p2), .val (.int p3), .val (.int p4), .val (.int p5), .val (.int p6), .val (.int (p6 &&& (7 : Int32))), .val (.int p5), .unset, .unset, .unset, .unset, .unset, .unset, .unset] [(.int p3)])) _
              refine XS.iconst X0.here hx rfl (hb hby at_70) ?_
              show Steps p.tables e below (s₁.setTop (mkF m 71 #[.val (.int p1), .val (.int p2), .val (.int p3), .val (.int p4), .val (.int p5), .val (.int p6), .val (.int (p6 &&& (7 : Int32))), .val (.int p5), .unset, .unset, .unset, .unset, .unset, .unset, .unset] [(.int (1 : Int32)), (.int p3)])) _
              refine XS.iadd X0.here hx rfl (hb hby at_71) rfl ?_
              show Steps p.tables e below (s₁.setTop (mkF m 72 #[.val (.int p1), .val (.int p2), .val (.int p3), .val (.int p4), .val (.int p5), .val (.int p6), .val (.int (p6 &&& (7 : Int32))), .val (.int p5), .unset, .unset, .unset, .unset, .unset, .unset, .unset] [(.int (p3 + (1 : Int32)))])) _
              refine XS.istore X0.here hx rfl (hb hby at_72) rfl (l' := #[.val (.int p1), .val (.int p2), .val (.int p3), .val (.int p4), .val (.int p5), .val (.int p6), .val (.int (p6 &&& (7 : Int32))), .val (.int (p3 + (1 : Int32))), .unset, .unset, .unset, .unset, .unset, .unset, .unset]) rfl ?_
              show Steps p.tables e below (s₁.setTop (mkF m 74 #[.val (.int p1), .val (.int p2), .val (.int p3), .val (.int p4), .val (.int p5), .val (.int p6), .val (.int (p6 &&& (7 : Int32))), .val (.int (p3 + (1 : Int32))), .unset, .unset, .unset, .unset, .unset, .unset, .unset] [])) _
              refine XS.goto X0.here hx rfl (pc0 := 74) (pc' := 89) rfl (hb hby at_74) (by decide) (by decide) ?_
              show Steps p.tables e below (s₁.setTop (mkF m 89 #[.val (.int p1), .val (.int p2), .val (.int p3), .val (.int p4), .val (.int p5), .val (.int p6), .val (.int (p6 &&& (7 : Int32))), .val (.int (p3 + (1 : Int32))), .unset, .unset, .unset, .unset, .unset, .unset, .unset] [])) _
              rw [show (own_v0_14 p3 p4 p5 p6) = (p3 + (1 : Int32)) from ((if_neg hc7_14).trans ((if_neg hc8_26).trans ((if_neg hc9_38).trans ((if_neg hc10_52).trans ((if_pos hc11_66).trans rfl)))))] at kt
              exact kt
            · skip
              refine XS.icmpYes X0.here hx rfl (pc0 := 66) (pc' := 77) rfl (hb hby at_66) rfl (feq hc11_66).2 (by decide) (by decide) ?_
              show Steps p.tables e below (s₁.setTop (mkF m 77 #[.val (.int p1), .val (.int p2), .val (.int p3), .val (.int p4), .val (.int p5), .val (.int p6), .val (.int (p6 &&& (7 : Int32))), .val (.int p5), .unset, .unset, .unset, .unset, .unset, .unset, .unset] [])) _
              refine XS.iload X0.here hx rfl (hb hby at_77) rfl ?_
              show Steps p.tables e below (s₁.setTop (mkF m 79 #[.val (.int p1), .val (.int p2), .val (.int p3), .val (.int p4), .val (.int p5), .val (.int p6), .val (.int (p6 &&& (7 : Int32))), .val (.int p5), .unset, .unset, .unset, .unset, .unset, .unset, .unset] [(.int (p6 &&& (7 : Int32)))])) _
              refine XS.bipush X0.here hx rfl (hb hby at_79) ?_
              show Steps p.tables e below (s₁.setTop (mkF m 81 #[.val (.int p1), .val (.int p2), .val (.int p3), .val (.int p4), .val (.int p5), .val (.int p6), .val (.int (p6 &&& (7 : Int32))), .val (.int p5), .unset, .unset, .unset, .unset, .unset, .unset, .unset] [(.int (6 : Int32)), (.int (p6 &&& (7 : Int32)))])) _
              by_cases hc12_81 : (p6 &&& (7 : Int32)) = (6 : Int32)
              · skip
                refine XS.icmpNo X0.here hx rfl (hb hby at_81) rfl (teq hc12_81).2 ?_
                show Steps p.tables e below (s₁.setTop (mkF m 84 #[.val (.int p1), .val (.int p2), .val (.int p3), .val (.int p4), .val (.int p5), .val (.int p6), .val (.int (p6 &&& (7 : Int32))), .val (.int p5), .unset, .unset, .unset, .unset, .unset, .unset, .unset] [])) _
                refine XS.iloadN X0.here hx rfl (hb hby at_84) rfl ?_
                show Steps p.tables e below (s₁.setTop (mkF m 85 #[.val (.int p1), .val (.int p2), .val (.int p3), .val (.int p4), .val (.int p5), .val (.int p6), .val (.int (p6 &&& (7 : Int32))), .val (.int p5), .unset, .unset, .unset, .unset, .unset, .unset, .unset] [(.int p4)])) _
                refine XS.iconst X0.here hx rfl (hb hby at_85) ?_
                show Steps p.tables e below (s₁.setTop (mkF m 86 #[.val (.int p1), .val (.int p2), .val (.int p3), .val (.int p4), .val (.int p5), .val (.int p6), .val (.int (p6 &&& (7 : Int32))), .val (.int p5), .unset, .unset, .unset, .unset, .unset, .unset, .unset] [(.int (1 : Int32)), (.int p4)])) _
                refine XS.isub X0.here hx rfl (hb hby at_86) rfl ?_
                show Steps p.tables e below (s₁.setTop (mkF m 87 #[.val (.int p1), .val (.int p2), .val (.int p3), .val (.int p4), .val (.int p5), .val (.int p6), .val (.int (p6 &&& (7 : Int32))), .val (.int p5), .unset, .unset, .unset, .unset, .unset, .unset, .unset] [(.int (p4 - (1 : Int32)))])) _
                refine XS.istore X0.here hx rfl (hb hby at_87) rfl (l' := #[.val (.int p1), .val (.int p2), .val (.int p3), .val (.int p4), .val (.int p5), .val (.int p6), .val (.int (p6 &&& (7 : Int32))), .val (.int (p4 - (1 : Int32))), .unset, .unset, .unset, .unset, .unset, .unset, .unset]) rfl ?_
                show Steps p.tables e below (s₁.setTop (mkF m 89 #[.val (.int p1), .val (.int p2), .val (.int p3), .val (.int p4), .val (.int p5), .val (.int p6), .val (.int (p6 &&& (7 : Int32))), .val (.int (p4 - (1 : Int32))), .unset, .unset, .unset, .unset, .unset, .unset, .unset] [])) _
                rw [show (own_v0_14 p3 p4 p5 p6) = (p4 - (1 : Int32)) from ((if_neg hc7_14).trans ((if_neg hc8_26).trans ((if_neg hc9_38).trans ((if_neg hc10_52).trans ((if_neg hc11_66).trans ((if_pos hc12_81).trans rfl))))))] at kt
                exact kt
              · skip
                refine XS.icmpYes X0.here hx rfl (pc0 := 81) (pc' := 89) rfl (hb hby at_81) rfl (feq hc12_81).2 (by decide) (by decide) ?_
                show Steps p.tables e below (s₁.setTop (mkF m 89 #[.val (.int p1), .val (.int p2), .val (.int p3), .val (.int p4), .val (.int p5), .val (.int p6), .val (.int (p6 &&& (7 : Int32))), .val (.int p5), .unset, .unset, .unset, .unset, .unset, .unset, .unset] [])) _
                rw [show (own_v0_14 p3 p4 p5 p6) = p5 from ((if_neg hc7_14).trans ((if_neg hc8_26).trans ((if_neg hc9_38).trans ((if_neg hc10_52).trans ((if_neg hc11_66).trans ((if_neg hc12_81).trans rfl))))))] at kt
                exact kt
  show own_Go p.tables e below _ (s₁.setTop (mkF m 89 #[.val (.int p1), .val (.int p2), .val (.int p3), .val (.int p4), .val (.int p5), .val (.int p6), .val (.int (p6 &&& (7 : Int32))), .val (.int (own_v0_14 p3 p4 p5 p6)), .unset, .unset, .unset, .unset, .unset, .unset, .unset] []))
  obtain ⟨T13, h13, X13, e13, E13, A13, D13, -, st13⟩ := newO X0 hx hZ hown (hw _ (List.mem_of_getElem? (i := 0) rfl)) (hw _ (List.mem_of_getElem? (i := 1) rfl)) (hw _ (List.mem_of_getElem? (i := 2) rfl)) e0 (g := (mkF m 89 #[.val (.int p1), .val (.int p2), .val (.int p3), .val (.int p4), .val (.int p5), .val (.int p6), .val (.int (p6 &&& (7 : Int32))), .val (.int (own_v0_14 p3 p4 p5 p6)), .unset, .unset, .unset, .unset, .unset, .unset, .unset] [])) rfl (hb hby at_89) (by decide) (by decide)
  obtain ⟨b13, g13⟩ : ∃ z, z = h0.size := ⟨_, rfl⟩
  rw [← g13] at A13 D13 st13
  refine own_go st13 ?_
  have g_b13 : n0 ≤ b13 := Nat.le_trans Z0 (Nat.le_of_eq g13.symm)
  have sz_b13 : h0.size ≤ b13 := (Nat.le_trans (Keep.refl h0 []).1 (Nat.le_of_eq g13.symm))
  have K13 : Keep h0 h13 [] := (Keep.refl h0 []).ext E13
  have F_line_b13 : Fld Z h13 b13 "com/example/leipzig/leipzig/formats/nupn/NupnFile$Header" "line" "I" (.int (0 : Int32)) := D13 (Or.inr (hw _ (List.mem_of_getElem? (i := 15) rfl))) (ty := .int) (by decide)
  have F_count_b13 : Fld Z h13 b13 "com/example/leipzig/leipzig/formats/nupn/NupnFile$Header" "count" "I" (.int (0 : Int32)) := D13 (Or.inr (hw _ (List.mem_of_getElem? (i := 17) rfl))) (ty := .int) (by decide)
  have F_low_b13 : Fld Z h13 b13 "com/example/leipzig/leipzig/formats/nupn/NupnFile$Header" "low" "I" (.int (0 : Int32)) := D13 (Or.inr (hw _ (List.mem_of_getElem? (i := 19) rfl))) (ty := .int) (by decide)
  have F_high_b13 : Fld Z h13 b13 "com/example/leipzig/leipzig/formats/nupn/NupnFile$Header" "high" "I" (.int (0 : Int32)) := D13 (Or.inr (hw _ (List.mem_of_getElem? (i := 21) rfl))) (ty := .int) (by decide)
  show own_Go p.tables e below _ (T13.setTop (mkF m 92 #[.val (.int p1), .val (.int p2), .val (.int p3), .val (.int p4), .val (.int p5), .val (.int p6), .val (.int (p6 &&& (7 : Int32))), .val (.int (own_v0_14 p3 p4 p5 p6)), .unset, .unset, .unset, .unset, .unset, .unset, .unset] [(.ref b13)]))
  refine own_go (fun _ => XS.dup X13.here hx rfl (hb hby at_92) rfl rfl) ?_
  show own_Go p.tables e below _ (T13.setTop (mkF m 93 #[.val (.int p1), .val (.int p2), .val (.int p3), .val (.int p4), .val (.int p5), .val (.int p6), .val (.int (p6 &&& (7 : Int32))), .val (.int (own_v0_14 p3 p4 p5 p6)), .unset, .unset, .unset, .unset, .unset, .unset, .unset] [(.ref b13), (.ref b13)]))
  refine own_go (fun _ => XS.iloadN X13.here hx rfl (hb hby at_93) rfl) ?_
  show own_Go p.tables e below _ (T13.setTop (mkF m 94 #[.val (.int p1), .val (.int p2), .val (.int p3), .val (.int p4), .val (.int p5), .val (.int p6), .val (.int (p6 &&& (7 : Int32))), .val (.int (own_v0_14 p3 p4 p5 p6)), .unset, .unset, .unset, .unset, .unset, .unset, .unset] [(.int p1), (.ref b13), (.ref b13)]))
  refine own_go (fun _ => XS.iloadN X13.here hx rfl (hb hby at_94) rfl) ?_
  show own_Go p.tables e below _ (T13.setTop (mkF m 95 #[.val (.int p1), .val (.int p2), .val (.int p3), .val (.int p4), .val (.int p5), .val (.int p6), .val (.int (p6 &&& (7 : Int32))), .val (.int (own_v0_14 p3 p4 p5 p6)), .unset, .unset, .unset, .unset, .unset, .unset, .unset] [(.int p2), (.int p1), (.ref b13), (.ref b13)]))
  refine own_go (fun _ => XS.iloadN X13.here hx rfl (hb hby at_95) rfl) ?_
  show own_Go p.tables e below _ (T13.setTop (mkF m 96 #[.val (.int p1), .val (.int p2), .val (.int p3), .val (.int p4), .val (.int p5), .val (.int p6), .val (.int (p6 &&& (7 : Int32))), .val (.int (own_v0_14 p3 p4 p5 p6)), .unset, .unset, .unset, .unset, .unset, .unset, .unset] [(.int p3), (.int p2), (.int p1), (.ref b13), (.ref b13)]))
  refine own_go (fun _ => XS.iloadN X13.here hx rfl (hb hby at_96) rfl) ?_
  show own_Go p.tables e below _ (T13.setTop (mkF m 97 #[.val (.int p1), .val (.int p2), .val (.int p3), .val (.int p4), .val (.int p5), .val (.int p6), .val (.int (p6 &&& (7 : Int32))), .val (.int (own_v0_14 p3 p4 p5 p6)), .unset, .unset, .unset, .unset, .unset, .unset, .unset] [(.int p4), (.int p3), (.int p2), (.int p1), (.ref b13), (.ref b13)]))
  obtain ⟨_, _, ⟨T14, L14, k14, n14⟩, -, X14, ⟨Lc14, hQ14, l14, y14, z14⟩, st14⟩ := X13.specialBack hx (y := (⟨"com/example/leipzig/leipzig/formats/nupn/NupnFile$Header", "<init>", "(IIII)V"⟩ : MethodName)) rfl hown (mvT hZ (hw _ (List.mem_of_getElem? (i := 3) rfl))) (mvT hZ (hw _ (List.mem_of_getElem? (i := 4) rfl))) (mvT hZ (hw _ (List.mem_of_getElem? (i := 5) rfl))) (by decide) (backOf (W := 1) (rm1 l Z a0 hw [] b13 p1 p2 p3 p4 (.int (0 : Int32)) (.int (0 : Int32)) (.int (0 : Int32)) (.int (0 : Int32)) h13 n0 (Nat.le_trans Z0 E13.1) A13 F_line_b13 g_b13 F_count_b13 F_low_b13 F_high_b13) hZ (hw _ (List.mem_of_getElem? (i := 5) rfl)) (hw _ (List.mem_of_getElem? (i := 2) rfl)) (by decide) (by decide)) (g := (mkF m 97 #[.val (.int p1), .val (.int p2), .val (.int p3), .val (.int p4), .val (.int p5), .val (.int p6), .val (.int (p6 &&& (7 : Int32))), .val (.int (own_v0_14 p3 p4 p5 p6)), .unset, .unset, .unset, .unset, .unset, .unset, .unset] [(.int p4), (.int p3), (.int p2), (.int p1), (.ref b13), (.ref b13)])) rfl (by rw [hml]; rfl) (Steps.refl _) (a := b13) (argsL := [(.int p1), (.int p2), (.int p3), (.int p4)]) (rest := [(.ref b13)]) (lenOf pd_0 rfl) rfl (by show 2 * 0 + _ ≤ _; exact Nat.le_of_eq rfl) (hb hby at_97) (fun _ _ => ⟨rfl, e13, (by decide : 1 + 0 ≤ _), (by decide : 4 + 0 ≤ _)⟩)
  dsimp only [Pt.U, Pt.locs, Pt.cells, Pt.slots] at X14 l14 y14 z14 st14 hQ14
  subst l14 y14 z14
  obtain ⟨rfl, N14q, Kc14, F14_0, F14_1, F14_2, F14_3, F14_4⟩ := hQ14
  have N14 := Fr.app N0 N14q
  refine own_via st14 ?_
  have K14 : Keep h0 T14.heap [] := K13.trans Kc14 (allS (Or.inr sz_b13) all0)
  show own_Go p.tables e below _ (T14.setTop (mkF m 100 #[.val (.int p1), .val (.int p2), .val (.int p3), .val (.int p4), .val (.int p5), .val (.int p6), .val (.int (p6 &&& (7 : Int32))), .val (.int (own_v0_14 p3 p4 p5 p6)), .unset, .unset, .unset, .unset, .unset, .unset, .unset] [(.ref b13)]))
  refine own_go (fun _ => XS.astore X14.here hx rfl (hb hby at_100) rfl rfl (l' := #[.val (.int p1), .val (.int p2), .val (.int p3), .val (.int p4), .val (.int p5), .val (.int p6), .val (.int (p6 &&& (7 : Int32))), .val (.int (own_v0_14 p3 p4 p5 p6)), .val (.ref b13), .unset, .unset, .unset, .unset, .unset, .unset]) rfl) ?_
  show own_Go p.tables e below _ (T14.setTop (mkF m 102 #[.val (.int p1), .val (.int p2), .val (.int p3), .val (.int p4), .val (.int p5), .val (.int p6), .val (.int (p6 &&& (7 : Int32))), .val (.int (own_v0_14 p3 p4 p5 p6)), .val (.ref b13), .unset, .unset, .unset, .unset, .unset, .unset] []))
  refine own_go (fun _ => XS.aload X14.here hx rfl (hb hby at_102) rfl rfl) ?_
  show own_Go p.tables e below _ (T14.setTop (mkF m 104 #[.val (.int p1), .val (.int p2), .val (.int p3), .val (.int p4), .val (.int p5), .val (.int p6), .val (.int (p6 &&& (7 : Int32))), .val (.int (own_v0_14 p3 p4 p5 p6)), .val (.ref b13), .unset, .unset, .unset, .unset, .unset, .unset] [(.ref b13)]))
  refine own_go (fun _ => XS.iload X14.here hx rfl (hb hby at_104) rfl) ?_
  show own_Go p.tables e below _ (T14.setTop (mkF m 106 #[.val (.int p1), .val (.int p2), .val (.int p3), .val (.int p4), .val (.int p5), .val (.int p6), .val (.int (p6 &&& (7 : Int32))), .val (.int (own_v0_14 p3 p4 p5 p6)), .val (.ref b13), .unset, .unset, .unset, .unset, .unset, .unset] [(.int (own_v0_14 p3 p4 p5 p6)), (.ref b13)]))
  obtain ⟨cq15, kq15, q15a, q15b, q15c⟩ := isOf hZ rfl F14_0
  obtain ⟨_, _, ⟨T15, L15, k15, n15⟩, -, X15, ⟨Lc15, hQ15, l15, y15, z15⟩, st15⟩ := X14.virtualBack hx (y := (⟨"com/example/leipzig/leipzig/formats/nupn/NupnFile$Header", "holds", "(I)Z"⟩ : MethodName)) (z := (⟨"com/example/leipzig/leipzig/formats/nupn/NupnFile$Header", "holds", "(I)Z"⟩ : MethodName)) hown (mvT hZ (hw _ (List.mem_of_getElem? (i := 22) rfl))) (mvT hZ (hw _ (List.mem_of_getElem? (i := 23) rfl))) (notFace_of_selects (args := #[]) (mvT hZ (hw _ (List.mem_of_getElem? (i := 25) rfl)))) (mvT hZ (hw _ (List.mem_of_getElem? (i := 25) rfl))) (mvT hZ (hw _ (List.mem_of_getElem? (i := 24) rfl))) (by decide) (backOf (W := 0) (rm4 l Z a0 hw [] b13 (own_v0_14 p3 p4 p5 p6) p3 p4 T14.heap n0 (Nat.le_trans (Nat.le_trans Z0 E13.1) Kc14.1) F14_3 F14_4) hZ (hw _ (List.mem_of_getElem? (i := 26) rfl)) (hw _ (List.mem_of_getElem? (i := 2) rfl)) (by decide) (by decide)) q15a q15c (g := (mkF m 106 #[.val (.int p1), .val (.int p2), .val (.int p3), .val (.int p4), .val (.int p5), .val (.int p6), .val (.int (p6 &&& (7 : Int32))), .val (.int (own_v0_14 p3 p4 p5 p6)), .val (.ref b13), .unset, .unset, .unset, .unset, .unset, .unset] [(.int (own_v0_14 p3 p4 p5 p6)), (.ref b13)])) rfl (by rw [hml]; rfl) (Steps.refl _) (argsL := [(.int (own_v0_14 p3 p4 p5 p6))]) (rest := []) (lenOf pd_2 rfl) rfl (by show 2 * 0 + _ ≤ _; exact Nat.le_of_eq rfl) (hb hby at_106) (fun _ _ => ⟨rfl, rfl, (by decide : 1 + 0 ≤ _), (by decide : 4 + 0 ≤ _)⟩)
  dsimp only [Pt.U, Pt.locs, Pt.cells, Pt.slots] at X15 l15 y15 z15 st15 hQ15
  subst l15 y15 z15
  obtain ⟨rfl, N15q, e15⟩ := hQ15
  have N15 := Fr.app N14 N15q
  refine own_via st15 ?_
  show own_Go p.tables e below _ (T15.setTop (mkF m 109 #[.val (.int p1), .val (.int p2), .val (.int p3), .val (.int p4), .val (.int p5), .val (.int p6), .val (.int (p6 &&& (7 : Int32))), .val (.int (own_v0_14 p3 p4 p5 p6)), .val (.ref b13), .unset, .unset, .unset, .unset, .unset, .unset] [(.int (own_f4 (own_v0_14 p3 p4 p5 p6) p3 p4))]))
  refine own_go (fun _ => XS.istore X15.here hx rfl (hb hby at_109) rfl (l' := #[.val (.int p1), .val (.int p2), .val (.int p3), .val (.int p4), .val (.int p5), .val (.int p6), .val (.int (p6 &&& (7 : Int32))), .val (.int (own_v0_14 p3 p4 p5 p6)), .val (.ref b13), .val (.int (own_f4 (own_v0_14 p3 p4 p5 p6) p3 p4)), .unset, .unset, .unset, .unset, .unset]) rfl) ?_
  show own_Go p.tables e below _ (T15.setTop (mkF m 111 #[.val (.int p1), .val (.int p2), .val (.int p3), .val (.int p4), .val (.int p5), .val (.int p6), .val (.int (p6 &&& (7 : Int32))), .val (.int (own_v0_14 p3 p4 p5 p6)), .val (.ref b13), .val (.int (own_f4 (own_v0_14 p3 p4 p5 p6) p3 p4)), .unset, .unset, .unset, .unset, .unset] []))
  refine own_go (fun _ => XS.iload X15.here hx rfl (hb hby at_111) rfl) ?_
  show own_Go p.tables e below _ (T15.setTop (mkF m 113 #[.val (.int p1), .val (.int p2), .val (.int p3), .val (.int p4), .val (.int p5), .val (.int p6), .val (.int (p6 &&& (7 : Int32))), .val (.int (own_v0_14 p3 p4 p5 p6)), .val (.ref b13), .val (.int (own_f4 (own_v0_14 p3 p4 p5 p6) p3 p4)), .unset, .unset, .unset, .unset, .unset] [(.int (own_v0_14 p3 p4 p5 p6))]))
  refine own_go (fun _ => XS.i2l X15.here hx rfl (hb hby at_113) rfl) ?_
  show own_Go p.tables e below _ (T15.setTop (mkF m 114 #[.val (.int p1), .val (.int p2), .val (.int p3), .val (.int p4), .val (.int p5), .val (.int p6), .val (.int (p6 &&& (7 : Int32))), .val (.int (own_v0_14 p3 p4 p5 p6)), .val (.ref b13), .val (.int (own_f4 (own_v0_14 p3 p4 p5 p6) p3 p4)), .unset, .unset, .unset, .unset, .unset] [(.long ((own_v0_14 p3 p4 p5 p6).toInt64))]))
  refine own_go (fun _ => XS.iloadN X15.here hx rfl (hb hby at_114) rfl) ?_
  show own_Go p.tables e below _ (T15.setTop (mkF m 115 #[.val (.int p1), .val (.int p2), .val (.int p3), .val (.int p4), .val (.int p5), .val (.int p6), .val (.int (p6 &&& (7 : Int32))), .val (.int (own_v0_14 p3 p4 p5 p6)), .val (.ref b13), .val (.int (own_f4 (own_v0_14 p3 p4 p5 p6) p3 p4)), .unset, .unset, .unset, .unset, .unset] [(.int p3), (.long ((own_v0_14 p3 p4 p5 p6).toInt64))]))
  refine own_go (fun _ => XS.i2l X15.here hx rfl (hb hby at_115) rfl) ?_
  show own_Go p.tables e below _ (T15.setTop (mkF m 116 #[.val (.int p1), .val (.int p2), .val (.int p3), .val (.int p4), .val (.int p5), .val (.int p6), .val (.int (p6 &&& (7 : Int32))), .val (.int (own_v0_14 p3 p4 p5 p6)), .val (.ref b13), .val (.int (own_f4 (own_v0_14 p3 p4 p5 p6) p3 p4)), .unset, .unset, .unset, .unset, .unset] [(.long (p3.toInt64)), (.long ((own_v0_14 p3 p4 p5 p6).toInt64))]))
  refine own_go (fun _ => XS.lsub X15.here hx rfl (hb hby at_116) rfl) ?_
  show own_Go p.tables e below _ (T15.setTop (mkF m 117 #[.val (.int p1), .val (.int p2), .val (.int p3), .val (.int p4), .val (.int p5), .val (.int p6), .val (.int (p6 &&& (7 : Int32))), .val (.int (own_v0_14 p3 p4 p5 p6)), .val (.ref b13), .val (.int (own_f4 (own_v0_14 p3 p4 p5 p6) p3 p4)), .unset, .unset, .unset, .unset, .unset] [(.long (((own_v0_14 p3 p4 p5 p6).toInt64) - (p3.toInt64)))]))
  refine own_go (fun _ => XS.lstore X15.here hx rfl (hb hby at_117) rfl (l' := #[.val (.int p1), .val (.int p2), .val (.int p3), .val (.int p4), .val (.int p5), .val (.int p6), .val (.int (p6 &&& (7 : Int32))), .val (.int (own_v0_14 p3 p4 p5 p6)), .val (.ref b13), .val (.int (own_f4 (own_v0_14 p3 p4 p5 p6) p3 p4)), .val (.long (((own_v0_14 p3 p4 p5 p6).toInt64) - (p3.toInt64))), .second, .unset, .unset, .unset]) rfl) ?_
  show own_Go p.tables e below _ (T15.setTop (mkF m 119 #[.val (.int p1), .val (.int p2), .val (.int p3), .val (.int p4), .val (.int p5), .val (.int p6), .val (.int (p6 &&& (7 : Int32))), .val (.int (own_v0_14 p3 p4 p5 p6)), .val (.ref b13), .val (.int (own_f4 (own_v0_14 p3 p4 p5 p6) p3 p4)), .val (.long (((own_v0_14 p3 p4 p5 p6).toInt64) - (p3.toInt64))), .second, .unset, .unset, .unset] []))
  refine own_go (fun _ => XS.iloadN X15.here hx rfl (hb hby at_119) rfl) ?_
  show own_Go p.tables e below _ (T15.setTop (mkF m 120 #[.val (.int p1), .val (.int p2), .val (.int p3), .val (.int p4), .val (.int p5), .val (.int p6), .val (.int (p6 &&& (7 : Int32))), .val (.int (own_v0_14 p3 p4 p5 p6)), .val (.ref b13), .val (.int (own_f4 (own_v0_14 p3 p4 p5 p6) p3 p4)), .val (.long (((own_v0_14 p3 p4 p5 p6).toInt64) - (p3.toInt64))), .second, .unset, .unset, .unset] [(.int p4)]))
  refine own_go (fun _ => XS.i2l X15.here hx rfl (hb hby at_120) rfl) ?_
  show own_Go p.tables e below _ (T15.setTop (mkF m 121 #[.val (.int p1), .val (.int p2), .val (.int p3), .val (.int p4), .val (.int p5), .val (.int p6), .val (.int (p6 &&& (7 : Int32))), .val (.int (own_v0_14 p3 p4 p5 p6)), .val (.ref b13), .val (.int (own_f4 (own_v0_14 p3 p4 p5 p6) p3 p4)), .val (.long (((own_v0_14 p3 p4 p5 p6).toInt64) - (p3.toInt64))), .second, .unset, .unset, .unset] [(.long (p4.toInt64))]))
  refine own_go (fun _ => XS.iload X15.here hx rfl (hb hby at_121) rfl) ?_
  show own_Go p.tables e below _ (T15.setTop (mkF m 123 #[.val (.int p1), .val (.int p2), .val (.int p3), .val (.int p4), .val (.int p5), .val (.int p6), .val (.int (p6 &&& (7 : Int32))), .val (.int (own_v0_14 p3 p4 p5 p6)), .val (.ref b13), .val (.int (own_f4 (own_v0_14 p3 p4 p5 p6) p3 p4)), .val (.long (((own_v0_14 p3 p4 p5 p6).toInt64) - (p3.toInt64))), .second, .unset, .unset, .unset] [(.int (own_v0_14 p3 p4 p5 p6)), (.long (p4.toInt64))]))
  refine own_go (fun _ => XS.i2l X15.here hx rfl (hb hby at_123) rfl) ?_
  show own_Go p.tables e below _ (T15.setTop (mkF m 124 #[.val (.int p1), .val (.int p2), .val (.int p3), .val (.int p4), .val (.int p5), .val (.int p6), .val (.int (p6 &&& (7 : Int32))), .val (.int (own_v0_14 p3 p4 p5 p6)), .val (.ref b13), .val (.int (own_f4 (own_v0_14 p3 p4 p5 p6) p3 p4)), .val (.long (((own_v0_14 p3 p4 p5 p6).toInt64) - (p3.toInt64))), .second, .unset, .unset, .unset] [(.long ((own_v0_14 p3 p4 p5 p6).toInt64)), (.long (p4.toInt64))]))
  refine own_go (fun _ => XS.lsub X15.here hx rfl (hb hby at_124) rfl) ?_
  show own_Go p.tables e below _ (T15.setTop (mkF m 125 #[.val (.int p1), .val (.int p2), .val (.int p3), .val (.int p4), .val (.int p5), .val (.int p6), .val (.int (p6 &&& (7 : Int32))), .val (.int (own_v0_14 p3 p4 p5 p6)), .val (.ref b13), .val (.int (own_f4 (own_v0_14 p3 p4 p5 p6) p3 p4)), .val (.long (((own_v0_14 p3 p4 p5 p6).toInt64) - (p3.toInt64))), .second, .unset, .unset, .unset] [(.long ((p4.toInt64) - ((own_v0_14 p3 p4 p5 p6).toInt64)))]))
  refine own_go (fun _ => XS.lstore X15.here hx rfl (hb hby at_125) rfl (l' := #[.val (.int p1), .val (.int p2), .val (.int p3), .val (.int p4), .val (.int p5), .val (.int p6), .val (.int (p6 &&& (7 : Int32))), .val (.int (own_v0_14 p3 p4 p5 p6)), .val (.ref b13), .val (.int (own_f4 (own_v0_14 p3 p4 p5 p6) p3 p4)), .val (.long (((own_v0_14 p3 p4 p5 p6).toInt64) - (p3.toInt64))), .second, .val (.long ((p4.toInt64) - ((own_v0_14 p3 p4 p5 p6).toInt64))), .second, .unset]) rfl) ?_
  show own_Go p.tables e below _ (T15.setTop (mkF m 127 #[.val (.int p1), .val (.int p2), .val (.int p3), .val (.int p4), .val (.int p5), .val (.int p6), .val (.int (p6 &&& (7 : Int32))), .val (.int (own_v0_14 p3 p4 p5 p6)), .val (.ref b13), .val (.int (own_f4 (own_v0_14 p3 p4 p5 p6) p3 p4)), .val (.long (((own_v0_14 p3 p4 p5 p6).toInt64) - (p3.toInt64))), .second, .val (.long ((p4.toInt64) - ((own_v0_14 p3 p4 p5 p6).toInt64))), .second, .unset] []))
  refine own_go (fun _ => XS.lload X15.here hx rfl (hb hby at_127) rfl) ?_
  show own_Go p.tables e below _ (T15.setTop (mkF m 129 #[.val (.int p1), .val (.int p2), .val (.int p3), .val (.int p4), .val (.int p5), .val (.int p6), .val (.int (p6 &&& (7 : Int32))), .val (.int (own_v0_14 p3 p4 p5 p6)), .val (.ref b13), .val (.int (own_f4 (own_v0_14 p3 p4 p5 p6) p3 p4)), .val (.long (((own_v0_14 p3 p4 p5 p6).toInt64) - (p3.toInt64))), .second, .val (.long ((p4.toInt64) - ((own_v0_14 p3 p4 p5 p6).toInt64))), .second, .unset] [(.long (((own_v0_14 p3 p4 p5 p6).toInt64) - (p3.toInt64)))]))
  refine own_go (fun _ => XS.lload X15.here hx rfl (hb hby at_129) rfl) ?_
  show own_Go p.tables e below _ (T15.setTop (mkF m 131 #[.val (.int p1), .val (.int p2), .val (.int p3), .val (.int p4), .val (.int p5), .val (.int p6), .val (.int (p6 &&& (7 : Int32))), .val (.int (own_v0_14 p3 p4 p5 p6)), .val (.ref b13), .val (.int (own_f4 (own_v0_14 p3 p4 p5 p6) p3 p4)), .val (.long (((own_v0_14 p3 p4 p5 p6).toInt64) - (p3.toInt64))), .second, .val (.long ((p4.toInt64) - ((own_v0_14 p3 p4 p5 p6).toInt64))), .second, .unset] [(.long ((p4.toInt64) - ((own_v0_14 p3 p4 p5 p6).toInt64))), (.long (((own_v0_14 p3 p4 p5 p6).toInt64) - (p3.toInt64)))]))
  refine own_go (fun _ => XS.lor X15.here hx rfl (hb hby at_131) rfl) ?_
  show own_Go p.tables e below _ (T15.setTop (mkF m 132 #[.val (.int p1), .val (.int p2), .val (.int p3), .val (.int p4), .val (.int p5), .val (.int p6), .val (.int (p6 &&& (7 : Int32))), .val (.int (own_v0_14 p3 p4 p5 p6)), .val (.ref b13), .val (.int (own_f4 (own_v0_14 p3 p4 p5 p6) p3 p4)), .val (.long (((own_v0_14 p3 p4 p5 p6).toInt64) - (p3.toInt64))), .second, .val (.long ((p4.toInt64) - ((own_v0_14 p3 p4 p5 p6).toInt64))), .second, .unset] [(.long ((((own_v0_14 p3 p4 p5 p6).toInt64) - (p3.toInt64)) ||| ((p4.toInt64) - ((own_v0_14 p3 p4 p5 p6).toInt64))))]))
  refine own_go (fun _ => XS.lconst X15.here hx rfl (hb hby at_132)) ?_
  show own_Go p.tables e below _ (T15.setTop (mkF m 133 #[.val (.int p1), .val (.int p2), .val (.int p3), .val (.int p4), .val (.int p5), .val (.int p6), .val (.int (p6 &&& (7 : Int32))), .val (.int (own_v0_14 p3 p4 p5 p6)), .val (.ref b13), .val (.int (own_f4 (own_v0_14 p3 p4 p5 p6) p3 p4)), .val (.long (((own_v0_14 p3 p4 p5 p6).toInt64) - (p3.toInt64))), .second, .val (.long ((p4.toInt64) - ((own_v0_14 p3 p4 p5 p6).toInt64))), .second, .unset] [(.long (0 : Int64)), (.long ((((own_v0_14 p3 p4 p5 p6).toInt64) - (p3.toInt64)) ||| ((p4.toInt64) - ((own_v0_14 p3 p4 p5 p6).toInt64))))]))
  refine own_go (fun _ => XS.lcmp X15.here hx rfl (hb hby at_133) rfl) ?_
  refine own_go (S' := T15.setTop (mkF m 142 #[.val (.int p1), .val (.int p2), .val (.int p3), .val (.int p4), .val (.int p5), .val (.int p6), .val (.int (p6 &&& (7 : Int32))), .val (.int (own_v0_14 p3 p4 p5 p6)), .val (.ref b13), .val (.int (own_f4 (own_v0_14 p3 p4 p5 p6) p3 p4)), .val (.long (((own_v0_14 p3 p4 p5 p6).toInt64) - (p3.toInt64))), .second, .val (.long ((p4.toInt64) - ((own_v0_14 p3 p4 p5 p6).toInt64))), .second, .unset] [(.int (own_v0_134 p3 p4 p5 p6))])) (fun t kt => ?_) ?_
  · skip
    show Steps p.tables e below (T15.setTop (mkF m 134 #[.val (.int p1), .val (.int p2), .val (.int p3), .val (.int p4), .val (.int p5), .val (.int p6), .val (.int (p6 &&& (7 : Int32))), .val (.int (own_v0_14 p3 p4 p5 p6)), .val (.ref b13), .val (.int (own_f4 (own_v0_14 p3 p4 p5 p6) p3 p4)), .val (.long (((own_v0_14 p3 p4 p5 p6).toInt64) - (p3.toInt64))), .second, .val (.long ((p4.toInt64) - ((own_v0_14 p3 p4 p5 p6).toInt64))), .second, .unset] [(.int (lcmpW ((((own_v0_14 p3 p4 p5 p6).toInt64) - (p3.toInt64)) ||| ((p4.toInt64) - ((own_v0_14 p3 p4 p5 p6).toInt64))) (0 : Int64)))])) _
    by_cases hc16_134 : (lcmpW ((((own_v0_14 p3 p4 p5 p6).toInt64) - (p3.toInt64)) ||| ((p4.toInt64) - ((own_v0_14 p3 p4 p5 p6).toInt64))) (0 : Int64)) < (0 : Int32)
    · skip
      refine XS.ifYes X15.here hx rfl (pc0 := 134) (pc' := 141) rfl (hb hby at_134) rfl ((if0 _ _).trans (tlt hc16_134).1) (by decide) (by decide) ?_
      show Steps p.tables e below (T15.setTop (mkF m 141 #[.val (.int p1), .val (.int p2), .val (.int p3), .val (.int p4), .val (.int p5), .val (.int p6), .val (.int (p6 &&& (7 : Int32))), .val (.int (own_v0_14 p3 p4 p5 p6)), .val (.ref b13), .val (.int (own_f4 (own_v0_14 p3 p4 p5 p6) p3 p4)), .val (.long (((own_v0_14 p3 p4 p5 p6).toInt64) - (p3.toInt64))), .second, .val (.long ((p4.toInt64) - ((own_v0_14 p3 p4 p5 p6).toInt64))), .second, .unset] [])) _
      refine XS.iconst X15.here hx rfl (hb hby at_141) ?_
      show Steps p.tables e below (T15.setTop (mkF m 142 #[.val (.int p1), .val (.int p2), .val (.int p3), .val (.int p4), .val (.int p5), .val (.int p6), .val (.int (p6 &&& (7 : Int32))), .val (.int (own_v0_14 p3 p4 p5 p6)), .val (.ref b13), .val (.int (own_f4 (own_v0_14 p3 p4 p5 p6) p3 p4)), .val (.long (((own_v0_14 p3 p4 p5 p6).toInt64) - (p3.toInt64))), .second, .val (.long ((p4.toInt64) - ((own_v0_14 p3 p4 p5 p6).toInt64))), .second, .unset] [(.int (0 : Int32))])) _
      rw [show (own_v0_134 p3 p4 p5 p6) = (0 : Int32) from ((if_pos hc16_134).trans rfl)] at kt
      exact kt
    · skip
      refine XS.ifNo X15.here hx rfl (hb hby at_134) rfl ((if0 _ _).trans (flt hc16_134).1) ?_
      show Steps p.tables e below (T15.setTop (mkF m 137 #[.val (.int p1), .val (.int p2), .val (.int p3), .val (.int p4), .val (.int p5), .val (.int p6), .val (.int (p6 &&& (7 : Int32))), .val (.int (own_v0_14 p3 p4 p5 p6)), .val (.ref b13), .val (.int (own_f4 (own_v0_14 p3 p4 p5 p6) p3 p4)), .val (.long (((own_v0_14 p3 p4 p5 p6).toInt64) - (p3.toInt64))), .second, .val (.long ((p4.toInt64) - ((own_v0_14 p3 p4 p5 p6).toInt64))), .second, .unset] [])) _
      refine XS.iconst X15.here hx rfl (hb hby at_137) ?_
      show Steps p.tables e below (T15.setTop (mkF m 138 #[.val (.int p1), .val (.int p2), .val (.int p3), .val (.int p4), .val (.int p5), .val (.int p6), .val (.int (p6 &&& (7 : Int32))), .val (.int (own_v0_14 p3 p4 p5 p6)), .val (.ref b13), .val (.int (own_f4 (own_v0_14 p3 p4 p5 p6) p3 p4)), .val (.long (((own_v0_14 p3 p4 p5 p6).toInt64) - (p3.toInt64))), .second, .val (.long ((p4.toInt64) - ((own_v0_14 p3 p4 p5 p6).toInt64))), .second, .unset] [(.int (1 : Int32))])) _
      refine XS.goto X15.here hx rfl (pc0 := 138) (pc' := 142) rfl (hb hby at_138) (by decide) (by decide) ?_
      show Steps p.tables e below (T15.setTop (mkF m 142 #[.val (.int p1), .val (.int p2), .val (.int p3), .val (.int p4), .val (.int p5), .val (.int p6), .val (.int (p6 &&& (7 : Int32))), .val (.int (own_v0_14 p3 p4 p5 p6)), .val (.ref b13), .val (.int (own_f4 (own_v0_14 p3 p4 p5 p6) p3 p4)), .val (.long (((own_v0_14 p3 p4 p5 p6).toInt64) - (p3.toInt64))), .second, .val (.long ((p4.toInt64) - ((own_v0_14 p3 p4 p5 p6).toInt64))), .second, .unset] [(.int (1 : Int32))])) _
      rw [show (own_v0_134 p3 p4 p5 p6) = (1 : Int32) from ((if_neg hc16_134).trans rfl)] at kt
      exact kt
  show own_Go p.tables e below _ (T15.setTop (mkF m 142 #[.val (.int p1), .val (.int p2), .val (.int p3), .val (.int p4), .val (.int p5), .val (.int p6), .val (.int (p6 &&& (7 : Int32))), .val (.int (own_v0_14 p3 p4 p5 p6)), .val (.ref b13), .val (.int (own_f4 (own_v0_14 p3 p4 p5 p6) p3 p4)), .val (.long (((own_v0_14 p3 p4 p5 p6).toInt64) - (p3.toInt64))), .second, .val (.long ((p4.toInt64) - ((own_v0_14 p3 p4 p5 p6).toInt64))), .second, .unset] [(.int (own_v0_134 p3 p4 p5 p6))]))
  refine own_go (fun _ => XS.istore X15.here hx rfl (hb hby at_142) rfl (l' := #[.val (.int p1), .val (.int p2), .val (.int p3), .val (.int p4), .val (.int p5), .val (.int p6), .val (.int (p6 &&& (7 : Int32))), .val (.int (own_v0_14 p3 p4 p5 p6)), .val (.ref b13), .val (.int (own_f4 (own_v0_14 p3 p4 p5 p6) p3 p4)), .val (.long (((own_v0_14 p3 p4 p5 p6).toInt64) - (p3.toInt64))), .second, .val (.long ((p4.toInt64) - ((own_v0_14 p3 p4 p5 p6).toInt64))), .second, .val (.int (own_v0_134 p3 p4 p5 p6))]) rfl) ?_
  show own_Go p.tables e below _ (T15.setTop (mkF m 144 #[.val (.int p1), .val (.int p2), .val (.int p3), .val (.int p4), .val (.int p5), .val (.int p6), .val (.int (p6 &&& (7 : Int32))), .val (.int (own_v0_14 p3 p4 p5 p6)), .val (.ref b13), .val (.int (own_f4 (own_v0_14 p3 p4 p5 p6) p3 p4)), .val (.long (((own_v0_14 p3 p4 p5 p6).toInt64) - (p3.toInt64))), .second, .val (.long ((p4.toInt64) - ((own_v0_14 p3 p4 p5 p6).toInt64))), .second, .val (.int (own_v0_134 p3 p4 p5 p6))] []))
  refine own_go (fun _ => XS.iload X15.here hx rfl (hb hby at_144) rfl) ?_
  show own_Go p.tables e below _ (T15.setTop (mkF m 146 #[.val (.int p1), .val (.int p2), .val (.int p3), .val (.int p4), .val (.int p5), .val (.int p6), .val (.int (p6 &&& (7 : Int32))), .val (.int (own_v0_14 p3 p4 p5 p6)), .val (.ref b13), .val (.int (own_f4 (own_v0_14 p3 p4 p5 p6) p3 p4)), .val (.long (((own_v0_14 p3 p4 p5 p6).toInt64) - (p3.toInt64))), .second, .val (.long ((p4.toInt64) - ((own_v0_14 p3 p4 p5 p6).toInt64))), .second, .val (.int (own_v0_134 p3 p4 p5 p6))] [(.int (own_f4 (own_v0_14 p3 p4 p5 p6) p3 p4))]))
  refine own_go (fun _ => XS.iload X15.here hx rfl (hb hby at_146) rfl) ?_
  show own_Go p.tables e below _ (T15.setTop (mkF m 148 #[.val (.int p1), .val (.int p2), .val (.int p3), .val (.int p4), .val (.int p5), .val (.int p6), .val (.int (p6 &&& (7 : Int32))), .val (.int (own_v0_14 p3 p4 p5 p6)), .val (.ref b13), .val (.int (own_f4 (own_v0_14 p3 p4 p5 p6) p3 p4)), .val (.long (((own_v0_14 p3 p4 p5 p6).toInt64) - (p3.toInt64))), .second, .val (.long ((p4.toInt64) - ((own_v0_14 p3 p4 p5 p6).toInt64))), .second, .val (.int (own_v0_134 p3 p4 p5 p6))] [(.int (own_v0_134 p3 p4 p5 p6)), (.int (own_f4 (own_v0_14 p3 p4 p5 p6) p3 p4))]))
  by_cases hc17_148 : (own_f4 (own_v0_14 p3 p4 p5 p6) p3 p4) = (own_v0_134 p3 p4 p5 p6)
  · skip
    refine own_go (fun _ => XS.icmpNo X15.here hx rfl (hb hby at_148) rfl (teq hc17_148).2) ?_
    show own_Go p.tables e below _ (T15.setTop (mkF m 151 #[.val (.int p1), .val (.int p2), .val (.int p3), .val (.int p4), .val (.int p5), .val (.int p6), .val (.int (p6 &&& (7 : Int32))), .val (.int (own_v0_14 p3 p4 p5 p6)), .val (.ref b13), .val (.int (own_f4 (own_v0_14 p3 p4 p5 p6) p3 p4)), .val (.long (((own_v0_14 p3 p4 p5 p6).toInt64) - (p3.toInt64))), .second, .val (.long ((p4.toInt64) - ((own_v0_14 p3 p4 p5 p6).toInt64))), .second, .val (.int (own_v0_134 p3 p4 p5 p6))] []))
    refine own_go (fun _ => XS.iconst X15.here hx rfl (hb hby at_151)) ?_
    show own_Go p.tables e below _ (T15.setTop (mkF m 152 #[.val (.int p1), .val (.int p2), .val (.int p3), .val (.int p4), .val (.int p5), .val (.int p6), .val (.int (p6 &&& (7 : Int32))), .val (.int (own_v0_14 p3 p4 p5 p6)), .val (.ref b13), .val (.int (own_f4 (own_v0_14 p3 p4 p5 p6) p3 p4)), .val (.long (((own_v0_14 p3 p4 p5 p6).toInt64) - (p3.toInt64))), .second, .val (.long ((p4.toInt64) - ((own_v0_14 p3 p4 p5 p6).toInt64))), .second, .val (.int (own_v0_134 p3 p4 p5 p6))] [(.int (1 : Int32))]))
    refine own_go (fun _ => XS.goto X15.here hx rfl (pc0 := 152) (pc' := 156) rfl (hb hby at_152) (by decide) (by decide)) ?_
    show own_Go p.tables e below _ (T15.setTop (mkF m 156 #[.val (.int p1), .val (.int p2), .val (.int p3), .val (.int p4), .val (.int p5), .val (.int p6), .val (.int (p6 &&& (7 : Int32))), .val (.int (own_v0_14 p3 p4 p5 p6)), .val (.ref b13), .val (.int (own_f4 (own_v0_14 p3 p4 p5 p6) p3 p4)), .val (.long (((own_v0_14 p3 p4 p5 p6).toInt64) - (p3.toInt64))), .second, .val (.long ((p4.toInt64) - ((own_v0_14 p3 p4 p5 p6).toInt64))), .second, .val (.int (own_v0_134 p3 p4 p5 p6))] [(.int (1 : Int32))]))
    refine own_retN X15 Bd.notSynchronized hx (t := .boolean) Bd.returns (by simp) (hb hby at_156) (show Q0 Z p1 p2 p3 p4 p5 p6 h0 n0 _ T15.heap _ from by rw [e15]; exact ⟨(own_val ((if_pos hc17_148).trans rfl)), N15⟩) (by decide) (by decide)
  · skip
    refine own_go (fun _ => XS.icmpYes X15.here hx rfl (pc0 := 148) (pc' := 155) rfl (hb hby at_148) rfl (feq hc17_148).2 (by decide) (by decide)) ?_
    show own_Go p.tables e below _ (T15.setTop (mkF m 155 #[.val (.int p1), .val (.int p2), .val (.int p3), .val (.int p4), .val (.int p5), .val (.int p6), .val (.int (p6 &&& (7 : Int32))), .val (.int (own_v0_14 p3 p4 p5 p6)), .val (.ref b13), .val (.int (own_f4 (own_v0_14 p3 p4 p5 p6) p3 p4)), .val (.long (((own_v0_14 p3 p4 p5 p6).toInt64) - (p3.toInt64))), .second, .val (.long ((p4.toInt64) - ((own_v0_14 p3 p4 p5 p6).toInt64))), .second, .val (.int (own_v0_134 p3 p4 p5 p6))] []))
    refine own_go (fun _ => XS.iconst X15.here hx rfl (hb hby at_155)) ?_
    show own_Go p.tables e below _ (T15.setTop (mkF m 156 #[.val (.int p1), .val (.int p2), .val (.int p3), .val (.int p4), .val (.int p5), .val (.int p6), .val (.int (p6 &&& (7 : Int32))), .val (.int (own_v0_14 p3 p4 p5 p6)), .val (.ref b13), .val (.int (own_f4 (own_v0_14 p3 p4 p5 p6) p3 p4)), .val (.long (((own_v0_14 p3 p4 p5 p6).toInt64) - (p3.toInt64))), .second, .val (.long ((p4.toInt64) - ((own_v0_14 p3 p4 p5 p6).toInt64))), .second, .val (.int (own_v0_134 p3 p4 p5 p6))] [(.int (0 : Int32))]))
    refine own_retN X15 Bd.notSynchronized hx (t := .boolean) Bd.returns (by simp) (hb hby at_156) (show Q0 Z p1 p2 p3 p4 p5 p6 h0 n0 _ T15.heap _ from by rw [e15]; exact ⟨(own_val ((if_neg hc17_148).trans rfl)), N15⟩) (by decide) (by decide)
theorem own_or (x y : Int64) : (x ||| y) < 0 ↔ (x < 0 ∨ y < 0) := by
  have e : ∀ z : Int64, z < 0 ↔ z.toBitVec.msb = true := fun z => by
    rw [Int64.lt_iff_toInt_lt]
    show z.toBitVec.toInt < 0 ↔ _
    rw [BitVec.msb_eq_toInt, decide_eq_true_iff]
  rw [e, e, e, Int64.toBitVec_or, BitVec.msb_or, Bool.or_eq_true]
theorem own_sub (a b : Int32) : (a.toInt64 - b.toInt64) < 0 ↔ a < b := by
  rw [Int64.lt_iff_toInt_lt, Int64.toInt_sub, Int32.toInt_toInt64, Int32.toInt_toInt64, Int32.lt_iff_toInt_lt]
  have h1 := rng32 a
  have h2 := rng32 b
  rw [Int.bmod_eq_of_le (by omega) (by omega)]
  show _ < 0 ↔ _
  omega
theorem own_law (p1 p2 p3 p4 p5 p6 : Int32) : own_f0 p3 p4 p5 p6 = 1 := by
  unfold own_f0 own_v0_134
  generalize own_v0_14 p3 p4 p5 p6 = n
  unfold own_f4
  have e1 : (lcmpW ((n.toInt64 - p3.toInt64) ||| (p4.toInt64 - n.toInt64)) (0 : Int64) < 0) ↔ (n < p3 ∨ p4 < n) := by rw [lw_lt, own_or, own_sub, own_sub]
  by_cases h1 : n < p3
  · rw [if_pos h1, if_pos (e1.mpr (Or.inl h1)), if_pos rfl]
  · by_cases h2 : p4 < n
    · rw [if_neg h1, if_pos h2, if_pos (e1.mpr (Or.inr h2)), if_pos rfl]
    · rw [if_neg h1, if_neg h2, if_neg (fun q => (e1.mp q).elim h1 h2), if_pos rfl]
set_option maxRecDepth 65536 in
set_option maxHeartbeats 40000000 in
theorem comes_1 {Post : Tables → Env → Array Value → State → Outcome → State → Prop} (hpost : ∀ tb e args s v u, (limb_1_1.after args s (.returned v) u = true ∧ limb_1_2.after args s (.returned v) u = true ∧ True) → FrameEnd s (.returned v) u (Jvm.fieldLocs frame_1_writes args s ++ Jvm.arrayLocs frame_1_arrays args s ++ Jvm.staticLocs frame_1_statics s) 16 128 → Post tb e args s (.returned v) u) :
    ArmFor flags0 classFile x code maxLocals ret World_1 tables_1 room_1 Calls_1 rest_1 Pre_1 Post := by
  intro l hfl _ _ p e ha hc hk s m args below hf hA hF happ hP
  obtain ⟨hcalls, hrest, hpre⟩ := hP
  obtain ⟨-, -, -, hnamed, -, -, -, hat⟩ := (Spec.applies_iff hf).mp happ
  obtain ⟨hg, hn⟩ := and_e (Cond.before_iff.mp (show (Jvm.Cond.and given_1 narrow_1).before args s = true from hpre))
  obtain ⟨g1, g2⟩ := and_e hg
  obtain ⟨g3, g4⟩ := and_e g2
  obtain ⟨g5, g6⟩ := and_e g4
  obtain ⟨g7, g8⟩ := and_e g6
  obtain ⟨g9, g10⟩ := and_e g8
  obtain ⟨g11, g12⟩ := and_e g10
  obtain ⟨w0, w1, w2, w3, w4, w5, rfl⟩ : ∃ w0 w1 w2 w3 w4 w5 : Value, args = #[w0, w1, w2, w3, w4, w5] := by
    have hs : args.size = 6 := by simpa [Cond.value, given_1] using g1
    obtain ⟨L⟩ := args
    match L, hs with
    | [w0, w1, w2, w3, w4, w5], _ => exact ⟨w0, w1, w2, w3, w4, w5, rfl⟩
  have hw := fun d (hd : d ∈ tables_1) => atoms_spec (ws := Jvm.Cond.code x code maxLocals ret :: tables_1) hat d (List.mem_cons_of_mem _ hd)
  have hfit : Fit s := fun {y c} hc i hi => by
    obtain ⟨ha, rfl⟩ := Array.getElem?_eq_some_iff.mp hc
    have q := List.all_eq_true.mp ((Array.all_eq_true_iff_forall_mem.mp hF) _ (Array.getElem_mem ha)) i (List.mem_range.mpr hi)
    simpa [Array.getElem?_eq_getElem hi] using q
  obtain ⟨i0, ei0⟩ := is_v g3
  obtain rfl : w0 = (.int i0) := Option.some.inj ei0
  obtain ⟨i1, ei1⟩ := is_v g5
  obtain rfl : w1 = (.int i1) := Option.some.inj ei1
  obtain ⟨i2, ei2⟩ := is_v g7
  obtain rfl : w2 = (.int i2) := Option.some.inj ei2
  obtain ⟨i3, ei3⟩ := is_v g9
  obtain rfl : w3 = (.int i3) := Option.some.inj ei3
  obtain ⟨i4, ei4⟩ := is_v g11
  obtain rfl : w4 = (.int i4) := Option.some.inj ei4
  obtain ⟨i5, ei5⟩ := is_v g12
  obtain rfl : w5 = (.int i5) := Option.some.inj ei5
  obtain ⟨n, o, h1, h2, h3, _, L, rfl, ⟨rfl, N⟩, hq⟩ := rm0 l s _ hw tables_1 i0 i1 i2 i3 i4 i5  s.heap s.heap.size (Nat.le_refl _)   p e ha hc hk s m _ below hf ((Spec.applies_iff_loose hf).mp happ).1 ⟨rfl, State.Warmed39.refl s, rfl⟩ trivial
  refine ⟨n, _, h1, h2, h3, hpost _ _ _ _ _ _ ⟨Cond.after_iff.mpr rfl, Cond.after_iff.mpr (eq_i res_at (Term.int_eval (1)) (congrArg Value.int (own_law i0 i1 i2 i3 i4 i5))), trivial⟩ ⟨hq.1, hq.2.1, (hq.2.2.sift fun y hy => Or.inr (N y hy)).mono (by decide) (by decide)⟩⟩
theorem main_1_1 : Claimed_1_1 := comes_1 fun _ _ _ _ _ _ h hF => ⟨h.1, hF⟩
theorem main_1_2 : Claimed_1_2 := comes_1 fun _ _ _ _ _ _ h hF => ⟨h.2.1, hF⟩
end Jvm.Pilot.@@N@@
namespace Jvm.Pilot.@@N@@
open Jvm Jvm.ClassFile Sem Op Lib Jvm.Free Jvm.Stand Jvm.Pilot.@@N@@.Jvm.D
/-! MADE BY PROGRAM (witnessworld.py) out of the Statement's table words and the real class files: 10 classes; the members and pool entries that the words name. The judged class is class 1, her method 1. -/
namespace start1
open Jvm.ClassFile
def u (s : String) : CpInfo := .utf8 (stringToUtf16 s)
/-- a pool by its gaps: so many unusable entries, then the entry; so many at the end -/
def gap : Nat → List CpInfo → List CpInfo
  | 0, r => r
  | n + 1, r => .unusable :: gap n r
def poolList (es : List (Nat × CpInfo)) (last : Nat) : List CpInfo := es.foldr (fun e r => gap e.1 (e.2 :: r)) (gap last [])
def pool (es : List (Nat × CpInfo)) (last : Nat) : Array CpInfo := ⟨poolList es last⟩
def fileOf (pool : Array CpInfo) (this : Nat) (attrs : Array Attribute := #[]) (ms : Array MethodInfo := #[]) (fl : Nat := 33) (sup : Nat := 0) (ifs : Array Nat := #[]) (fds : Array FieldInfo := #[]) : ClassFile where
  minorVersion := 0
  majorVersion := 65
  constantPool := pool
  accessFlags := fl
  thisClass := this
  superClass := sup
  interfaces := ifs
  fields := fds
  methods := ms
  attributes := attrs
def plain (name : String) (sup : Option ClassId) : Class where
  name := name
  kind := .ordinary
  loader := none
  accessFlags := 33
  super := sup
  interfaces := #[]
  cf := none
  fields := #[]
  methods := #[]
  instanceTypes := #[]
  staticTypes := #[]
  resolved := #[]
  callSites := []
  init := .initialized
  statics := none
  mirror := none

def pool0 : Array CpInfo := pool [(5, u "<init>"), (0, u "()V"), (1, .class_ 10), (1, u "java/lang/Object")] 113

def k0c0 : Code := { maxStack := 0, maxLocals := 1, code := object_method_1_code, exceptionTable := #[], attributes := #[] }
def k0m0 : Method := { name := "<init>", desc := "()V", sig := { parameters := [], returnType := none }, accessFlags := 1, code := some k0c0 }
/-- java/lang/Object -/
def k0 : Class := { plain "java/lang/Object" none with
  accessFlags := 33
  interfaces := #[]
  cf := some (fileOf pool0 8 #[] #[{ accessFlags := 1, nameIndex := 5, descriptorIndex := 6, attributes := #[] }] 33 0 #[] #[])
  fields := #[]
  methods := #[k0m0]
  instanceTypes := #[]
  staticTypes := #[]
  resolved := Array.replicate 124 none
  statics := none }

def pool1 : Array CpInfo := pool [(2, .class_ 4), (1, u "java/lang/Object"), (0, u "<init>"), (0, u "()V"), (0, .class_ 8), (0, u "com/example/leipzig/leipzig/formats/nupn/NupnFile$Header"), (0, .methodref 7 10), (0, .nameAndType 5 11), (0, u "(IIII)V"), (0, .methodref 7 13), (0, .nameAndType 14 15), (0, u "holds"), (0, u "(I)Z"), (0, .class_ 17), (0, u "com/example/leipzig/leipzig/formats/nupn/HeaderHoldsPinLaw"), (2, u "law"), (0, u "(IIIIII)Z")] 7

def k1m0 : Method := { name := "<init>", desc := "()V", sig := { parameters := [], returnType := none }, accessFlags := 2, code := none }
def k1c1 : Code := { maxStack := 6, maxLocals := 15, code := code, exceptionTable := #[], attributes := #[] }
def k1m1 : Method := { name := "law", desc := "(IIIIII)Z", sig := { parameters := [.int, .int, .int, .int, .int, .int], returnType := some .boolean }, accessFlags := 9, code := some k1c1 }
/-- com/example/leipzig/leipzig/formats/nupn/HeaderHoldsPinLaw -/
def k1 : Class := { plain "com/example/leipzig/leipzig/formats/nupn/HeaderHoldsPinLaw" (some 0) with
  accessFlags := 49
  interfaces := #[]
  cf := some (fileOf pool1 16 #[] #[{ accessFlags := 2, nameIndex := 5, descriptorIndex := 6, attributes := #[] }, { accessFlags := 9, nameIndex := 20, descriptorIndex := 21, attributes := #[] }] 49 2 #[] #[])
  fields := #[]
  methods := #[k1m0, k1m1]
  instanceTypes := #[]
  staticTypes := #[]
  resolved := Array.replicate 29 none
  statics := none }

def pool2 : Array CpInfo := pool [(1, .methodref 2 3), (0, .class_ 4), (0, .nameAndType 5 6), (0, u "java/lang/Object"), (0, u "<init>"), (0, u "()V"), (0, .class_ 8), (0, u "java/lang/Record")] 13

def k2c0 : Code := { maxStack := 1, maxLocals := 1, code := jdk_30_method_1_code, exceptionTable := #[], attributes := #[] }
def k2m0 : Method := { name := "<init>", desc := "()V", sig := { parameters := [], returnType := none }, accessFlags := 4, code := some k2c0 }
/-- java/lang/Record -/
def k2 : Class := { plain "java/lang/Record" (some 0) with
  accessFlags := 1057
  interfaces := #[]
  cf := some (fileOf pool2 7 #[] #[{ accessFlags := 4, nameIndex := 5, descriptorIndex := 6, attributes := #[] }] 1057 2 #[] #[])
  fields := #[]
  methods := #[k2m0]
  instanceTypes := #[]
  staticTypes := #[]
  resolved := Array.replicate 22 none
  statics := none }

def pool3 : Array CpInfo := pool [(1, .methodref 2 3), (0, .class_ 4), (0, .nameAndType 5 6), (0, u "java/lang/Record"), (0, u "<init>"), (0, u "()V"), (0, .fieldref 8 9), (0, .class_ 10), (0, .nameAndType 11 12), (0, u "com/example/leipzig/leipzig/formats/nupn/NupnFile$Header"), (0, u "line"), (0, u "I"), (0, .fieldref 8 14), (0, .nameAndType 15 12), (0, u "count"), (0, .fieldref 8 17), (0, .nameAndType 18 12), (0, u "low"), (0, .fieldref 8 20), (0, .nameAndType 21 12), (0, u "high"), (16, u "(IIII)V"), (3, u "holds"), (0, u "(I)Z"), (8, .class_ 53), (0, u "com/example/leipzig/leipzig/formats/nupn/NupnFile")] 30

def k3c0 : Code := { maxStack := 2, maxLocals := 5, code := prog_47_method_1_code, exceptionTable := #[], attributes := #[] }
def k3m0 : Method := { name := "<init>", desc := "(IIII)V", sig := { parameters := [.int, .int, .int, .int], returnType := none }, accessFlags := 0, code := some k3c0 }
def k3c1 : Code := { maxStack := 2, maxLocals := 2, code := prog_47_method_2_code, exceptionTable := #[], attributes := #[] }
def k3m1 : Method := { name := "holds", desc := "(I)Z", sig := { parameters := [.int], returnType := some .boolean }, accessFlags := 0, code := some k3c1 }
/-- com/example/leipzig/leipzig/formats/nupn/NupnFile$Header -/
def k3 : Class := { plain "com/example/leipzig/leipzig/formats/nupn/NupnFile$Header" (some 2) with
  accessFlags := 48
  interfaces := #[]
  cf := some (fileOf pool3 8 #[.nestHost 52] #[{ accessFlags := 0, nameIndex := 5, descriptorIndex := 38, attributes := #[] }, { accessFlags := 0, nameIndex := 42, descriptorIndex := 43, attributes := #[] }] 48 2 #[] #[{ accessFlags := 18, nameIndex := 11, descriptorIndex := 12, attributes := #[] }, { accessFlags := 18, nameIndex := 15, descriptorIndex := 12, attributes := #[] }, { accessFlags := 18, nameIndex := 18, descriptorIndex := 12, attributes := #[] }, { accessFlags := 18, nameIndex := 21, descriptorIndex := 12, attributes := #[] }])
  fields := #[{ name := "line", type := .int, accessFlags := 18, slot := 0, constantValue := 0 }, { name := "count", type := .int, accessFlags := 18, slot := 1, constantValue := 0 }, { name := "low", type := .int, accessFlags := 18, slot := 2, constantValue := 0 }, { name := "high", type := .int, accessFlags := 18, slot := 3, constantValue := 0 }]
  methods := #[k3m0, k3m1]
  instanceTypes := #[.int, .int, .int, .int]
  staticTypes := #[]
  resolved := Array.replicate 84 none
  statics := none }

def pool4 : Array CpInfo := pool [(1, u "java/lang/Cloneable"), (0, .class_ 1), (0, u "java/lang/Object"), (0, .class_ 3)] 3

/-- java/lang/Cloneable -/
def k4 : Class := { plain "java/lang/Cloneable" (some 0) with
  accessFlags := 1537
  interfaces := #[]
  cf := some (fileOf pool4 2 #[] #[] 1537 4 #[] #[])
  fields := #[]
  methods := #[]
  instanceTypes := #[]
  staticTypes := #[]
  resolved := Array.replicate 8 none
  statics := none }

def pool5 : Array CpInfo := pool [(1, u "java/io/Serializable"), (0, .class_ 1), (0, u "java/lang/Object"), (0, .class_ 3)] 3

/-- java/io/Serializable -/
def k5 : Class := { plain "java/io/Serializable" (some 0) with
  accessFlags := 1537
  interfaces := #[]
  cf := some (fileOf pool5 2 #[] #[] 1537 4 #[] #[])
  fields := #[]
  methods := #[]
  instanceTypes := #[]
  staticTypes := #[]
  resolved := Array.replicate 8 none
  statics := none }

/-- the primitive byte -/
def k6 : Class := { plain "byte" none with kind := .primitive 'B', accessFlags := 0x411 }
/-- [B -/
def k7 : Class := { plain "[B" (some 0) with kind := .array 6 .byte, interfaces := #[4, 5], accessFlags := 1041 }

/-- the primitive int -/
def k8 : Class := { plain "int" none with kind := .primitive 'I', accessFlags := 0x411 }
/-- [I -/
def k9 : Class := { plain "[I" (some 0) with kind := .array 8 .int, interfaces := #[4, 5], accessFlags := 1041 }

def heap : Heap := #[]
def classes : Array Class := #[k0, k1, k2, k3, k4, k5, k6, k7, k8, k9]
def interned : List (Array UInt16 × Addr) := []
def slotsUsed : Nat := 0
def theMethod : MethodId := ⟨1, 1⟩
def args0 : Array Value := #[.int 5, .int 5, .int 1, .int 9, .int 5, .int 0]
def aboutOver (below : List Frame) : State where
  vm := { classes := classes, interned := interned.toArray }
  heap := heap
  slotsUsed := slotsUsed
  threads := #[{ frames := .invoking theMethod args0 :: below }]
def below0 : List Frame := [.native { method := ⟨0, 0⟩, args := #[] }]
def about1 : State := aboutOver below0
def p0 : Program := .bare "" "" ""
def e0 : Env := launch0.env 0 0 0
theorem w_frames : about1.frames = Frame.invoking theMethod args0 :: below0 := rfl
set_option maxRecDepth 65536 in
theorem w_args : argsFit about1.vm theMethod args0 = true := by decide +kernel
set_option maxRecDepth 65536 in
theorem w_heap : heapFits about1 = true := by decide +kernel
set_option maxRecDepth 65536 in
theorem w_runnable : about1.curStatus? = some .runnable := by decide +kernel
set_option maxRecDepth 65536 in
theorem w_alone : about1.alone = true := by decide +kernel
set_option maxRecDepth 65536 in
theorem w_named : about1.methodNamed? x = some theMethod := by decide +kernel
set_option maxRecDepth 65536 in
theorem w_hears : about1.hears theMethod below0 = true := by decide +kernel
set_option maxRecDepth 65536 in
theorem w_ripe : about1.ripe theMethod args0 below0 = true := by decide +kernel
theorem w_running : about1.status = .running := rfl
set_option maxRecDepth 65536 in
theorem w_room : about1.hasRoom e0.platform room_1 = true :=
  launch0.hasRoom_least _ room_1 (by decide +kernel) (by decide +kernel) (by decide +kernel) (by decide +kernel) (by decide +kernel) (by decide +kernel)
theorem allAtoms_all (ts : List Jvm.Cond) (a : Array Jvm.Value) (st : Jvm.State) : (allAtoms ts).before a st = ts.all (fun c => c.before a st) := by
  induction ts with
  | nil => rfl
  | cons c t ih =>
    show (Jvm.Cond.and c (allAtoms t)).before a st = _
    rw [Jvm.Cond.before_and, ih, List.all_cons]
def words1 : List Jvm.Cond := Jvm.Cond.code x code maxLocals ret :: tables_1
/-- a 'code' word, met by the world's own term for the bytes: nothing is compared byte by byte -/
theorem code_word {y : MethodName} {bytes : ByteArray} {mx : Nat} {rt : Option FieldType} {a : Array Value} {s : State} {m : MethodId} {meth : Method} {c : Code} (h1 : s.methodNamed? y = some m) (h2 : s.vm.method? m = some meth) (h3 : meth.code = some c) (h4 : c.code = bytes)
    (h5 : (c.maxLocals == mx && c.exceptionTable.isEmpty && decide (c.maxStack ≤ mostOperands) && decide (meth.sig.returnType = rt) && !meth.locks && decide (parseMethodDescriptor y.desc = some meth.sig)) = true) : (Jvm.Cond.code y bytes mx rt).before a s = true := by
  simp only [Bool.and_eq_true, beq_iff_eq, Bool.not_eq_true', decide_eq_true_eq] at h5
  obtain ⟨⟨⟨⟨⟨g1, g2⟩, g3⟩, g4⟩, g5⟩, g6⟩ := h5
  simp [Cond.before, Cond.holds, Cond.value, h1, h2, h3, h4, g1, g2, g3, g4, g5, g6]
def isCode : Jvm.Cond → Bool
  | .code _ _ _ _ => true
  | _ => false
theorem all_split {L : List Jvm.Cond} {P : Jvm.Cond → Bool} (h1 : L.all (fun c => isCode c || P c) = true) (h2 : ∀ c ∈ L.filter isCode, P c = true) : L.all P = true := by
  refine List.all_eq_true.mpr fun c hc => ?_
  have h := List.all_eq_true.mp h1 c hc
  rcases Bool.eq_false_or_eq_true (isCode c) with hi | hi
  · exact h2 c (List.mem_filter.mpr ⟨hc, hi⟩)
  · simpa [hi] using h
set_option maxRecDepth 65536 in
theorem w_c0 : (Jvm.Cond.code x code maxLocals ret).before args0 about1 = true := code_word (m := ⟨1, 1⟩) (meth := k1m1) (c := k1c1) (by decide +kernel) rfl rfl rfl (by decide +kernel)
set_option maxRecDepth 65536 in
theorem w_c1 : (Jvm.Cond.code ({ cls := "com/example/leipzig/leipzig/formats/nupn/NupnFile$Header", name := "<init>", desc := "(IIII)V" } : Jvm.MethodName) prog_47_method_1_code (5 : Nat) (Option.none : Option Jvm.ClassFile.FieldType)).before args0 about1 = true := code_word (m := ⟨3, 0⟩) (meth := k3m0) (c := k3c0) (by decide +kernel) rfl rfl rfl (by decide +kernel)
set_option maxRecDepth 65536 in
theorem w_c2 : (Jvm.Cond.code ({ cls := "java/lang/Record", name := "<init>", desc := "()V" } : Jvm.MethodName) jdk_30_method_1_code (1 : Nat) (Option.none : Option Jvm.ClassFile.FieldType)).before args0 about1 = true := code_word (m := ⟨2, 0⟩) (meth := k2m0) (c := k2c0) (by decide +kernel) rfl rfl rfl (by decide +kernel)
set_option maxRecDepth 65536 in
theorem w_c3 : (Jvm.Cond.code ({ cls := "java/lang/Object", name := "<init>", desc := "()V" } : Jvm.MethodName) object_method_1_code (1 : Nat) (Option.none : Option Jvm.ClassFile.FieldType)).before args0 about1 = true := code_word (m := ⟨0, 0⟩) (meth := k0m0) (c := k0c0) (by decide +kernel) rfl rfl rfl (by decide +kernel)
set_option maxRecDepth 65536 in
theorem w_c4 : (Jvm.Cond.code ({ cls := "com/example/leipzig/leipzig/formats/nupn/NupnFile$Header", name := "holds", desc := "(I)Z" } : Jvm.MethodName) prog_47_method_2_code (2 : Nat) (Option.some Jvm.ClassFile.FieldType.boolean)).before args0 about1 = true := code_word (m := ⟨3, 1⟩) (meth := k3m1) (c := k3c1) (by decide +kernel) rfl rfl rfl (by decide +kernel)
def codes1 : List Jvm.Cond := [Jvm.Cond.code x code maxLocals ret, Jvm.Cond.code ({ cls := "com/example/leipzig/leipzig/formats/nupn/NupnFile$Header", name := "<init>", desc := "(IIII)V" } : Jvm.MethodName) prog_47_method_1_code (5 : Nat) (Option.none : Option Jvm.ClassFile.FieldType), Jvm.Cond.code ({ cls := "java/lang/Record", name := "<init>", desc := "()V" } : Jvm.MethodName) jdk_30_method_1_code (1 : Nat) (Option.none : Option Jvm.ClassFile.FieldType), Jvm.Cond.code ({ cls := "java/lang/Object", name := "<init>", desc := "()V" } : Jvm.MethodName) object_method_1_code (1 : Nat) (Option.none : Option Jvm.ClassFile.FieldType), Jvm.Cond.code ({ cls := "com/example/leipzig/leipzig/formats/nupn/NupnFile$Header", name := "holds", desc := "(I)Z" } : Jvm.MethodName) prog_47_method_2_code (2 : Nat) (Option.some Jvm.ClassFile.FieldType.boolean)]
set_option maxRecDepth 65536 in
theorem codes_eq : words1.filter isCode = codes1 := rfl
theorem w_codes : ∀ c ∈ words1.filter isCode, c.before args0 about1 = true := by
  rw [codes_eq]
  intro c hc
  simp only [codes1, List.mem_cons, List.not_mem_nil, or_false] at hc
  rcases hc with rfl | rfl | rfl | rfl | rfl
  · exact w_c0
  · exact w_c1
  · exact w_c2
  · exact w_c3
  · exact w_c4
set_option maxRecDepth 65536 in
theorem w_t1 : (words1.take 24).all (fun c => isCode c || c.before args0 about1) = true := by decide +kernel
set_option maxRecDepth 65536 in
theorem w_t2 : (words1.drop 24).all (fun c => isCode c || c.before args0 about1) = true := by decide +kernel
theorem w_tables : (allAtoms (Jvm.Cond.code x code maxLocals ret :: tables_1)).before args0 about1 = true := by
  rw [allAtoms_all]
  show words1.all (fun c => c.before args0 about1) = true
  refine all_split ?_ w_codes
  rw [← List.take_append_drop 24 words1, List.all_append, w_t1, w_t2]
  rfl
set_option maxRecDepth 65536 in
theorem w_case : (Jvm.Cond.and given_1 narrow_1).before args0 about1 = true := by decide +kernel
theorem w_applies : (headSpec (Jvm.Cond.code x code maxLocals ret :: tables_1) room_1).applies x e0.platform about1 = true :=
  (Spec.applies_iff w_frames).mpr ⟨w_running, w_runnable, w_alone, w_named, w_hears, w_ripe, w_room, w_tables⟩
theorem atStart : AtStart classFile x code maxLocals ret World_1 tables_1 room_1 Calls_1 rest_1 Pre_1 launch0 p0 e0 about1 theMethod args0 below0 :=
  ⟨lists_1, trivial, launch0.admits_env _ _ _, launch0.least_env, fairChoices_fair.cas, fairChoices_fair.clock, w_frames, w_args, w_heap, w_applies, trivial, trivial, w_case⟩
end start1
theorem witness_1 : WitnessClaimed_1 := ⟨start1.p0, start1.e0, start1.about1, start1.theMethod, start1.args0, start1.below0, start1.atStart⟩
end Jvm.Pilot.@@N@@
