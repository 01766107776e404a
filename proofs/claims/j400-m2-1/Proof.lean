import JvmDerived
import JvmDerived.Pilot.@@N@@Statement
import JvmDerived.Pilot.@@N@@Code
set_option linter.unusedVariables false
set_option linter.unusedSimpArgs false
namespace Jvm.Pilot.@@N@@
open Jvm Jvm.ClassFile Sem Op Lib Jvm.Free Jvm.Stand Jvm.LawKit Jvm.RoadKit Bundle Jvm.Pilot.@@N@@.Jvm.D
/-- from the state S the run comes to an end that meets F -/
def own_Go (tb : Tables) (e : Env) (below : List Frame) (F : State → Outcome → Prop) (S : State) : Prop := ∃ s₂ o, Steps tb e below S s₂ ∧ F s₂ o
/-- the end: it returned what Q says, over the heap that Q says -/
def own_Fin (below : List Frame) (s : State) (Q : Option Value → Heap → List Loc → Prop) (k n : Nat) : State → Outcome → Prop := fun s₂ o => s₂.status = .running ∧ Ended s₂ below o ∧ ∃ v L, o = .returned v ∧ Q v s₂.heap L ∧ FrameEnd s o s₂ L k n
theorem own_go {tb : Tables} {e : Env} {below : List Frame} {F : State → Outcome → Prop} {S S' : State} (h : ∀ t, Steps tb e below S' t → Steps tb e below S t) (k : own_Go tb e below F S') : own_Go tb e below F S := by
  obtain ⟨t, o, h1, h2⟩ := k
  exact ⟨t, o, h t h1, h2⟩
theorem own_via {tb : Tables} {e : Env} {below : List Frame} {F : State → Outcome → Prop} {S S' : State} (h : Steps tb e below S S') (k : own_Go tb e below F S') : own_Go tb e below F S := by
  obtain ⟨t, o, h1, h2⟩ := k
  exact ⟨t, o, h.trans h1, h2⟩
section OwnRet
variable {p : Program} {l : Launch} {e : Env} {R : Room} {s : State} {m : MethodId} {args : Array Value} {below : List Frame} {meth : Method} {c : Code} {T : State} {locs : List Loc} {cells slots : Nat} {Q : Option Value → Heap → List Loc → Prop} {K N : Nat}
theorem own_retN (X : Stand p l e R s m args below meth c T locs cells slots) (hlocks : meth.locks = false) (hx : p.tables.exec = Jvm.exec) {pc : Nat} {Ls : Array Slot} {z : Int32} {rest : List Value} {t : FieldType} (hret : meth.sig.returnType = some t) (ht : t = .boolean ∨ t = .byte ∨ t = .char ∨ t = .short) (hd : decode c.code pc = .ok (.ireturn, 1)) (hQ : Q (some (.int (nar t z))) T.heap locs) (hk : cells ≤ K) (hn : slots ≤ N) :
    own_Go p.tables e below (own_Fin below s Q K N) (T.setTop (mkF m pc Ls (.int z :: rest))) := by
  obtain ⟨fs, hr, hrun, hended, hW, hsame⟩ := X.leave (v := some (.int (nar t z))) (fun h => by rw [hret] at h; cases h) hlocks
  exact ⟨_, _, retN X hx hret ht hd hr, hrun, hended, _, _, rfl, hQ, ⟨_, rfl⟩, hW, hsame.mono hk hn⟩
theorem own_retI (X : Stand p l e R s m args below meth c T locs cells slots) (hlocks : meth.locks = false) (hx : p.tables.exec = Jvm.exec) {pc : Nat} {Ls : Array Slot} {z : Int32} {rest : List Value} (hret : meth.sig.returnType = some .int) (hd : decode c.code pc = .ok (.ireturn, 1)) (hQ : Q (some (.int z)) T.heap locs) (hk : cells ≤ K) (hn : slots ≤ N) :
    own_Go p.tables e below (own_Fin below s Q K N) (T.setTop (mkF m pc Ls (.int z :: rest))) := by
  obtain ⟨fs, hr, hrun, hended, hW, hsame⟩ := X.leave (v := some (.int z)) (fun h => by rw [hret] at h; cases h) hlocks
  exact ⟨_, _, retOut X hx (i := .ireturn) hret rfl (Or.inl ⟨rfl, Or.inl rfl, _, rfl⟩) hd hr, hrun, hended, _, _, rfl, hQ, ⟨_, rfl⟩, hW, hsame.mono hk hn⟩
theorem own_retJ (X : Stand p l e R s m args below meth c T locs cells slots) (hlocks : meth.locks = false) (hx : p.tables.exec = Jvm.exec) {pc : Nat} {Ls : Array Slot} {z : Int64} {rest : List Value} (hret : meth.sig.returnType = some .long) (hd : decode c.code pc = .ok (.lreturn, 1)) (hQ : Q (some (.long z)) T.heap locs) (hk : cells ≤ K) (hn : slots ≤ N) :
    own_Go p.tables e below (own_Fin below s Q K N) (T.setTop (mkF m pc Ls (.long z :: rest))) := by
  obtain ⟨fs, hr, hrun, hended, hW, hsame⟩ := X.leave (v := some (.long z)) (fun h => by rw [hret] at h; cases h) hlocks
  exact ⟨_, _, retOut X hx (i := .lreturn) hret rfl (Or.inr (Or.inl ⟨rfl, rfl, _, rfl⟩)) hd hr, hrun, hended, _, _, rfl, hQ, ⟨_, rfl⟩, hW, hsame.mono hk hn⟩
theorem own_retA (X : Stand p l e R s m args below meth c T locs cells slots) (hlocks : meth.locks = false) (hx : p.tables.exec = Jvm.exec) {pc : Nat} {Ls : Array Slot} {w : Value} {rest : List Value} {t : FieldType} (hret : meth.sig.returnType = some t) (ht : t.isReference = true) (hn' : narrow t w = w) (hw : w.isRef = true) (hd : decode c.code pc = .ok (.areturn, 1)) (hQ : Q (some w) T.heap locs) (hk : cells ≤ K) (hn : slots ≤ N) :
    own_Go p.tables e below (own_Fin below s Q K N) (T.setTop (mkF m pc Ls (w :: rest))) := by
  obtain ⟨fs, hr, hrun, hended, hW, hsame⟩ := X.leave (v := some w) (fun h => by rw [hret] at h; cases h) hlocks
  exact ⟨_, _, retOut X hx (i := .areturn) hret hn' (Or.inr (Or.inr (Or.inr (Or.inr ⟨rfl, ht, hw⟩)))) hd hr, hrun, hended, _, _, rfl, hQ, ⟨_, rfl⟩, hW, hsame.mono hk hn⟩
theorem own_ret0 (X : Stand p l e R s m args below meth c T locs cells slots) (hlocks : meth.locks = false) (hx : p.tables.exec = Jvm.exec) {pc : Nat} {Ls : Array Slot} (hret : meth.sig.returnType = none) (hd : decode c.code pc = .ok (.return_, 1)) (hQ : Q none T.heap locs) (hk : cells ≤ K) (hn : slots ≤ N) :
    own_Go p.tables e below (own_Fin below s Q K N) (T.setTop (mkF m pc Ls [])) := by
  obtain ⟨fs, hr, hrun, hended, hW, hsame⟩ := X.leave (v := none) (fun _ => rfl) hlocks
  exact ⟨_, _, X.returnOut hx hret hd hr, hrun, hended, _, _, rfl, hQ, ⟨_, rfl⟩, hW, hsame.mono hk hn⟩
/-- the end where String constants may have been made meanwhile -/
def own_FinW (below : List Frame) (s : State) (Q : Option Value → Heap → List Loc → Prop) (k n : Nat) : State → Outcome → Prop := fun s₂ o => s₂.status = .running ∧ Ended s₂ below o ∧ ∃ v L, o = .returned v ∧ Q v s₂.heap L ∧ ReturnedEndW s o s₂ L k n
theorem own_more {s t : State} {o : Outcome} {L : List Loc} {k n K N : Nat} (h : ReturnedEndW s o t L k n) (hk : k ≤ K) (hn : n ≤ N) : ReturnedEndW s o t L K N := ⟨h.1, h.2.1, h.2.2.1, h.2.2.2.mono hk hn⟩
variable {vm₁ : Vm} {n₁ : Nat}
theorem own_retNW (X : Stand p l e R (s.setVm vm₁) m args below meth c T locs cells slots) (hS : s.Since vm₁ n₁) (hn₁ : n₁ ≤ T.heap.size) (hlocks : meth.locks = false) (hx : p.tables.exec = Jvm.exec) {pc : Nat} {Ls : Array Slot} {z : Int32} {rest : List Value} {t : FieldType} (hret : meth.sig.returnType = some t) (ht : t = .boolean ∨ t = .byte ∨ t = .char ∨ t = .short) (hd : decode c.code pc = .ok (.ireturn, 1)) (hQ : Q (some (.int (nar t z))) T.heap locs) (hk : cells ≤ K) (hn : slots ≤ N) :
    own_Go p.tables e below (own_FinW below s Q K N) (T.setTop (mkF m pc Ls (.int z :: rest))) := by
  obtain ⟨fs, hr, hrun, hended, hE⟩ := X.leaveW hS hn₁ (v := some (.int (nar t z))) (fun h => by rw [hret] at h; cases h) hlocks
  exact ⟨_, _, retN X hx hret ht hd hr, hrun, hended, _, _, rfl, hQ, own_more hE hk hn⟩
theorem own_retAW (X : Stand p l e R (s.setVm vm₁) m args below meth c T locs cells slots) (hS : s.Since vm₁ n₁) (hn₁ : n₁ ≤ T.heap.size) (hlocks : meth.locks = false) (hx : p.tables.exec = Jvm.exec) {pc : Nat} {Ls : Array Slot} {w : Value} {rest : List Value} {t : FieldType} (hret : meth.sig.returnType = some t) (ht : t.isReference = true) (hn' : narrow t w = w) (hw : w.isRef = true) (hd : decode c.code pc = .ok (.areturn, 1)) (hQ : Q (some w) T.heap locs) (hk : cells ≤ K) (hn : slots ≤ N) :
    own_Go p.tables e below (own_FinW below s Q K N) (T.setTop (mkF m pc Ls (w :: rest))) := by
  obtain ⟨fs, hr, hrun, hended, hE⟩ := X.leaveW hS hn₁ (v := some w) (fun h => by rw [hret] at h; cases h) hlocks
  exact ⟨_, _, retOut X hx (i := .areturn) hret hn' (Or.inr (Or.inr (Or.inr (Or.inr ⟨rfl, ht, hw⟩)))) hd hr, hrun, hended, _, _, rfl, hQ, own_more hE hk hn⟩
theorem own_ret0W (X : Stand p l e R (s.setVm vm₁) m args below meth c T locs cells slots) (hS : s.Since vm₁ n₁) (hn₁ : n₁ ≤ T.heap.size) (hlocks : meth.locks = false) (hx : p.tables.exec = Jvm.exec) {pc : Nat} {Ls : Array Slot} (hret : meth.sig.returnType = none) (hd : decode c.code pc = .ok (.return_, 1)) (hQ : Q none T.heap locs) (hk : cells ≤ K) (hn : slots ≤ N) :
    own_Go p.tables e below (own_FinW below s Q K N) (T.setTop (mkF m pc Ls [])) := by
  obtain ⟨fs, hr, hrun, hended, hE⟩ := X.leaveW hS hn₁ (v := none) (fun _ => rfl) hlocks
  exact ⟨_, _, X.returnOut hx hret hd hr, hrun, hended, _, _, rfl, hQ, own_more hE hk hn⟩
end OwnRet
theorem own_val {x y : Int32} (h : y = x) : some (Value.int x) = some (Value.int y) := by rw [h]
theorem own_valJ {x y : Int64} (h : y = x) : some (Value.long x) = some (Value.long y) := by rw [h]
theorem own_valV {x y : Value} (h : y = x) : some x = some y := by rw [h]
theorem own_valR {x y : Addr} (h : y = x) : some (Value.ref x) = some (Value.ref y) := by rw [h]
theorem own_cat {v : Value} (h : v.isRef = true) : v.category = 1 := by rcases ref_cases h with rfl | ⟨z, rfl⟩ <;> rfl
theorem own_narR {v : Value} {C : String} (h : v.isRef = true) : narrow (.object C) v = v := by rcases ref_cases h with rfl | ⟨z, rfl⟩ <;> rfl
theorem own_fitR {v : Value} {C : String} (h : v.isRef = true) : fits (.object C) v = true := by rcases ref_cases h with rfl | ⟨z, rfl⟩ <;> rfl
theorem own_narA {v : Value} {t : FieldType} (h : v.isRef = true) : narrow (.array t) v = v := by rcases ref_cases h with rfl | ⟨z, rfl⟩ <;> rfl
theorem own_fitA {v : Value} {t : FieldType} (h : v.isRef = true) : fits (.array t) v = true := by rcases ref_cases h with rfl | ⟨z, rfl⟩ <;> rfl
theorem own_dne {p : Prop} (h : p) : ¬ ¬ p := fun q => q h
theorem d2_0 : decode jdk_30_method_1_code 0 = .ok (.aload_n 0, 1) := by decide +kernel
theorem d2_1 : decode jdk_30_method_1_code 1 = .ok (.invokespecial 1, 3) := by decide +kernel
theorem d2_4 : decode jdk_30_method_1_code 4 = .ok (.return_, 1) := by decide +kernel
theorem pn_2 : plainName "java/lang/Record" = true := by first | (simp [plainName, overriddenIn]; done) | decide +kernel
theorem ef_2 (m : MethodId) (a1 : Addr) : entryFrame m #[(.ref a1)] 1 = mkF m 0 #[.val (.ref a1)] [] := by first | (simp [entryFrame, mkF, argsToLocals, Value.category]; done) | rfl
def Q2 (Z : State) (a1 : Addr) (h0 : Heap) (n0 : Nat) (v : Option Value) (h : Heap) (L : List Loc) : Prop := v = none ∧ Fr n0 L ∧ h = h0
set_option maxRecDepth 65536 in
set_option maxHeartbeats 40000000 in
theorem rm2 (l : Launch) (Z : State) (a0 : Array Value) (hw : ∀ d ∈ tables_1, d.before a0 Z = true) (ws : List Jvm.Cond) (a1 : Addr) (h0 : Heap) (n0 : Nat) (Z0 : n0 ≤ h0.size) :
    MetFree l (⟨"java/lang/Record", "<init>", "()V"⟩ : MethodName) (head1 (Jvm.Cond.code (⟨"java/lang/Record", "<init>", "()V"⟩ : MethodName) jdk_30_method_1_code 1 none :: ws) ({ frames := 1, cells := 0, slots := 0, locals := 12 } : Room)) (fun a U => a = #[(.ref a1)] ∧ Z.Warmed39 U.vm ∧ U.heap = h0) (fun _ _ _ _ _ => True) (fun _ U o U' => ∃ v L, o = .returned v ∧ Q2 Z a1 h0 n0 v U'.heap L ∧ FrameEnd U o U' L ({ frames := 1, cells := 0, slots := 0, locals := 12 } : Room).cells ({ frames := 1, cells := 0, slots := 0, locals := 12 } : Room).slots) := by
  refine MetFree.of_bodySF (plainFor_of_name pn_2) hisR ?_
  intro p e s m args below meth c s₁ Bd hml0 hP hK
  obtain ⟨rfl, hZ, hh⟩ := hP
  have hx := Bd.exec
  have hby := Bd.bytes
  have hml : c.maxLocals = 1 := hml0
  have hown : s.vm.findClass "java/lang/Record" = some m.cls := findClass_of_methodNamed Bd.named
  have hnm := (name_of_methodNamed Bd.named Bd.method).1
  have X0 : Stand p l e ({ frames := 1, cells := 0, slots := 0, locals := 12 } : Room) s m #[(.ref a1)] below meth c s₁ [] 0 0 := Stand.of_body Bd
  have e0 : s₁.heap = h0 := by rw [← hh, Bd.state]; rfl
  have N0 := Fr.nil n0
  show own_Go p.tables e below (own_Fin below s (Q2 Z a1 h0 n0) ({ frames := 1, cells := 0, slots := 0, locals := 12 } : Room).cells ({ frames := 1, cells := 0, slots := 0, locals := 12 } : Room).slots) (s₁.setTop (entryFrame m #[(.ref a1)] 1))
  refine own_go (S' := s₁.setTop (mkF m 0 #[.val (.ref a1)] [])) (fun t k => castTop (ef_2 m a1) k) ?_
  show own_Go p.tables e below _ (s₁.setTop (mkF m 0 #[.val (.ref a1)] []))
  refine own_go (fun _ => XS.aloadN X0.here hx rfl (hb hby d2_0) rfl rfl) ?_
  show own_Go p.tables e below _ (s₁.setTop (mkF m 1 #[.val (.ref a1)] [(.ref a1)]))
  obtain ⟨T2, X2, e2, st2⟩ := initO X0 hx hZ hown (hw _ (List.mem_of_getElem? (i := 11) rfl)) (hw _ (List.mem_of_getElem? (i := 12) rfl)) (hw _ (List.mem_of_getElem? (i := 13) rfl)) e0 (g := (mkF m 1 #[.val (.ref a1)] [(.ref a1)])) rfl (by rw [hml]; rfl) rfl (hb hby d2_1) (by decide) (W := 0) (by show 2 * 0 + _ ≤ _; exact Nat.le_of_eq rfl) (by decide)
  refine own_go st2 ?_
  show own_Go p.tables e below _ (T2.setTop (mkF m 4 #[.val (.ref a1)] []))
  refine own_ret0 X2 Bd.notSynchronized hx Bd.returns (hb hby d2_4) (show Q2 Z a1 h0 n0 _ T2.heap _ from by rw [e2]; exact ⟨rfl, N0, rfl⟩) (by decide) (by decide)
theorem d1_0 : decode prog_63_method_1_code 0 = .ok (.aload_n 0, 1) := by decide +kernel
theorem d1_1 : decode prog_63_method_1_code 1 = .ok (.invokespecial 1, 3) := by decide +kernel
theorem d1_4 : decode prog_63_method_1_code 4 = .ok (.aload_n 0, 1) := by decide +kernel
theorem d1_5 : decode prog_63_method_1_code 5 = .ok (.lload_n 1, 1) := by decide +kernel
theorem d1_6 : decode prog_63_method_1_code 6 = .ok (.putfield 7, 3) := by decide +kernel
theorem d1_9 : decode prog_63_method_1_code 9 = .ok (.aload_n 0, 1) := by decide +kernel
theorem d1_10 : decode prog_63_method_1_code 10 = .ok (.lload_n 3, 1) := by decide +kernel
theorem d1_11 : decode prog_63_method_1_code 11 = .ok (.putfield 13, 3) := by decide +kernel
theorem d1_14 : decode prog_63_method_1_code 14 = .ok (.return_, 1) := by decide +kernel
theorem pn_1 : plainName "com/example/leipzig/leipzig/formats/nupn/NupnPragmas$Interval" = true := by first | (simp [plainName, overriddenIn]; done) | decide +kernel
theorem pd_1 : parseMethodDescriptor "()V" = some ⟨[], none⟩ := by decide +kernel
theorem ef_1 (m : MethodId) (a1 : Addr) (q2 : Int64) (q3 : Int64) : entryFrame m #[(.ref a1), (.long q2), (.long q3)] 5 = mkF m 0 #[.val (.ref a1), .val (.long q2), .second, .val (.long q3), .second] [] := by first | (simp [entryFrame, mkF, argsToLocals, Value.category]; done) | rfl
def Q1 (Z : State) (a1 : Addr) (q2 : Int64) (q3 : Int64) (u_low_a1 : Value) (u_high_a1 : Value) (h0 : Heap) (n0 : Nat) (v : Option Value) (h : Heap) (L : List Loc) : Prop := v = none ∧ Fr n0 L ∧ Keep h0 h [a1] ∧ Exa Z h a1 "com/example/leipzig/leipzig/formats/nupn/NupnPragmas$Interval" ∧ Fld Z h a1 "com/example/leipzig/leipzig/formats/nupn/NupnPragmas$Interval" "low" "J" (.long q2) ∧ Fld Z h a1 "com/example/leipzig/leipzig/formats/nupn/NupnPragmas$Interval" "high" "J" (.long q3)
set_option maxRecDepth 65536 in
set_option maxHeartbeats 40000000 in
theorem rm1 (l : Launch) (Z : State) (a0 : Array Value) (hw : ∀ d ∈ tables_1, d.before a0 Z = true) (ws : List Jvm.Cond) (a1 : Addr) (q2 : Int64) (q3 : Int64) (u_low_a1 : Value) (u_high_a1 : Value) (h0 : Heap) (n0 : Nat) (Z0 : n0 ≤ h0.size) (E_a1 : Exa Z h0 a1 "com/example/leipzig/leipzig/formats/nupn/NupnPragmas$Interval") (F_low_a1 : Fld Z h0 a1 "com/example/leipzig/leipzig/formats/nupn/NupnPragmas$Interval" "low" "J" u_low_a1) (g_a1 : n0 ≤ a1) (F_high_a1 : Fld Z h0 a1 "com/example/leipzig/leipzig/formats/nupn/NupnPragmas$Interval" "high" "J" u_high_a1) :
    MetFree l (⟨"com/example/leipzig/leipzig/formats/nupn/NupnPragmas$Interval", "<init>", "(JJ)V"⟩ : MethodName) (head1 (Jvm.Cond.code (⟨"com/example/leipzig/leipzig/formats/nupn/NupnPragmas$Interval", "<init>", "(JJ)V"⟩ : MethodName) prog_63_method_1_code 5 none :: ws) ({ frames := 2, cells := 0, slots := 0, locals := 24 } : Room)) (fun a U => a = #[(.ref a1), (.long q2), (.long q3)] ∧ Z.Warmed39 U.vm ∧ U.heap = h0) (fun _ _ _ _ _ => True) (fun _ U o U' => ∃ v L, o = .returned v ∧ Q1 Z a1 q2 q3 u_low_a1 u_high_a1 h0 n0 v U'.heap L ∧ FrameEnd U o U' L ({ frames := 2, cells := 0, slots := 0, locals := 24 } : Room).cells ({ frames := 2, cells := 0, slots := 0, locals := 24 } : Room).slots) := by
  refine MetFree.of_bodySF (plainFor_of_name pn_1) hisR ?_
  intro p e s m args below meth c s₁ Bd hml0 hP hK
  obtain ⟨rfl, hZ, hh⟩ := hP
  have hx := Bd.exec
  have hby := Bd.bytes
  have hml : c.maxLocals = 5 := hml0
  have hown : s.vm.findClass "com/example/leipzig/leipzig/formats/nupn/NupnPragmas$Interval" = some m.cls := findClass_of_methodNamed Bd.named
  have hnm := (name_of_methodNamed Bd.named Bd.method).1
  have X0 : Stand p l e ({ frames := 2, cells := 0, slots := 0, locals := 24 } : Room) s m #[(.ref a1), (.long q2), (.long q3)] below meth c s₁ [] 0 0 := Stand.of_body Bd
  have e0 : s₁.heap = h0 := by rw [← hh, Bd.state]; rfl
  have N0 := Fr.nil n0
  show own_Go p.tables e below (own_Fin below s (Q1 Z a1 q2 q3 u_low_a1 u_high_a1 h0 n0) ({ frames := 2, cells := 0, slots := 0, locals := 24 } : Room).cells ({ frames := 2, cells := 0, slots := 0, locals := 24 } : Room).slots) (s₁.setTop (entryFrame m #[(.ref a1), (.long q2), (.long q3)] 5))
  refine own_go (S' := s₁.setTop (mkF m 0 #[.val (.ref a1), .val (.long q2), .second, .val (.long q3), .second] [])) (fun t k => castTop (ef_1 m a1 q2 q3) k) ?_
  show own_Go p.tables e below _ (s₁.setTop (mkF m 0 #[.val (.ref a1), .val (.long q2), .second, .val (.long q3), .second] []))
  refine own_go (fun _ => XS.aloadN X0.here hx rfl (hb hby d1_0) rfl rfl) ?_
  show own_Go p.tables e below _ (s₁.setTop (mkF m 1 #[.val (.ref a1), .val (.long q2), .second, .val (.long q3), .second] [(.ref a1)]))
  obtain ⟨_, _, ⟨T4, L4, k4, n4⟩, -, X4, ⟨Lc4, hQ4, l4, y4, z4⟩, st4⟩ := X0.specialBack hx (y := (⟨"java/lang/Record", "<init>", "()V"⟩ : MethodName)) rfl hown (mvT hZ (hw _ (List.mem_of_getElem? (i := 6) rfl))) (mvT hZ (hw _ (List.mem_of_getElem? (i := 7) rfl))) (mvT hZ (hw _ (List.mem_of_getElem? (i := 10) rfl))) (by decide) (backOf (W := 0) (rm2 l Z a0 hw [] a1 h0 n0 Z0 ) hZ (hw _ (List.mem_of_getElem? (i := 10) rfl)) (hw _ (List.mem_of_getElem? (i := 9) rfl)) (by decide) (by decide)) (g := (mkF m 1 #[.val (.ref a1), .val (.long q2), .second, .val (.long q3), .second] [(.ref a1)])) rfl (by rw [hml]; rfl) (Steps.refl _) (a := a1) (argsL := []) (rest := []) (lenOf pd_1 rfl) rfl (by show 2 * 0 + _ ≤ _; exact Nat.le_of_eq rfl) (hb hby d1_1) (fun _ _ => ⟨rfl, e0, (by decide : 0 + 0 ≤ _), (by decide : 0 + 0 ≤ _)⟩)
  dsimp only [Pt.U, Pt.locs, Pt.cells, Pt.slots] at X4 l4 y4 z4 st4 hQ4
  subst l4 y4 z4
  obtain ⟨rfl, N4q, e4⟩ := hQ4
  have N4 := Fr.app N0 N4q
  refine own_via st4 ?_
  show own_Go p.tables e below _ (T4.setTop (mkF m 4 #[.val (.ref a1), .val (.long q2), .second, .val (.long q3), .second] []))
  refine own_go (fun _ => XS.aloadN X4.here hx rfl (hb hby d1_4) rfl rfl) ?_
  show own_Go p.tables e below _ (T4.setTop (mkF m 5 #[.val (.ref a1), .val (.long q2), .second, .val (.long q3), .second] [(.ref a1)]))
  refine own_go (fun _ => XS.lloadN X4.here hx rfl (hb hby d1_5) rfl) ?_
  show own_Go p.tables e below _ (T4.setTop (mkF m 6 #[.val (.ref a1), .val (.long q2), .second, .val (.long q3), .second] [(.long q2), (.ref a1)]))
  obtain ⟨T5, h5, X5, e5, W5, st5⟩ := putF X4 hx hZ hown (host := "") (Or.inl (hw _ (List.mem_of_getElem? (i := 14) rfl))) Via.refl e4 F_low_a1 E_a1 (Or.inr ⟨(hw _ (List.mem_of_getElem? (i := 15) rfl)), rfl, hnm⟩) (hw _ (List.mem_of_getElem? (i := 1) rfl)) (ty := .long) (by decide) rfl rfl (g := (mkF m 6 #[.val (.ref a1), .val (.long q2), .second, .val (.long q3), .second] [(.long q2), (.ref a1)])) rfl rfl (hb hby d1_6)
  refine own_go st5 ?_
  have Fw5 := F_low_a1.same W5
  have K5 : Keep h0 h5 [a1] := (Keep.refl h0 [a1]).wr W5 (Or.inl (List.mem_of_getElem? (i := 0) rfl))
  have N5 := Fr.snoc X5 N4 g_a1
  show own_Go p.tables e below _ (T5.setTop (mkF m 9 #[.val (.ref a1), .val (.long q2), .second, .val (.long q3), .second] []))
  refine own_go (fun _ => XS.aloadN X5.here hx rfl (hb hby d1_9) rfl rfl) ?_
  show own_Go p.tables e below _ (T5.setTop (mkF m 10 #[.val (.ref a1), .val (.long q2), .second, .val (.long q3), .second] [(.ref a1)]))
  refine own_go (fun _ => XS.lloadN X5.here hx rfl (hb hby d1_10) rfl) ?_
  show own_Go p.tables e below _ (T5.setTop (mkF m 11 #[.val (.ref a1), .val (.long q2), .second, .val (.long q3), .second] [(.long q3), (.ref a1)]))
  obtain ⟨T6, h6, X6, e6, W6, st6⟩ := putF X5 hx hZ hown (host := "") (Or.inl (hw _ (List.mem_of_getElem? (i := 16) rfl))) Via.refl e5 (F_high_a1.other W5 (Or.inr (slot_ne (Or.inr (hw _ (List.mem_of_getElem? (i := 17) rfl))) (Or.inr (hw _ (List.mem_of_getElem? (i := 15) rfl))) (by decide) (t := .long) (t' := .long) (by decide) (by decide)))) (E_a1.wr W5) (Or.inr ⟨(hw _ (List.mem_of_getElem? (i := 17) rfl)), rfl, hnm⟩) (hw _ (List.mem_of_getElem? (i := 1) rfl)) (ty := .long) (by decide) rfl rfl (g := (mkF m 11 #[.val (.ref a1), .val (.long q2), .second, .val (.long q3), .second] [(.long q3), (.ref a1)])) rfl rfl (hb hby d1_11)
  refine own_go st6 ?_
  have Fw6 := (F_high_a1.other W5 (Or.inr (slot_ne (Or.inr (hw _ (List.mem_of_getElem? (i := 17) rfl))) (Or.inr (hw _ (List.mem_of_getElem? (i := 15) rfl))) (by decide) (t := .long) (t' := .long) (by decide) (by decide)))).same W6
  have K6 : Keep h0 h6 [a1] := K5.wr W6 (Or.inl (List.mem_of_getElem? (i := 0) rfl))
  have N6 := Fr.snoc X6 N5 g_a1
  show own_Go p.tables e below _ (T6.setTop (mkF m 14 #[.val (.ref a1), .val (.long q2), .second, .val (.long q3), .second] []))
  refine own_ret0 X6 Bd.notSynchronized hx Bd.returns (hb hby d1_14) (show Q1 Z a1 q2 q3 u_low_a1 u_high_a1 h0 n0 _ T6.heap _ from by rw [e6]; exact ⟨rfl, N6, K6, ((E_a1.wr W5).wr W6), (Fw5.other W6 (Or.inr (slot_ne (Or.inr (hw _ (List.mem_of_getElem? (i := 15) rfl))) (Or.inr (hw _ (List.mem_of_getElem? (i := 17) rfl))) (by decide) (t := .long) (t' := .long) (by decide) (by decide)))), Fw6⟩) (by decide) (by decide)
theorem d4_0 : decode prog_63_method_2_code 0 = .ok (.aload_n 0, 1) := by decide +kernel
theorem d4_1 : decode prog_63_method_2_code 1 = .ok (.getfield 7, 3) := by decide +kernel
theorem d4_4 : decode prog_63_method_2_code 4 = .ok (.aload_n 0, 1) := by decide +kernel
theorem d4_5 : decode prog_63_method_2_code 5 = .ok (.getfield 13, 3) := by decide +kernel
theorem d4_8 : decode prog_63_method_2_code 8 = .ok (.lcmp, 1) := by decide +kernel
theorem d4_9 : decode prog_63_method_2_code 9 = .ok (.ifCond .le 7, 3) := by decide +kernel
theorem d4_12 : decode prog_63_method_2_code 12 = .ok (.iconst 1, 1) := by decide +kernel
theorem d4_13 : decode prog_63_method_2_code 13 = .ok (.goto 4, 3) := by decide +kernel
theorem d4_16 : decode prog_63_method_2_code 16 = .ok (.iconst 0, 1) := by decide +kernel
theorem d4_17 : decode prog_63_method_2_code 17 = .ok (.ireturn, 1) := by decide +kernel
theorem pn_4 : plainName "com/example/leipzig/leipzig/formats/nupn/NupnPragmas$Interval" = true := by first | (simp [plainName, overriddenIn]; done) | decide +kernel
theorem ef_4 (m : MethodId) (a1 : Addr) : entryFrame m #[(.ref a1)] 1 = mkF m 0 #[.val (.ref a1)] [] := by first | (simp [entryFrame, mkF, argsToLocals, Value.category]; done) | rfl
def own_f4 (w2 : Int64) (w4 : Int64) : Int32 :=
  if (0 : Int32) < (lcmpW w2 w4) then (1 : Int32)
  else (0 : Int32)
def Q4 (Z : State) (a1 : Addr) (w2 : Int64) (w4 : Int64) (h0 : Heap) (n0 : Nat) (v : Option Value) (h : Heap) (L : List Loc) : Prop := v = some (.int (own_f4 w2 w4)) ∧ Fr n0 L ∧ h = h0
set_option maxRecDepth 65536 in
set_option maxHeartbeats 40000000 in
theorem rm4 (l : Launch) (Z : State) (a0 : Array Value) (hw : ∀ d ∈ tables_1, d.before a0 Z = true) (ws : List Jvm.Cond) (a1 : Addr) (w2 : Int64) (w4 : Int64) (h0 : Heap) (n0 : Nat) (Z0 : n0 ≤ h0.size) (F_low_a1 : Fld Z h0 a1 "com/example/leipzig/leipzig/formats/nupn/NupnPragmas$Interval" "low" "J" (.long w2)) (F_high_a1 : Fld Z h0 a1 "com/example/leipzig/leipzig/formats/nupn/NupnPragmas$Interval" "high" "J" (.long w4)) :
    MetFree l (⟨"com/example/leipzig/leipzig/formats/nupn/NupnPragmas$Interval", "isEmpty", "()Z"⟩ : MethodName) (head1 (Jvm.Cond.code (⟨"com/example/leipzig/leipzig/formats/nupn/NupnPragmas$Interval", "isEmpty", "()Z"⟩ : MethodName) prog_63_method_2_code 1 (some .boolean) :: ws) ({ frames := 0, cells := 0, slots := 0, locals := 0 } : Room)) (fun a U => a = #[(.ref a1)] ∧ Z.Warmed39 U.vm ∧ U.heap = h0) (fun _ _ _ _ _ => True) (fun _ U o U' => ∃ v L, o = .returned v ∧ Q4 Z a1 w2 w4 h0 n0 v U'.heap L ∧ FrameEnd U o U' L ({ frames := 0, cells := 0, slots := 0, locals := 0 } : Room).cells ({ frames := 0, cells := 0, slots := 0, locals := 0 } : Room).slots) := by
  refine MetFree.of_bodySF (plainFor_of_name pn_4) hisR ?_
  intro p e s m args below meth c s₁ Bd hml0 hP hK
  obtain ⟨rfl, hZ, hh⟩ := hP
  have hx := Bd.exec
  have hby := Bd.bytes
  have hml : c.maxLocals = 1 := hml0
  have hown : s.vm.findClass "com/example/leipzig/leipzig/formats/nupn/NupnPragmas$Interval" = some m.cls := findClass_of_methodNamed Bd.named
  have hnm := (name_of_methodNamed Bd.named Bd.method).1
  have X0 : Stand p l e ({ frames := 0, cells := 0, slots := 0, locals := 0 } : Room) s m #[(.ref a1)] below meth c s₁ [] 0 0 := Stand.of_body Bd
  have e0 : s₁.heap = h0 := by rw [← hh, Bd.state]; rfl
  have N0 := Fr.nil n0
  show own_Go p.tables e below (own_Fin below s (Q4 Z a1 w2 w4 h0 n0) ({ frames := 0, cells := 0, slots := 0, locals := 0 } : Room).cells ({ frames := 0, cells := 0, slots := 0, locals := 0 } : Room).slots) (s₁.setTop (entryFrame m #[(.ref a1)] 1))
  refine own_go (S' := s₁.setTop (mkF m 0 #[.val (.ref a1)] [])) (fun t k => castTop (ef_4 m a1) k) ?_
  show own_Go p.tables e below _ (s₁.setTop (mkF m 0 #[.val (.ref a1)] []))
  refine own_go (fun _ => XS.aloadN X0.here hx rfl (hb hby d4_0) rfl rfl) ?_
  show own_Go p.tables e below _ (s₁.setTop (mkF m 1 #[.val (.ref a1)] [(.ref a1)]))
  obtain ⟨T3, X3, e3, st3⟩ := getF X0 hx hZ hown (host := "") (Or.inl (hw _ (List.mem_of_getElem? (i := 14) rfl))) Via.refl e0 F_low_a1 (g := (mkF m 1 #[.val (.ref a1)] [(.ref a1)])) rfl rfl (hb hby d4_1)
  refine own_go st3 ?_
  show own_Go p.tables e below _ (T3.setTop (mkF m 4 #[.val (.ref a1)] [(.long w2)]))
  refine own_go (fun _ => XS.aloadN X3.here hx rfl (hb hby d4_4) rfl rfl) ?_
  show own_Go p.tables e below _ (T3.setTop (mkF m 5 #[.val (.ref a1)] [(.ref a1), (.long w2)]))
  obtain ⟨T5, X5, e5, st5⟩ := getF X3 hx hZ hown (host := "") (Or.inl (hw _ (List.mem_of_getElem? (i := 16) rfl))) Via.refl e3 F_high_a1 (g := (mkF m 5 #[.val (.ref a1)] [(.ref a1), (.long w2)])) rfl rfl (hb hby d4_5)
  refine own_go st5 ?_
  show own_Go p.tables e below _ (T5.setTop (mkF m 8 #[.val (.ref a1)] [(.long w4), (.long w2)]))
  refine own_go (fun _ => XS.lcmp X5.here hx rfl (hb hby d4_8) rfl) ?_
  show own_Go p.tables e below _ (T5.setTop (mkF m 9 #[.val (.ref a1)] [(.int (lcmpW w2 w4))]))
  by_cases hc6_9 : (0 : Int32) < (lcmpW w2 w4)
  · skip
    refine own_go (fun _ => XS.ifNo X5.here hx rfl (hb hby d4_9) rfl ((if0 _ _).trans (tlt hc6_9).2.2.2)) ?_
    show own_Go p.tables e below _ (T5.setTop (mkF m 12 #[.val (.ref a1)] []))
    refine own_go (fun _ => XS.iconst X5.here hx rfl (hb hby d4_12)) ?_
    show own_Go p.tables e below _ (T5.setTop (mkF m 13 #[.val (.ref a1)] [(.int (1 : Int32))]))
    refine own_go (fun _ => XS.goto X5.here hx rfl (pc0 := 13) (pc' := 17) rfl (hb hby d4_13) (by decide) (by decide)) ?_
    show own_Go p.tables e below _ (T5.setTop (mkF m 17 #[.val (.ref a1)] [(.int (1 : Int32))]))
    refine own_retN X5 Bd.notSynchronized hx (t := .boolean) Bd.returns (by simp) (hb hby d4_17) (show Q4 Z a1 w2 w4 h0 n0 _ T5.heap _ from by rw [e5]; exact ⟨(own_val ((if_pos hc6_9).trans rfl)), N0, rfl⟩) (by decide) (by decide)
  · skip
    refine own_go (fun _ => XS.ifYes X5.here hx rfl (pc0 := 9) (pc' := 16) rfl (hb hby d4_9) rfl ((if0 _ _).trans (flt hc6_9).2.2.2) (by decide) (by decide)) ?_
    show own_Go p.tables e below _ (T5.setTop (mkF m 16 #[.val (.ref a1)] []))
    refine own_go (fun _ => XS.iconst X5.here hx rfl (hb hby d4_16)) ?_
    show own_Go p.tables e below _ (T5.setTop (mkF m 17 #[.val (.ref a1)] [(.int (0 : Int32))]))
    refine own_retN X5 Bd.notSynchronized hx (t := .boolean) Bd.returns (by simp) (hb hby d4_17) (show Q4 Z a1 w2 w4 h0 n0 _ T5.heap _ from by rw [e5]; exact ⟨(own_val ((if_neg hc6_9).trans rfl)), N0, rfl⟩) (by decide) (by decide)
theorem pn_0 : plainName "com/example/leipzig/leipzig/formats/nupn/IntervalIsEmptyPinLaw" = true := by first | (simp [plainName, overriddenIn]; done) | decide +kernel
theorem pd_0 : parseMethodDescriptor "(JJ)V" = some ⟨[.long, .long], none⟩ := by decide +kernel
theorem pd_2 : parseMethodDescriptor "()Z" = some ⟨[], some .boolean⟩ := by decide +kernel
theorem ef_0 (m : MethodId) (q1 : Int64) (q2 : Int64) (q3 : Int64) (p4 : Int32) : entryFrame m #[(.long q1), (.long q2), (.long q3), (.int p4)] maxLocals = mkF m 0 #[.val (.long q1), .second, .val (.long q2), .second, .val (.long q3), .second, .val (.int p4), .unset, .unset, .unset, .unset, .unset, .unset, .unset, .unset, .unset] [] := by first | (simp [entryFrame, mkF, argsToLocals, Value.category, maxLocals]; done) | rfl
def own_v0_4 (q1 : Int64) (q2 : Int64) (p4 : Int32) : Int64 := (if (p4 &&& (1 : Int32)) = (0 : Int32) then q2 else ((q1 + (((p4 >>> ((1 : Int32) &&& 31)) % (3 : Int32)).toInt64)) - (1 : Int64)))
def own_v0_47 (q1 : Int64) (q2 : Int64) (q3 : Int64) (p4 : Int32) : Int32 := (if (0 : Int32) < (lcmpW q1 q3) then (0 : Int32) else (if (0 : Int32) < (lcmpW q3 (own_v0_4 q1 q2 p4)) then (0 : Int32) else (1 : Int32)))
def own_v0_68 (q1 : Int64) (q2 : Int64) (p4 : Int32) : Int32 := (if (0 : Int32) < (lcmpW q1 q1) then (0 : Int32) else (if (0 : Int32) < (lcmpW q1 (own_v0_4 q1 q2 p4)) then (0 : Int32) else (1 : Int32)))
def own_v0_87 (q1 : Int64) (q2 : Int64) (q3 : Int64) (p4 : Int32) : Int32 := (if (own_f4 q1 (own_v0_4 q1 q2 p4)) = (0 : Int32) then (own_v0_68 q1 q2 p4) else (if (own_v0_47 q1 q2 q3 p4) = (0 : Int32) then (if (own_v0_68 q1 q2 p4) = (0 : Int32) then (1 : Int32) else (0 : Int32)) else (0 : Int32)))
def own_v0_134 (q3 : Int64) : Int32 := (if (own_f4 q3 q3) = (0 : Int32) then (1 : Int32) else (0 : Int32))
def own_f0 (q1 : Int64) (q2 : Int64) (q3 : Int64) (p4 : Int32) : Int32 :=
  if (own_v0_87 q1 q2 q3 p4) = (0 : Int32) then (0 : Int32)
  else if (own_f4 (1 : Int64) (0 : Int64)) = (0 : Int32) then (0 : Int32)
  else if (own_v0_134 q3) = (0 : Int32) then (0 : Int32)
  else (1 : Int32)
def Q0 (Z : State) (q1 : Int64) (q2 : Int64) (q3 : Int64) (p4 : Int32) (s_NupnPragmas_Interval_NONE : Addr) (h0 : Heap) (n0 : Nat) (v : Option Value) (h : Heap) (L : List Loc) : Prop := v = some (.int (own_f0 q1 q2 q3 p4)) ∧ Fr n0 L
set_option maxRecDepth 65536 in
set_option maxHeartbeats 40000000 in
theorem rm0 (l : Launch) (Z : State) (a0 : Array Value) (hw : ∀ d ∈ tables_1, d.before a0 Z = true) (ws : List Jvm.Cond) (q1 : Int64) (q2 : Int64) (q3 : Int64) (p4 : Int32) (s_NupnPragmas_Interval_NONE : Addr) (h0 : Heap) (n0 : Nat) (Z0 : n0 ≤ h0.size) (S_NupnPragmas_Interval_NONE : Sta Z Z.heap "com/example/leipzig/leipzig/formats/nupn/NupnPragmas$Interval" "NONE" "Lcom/example/leipzig/leipzig/formats/nupn/NupnPragmas$Interval;" (.ref s_NupnPragmas_Interval_NONE)) (E_s_NupnPragmas_Interval_NONE : Exa Z h0 s_NupnPragmas_Interval_NONE "com/example/leipzig/leipzig/formats/nupn/NupnPragmas$Interval") (F_low_s_NupnPragmas_Interval_NONE : Fld Z h0 s_NupnPragmas_Interval_NONE "com/example/leipzig/leipzig/formats/nupn/NupnPragmas$Interval" "low" "J" (.long (1 : Int64))) (F_high_s_NupnPragmas_Interval_NONE : Fld Z h0 s_NupnPragmas_Interval_NONE "com/example/leipzig/leipzig/formats/nupn/NupnPragmas$Interval" "high" "J" (.long (0 : Int64))) (O0 : Old Z n0 h0) :
    MetFree l x (head1 (Jvm.Cond.code x code maxLocals ret :: ws) room_1) (fun a U => a = #[(.long q1), (.long q2), (.long q3), (.int p4)] ∧ Z.Warmed39 U.vm ∧ U.heap = h0) (fun _ _ _ _ _ => True) (fun _ U o U' => ∃ v L, o = .returned v ∧ Q0 Z q1 q2 q3 p4 s_NupnPragmas_Interval_NONE h0 n0 v U'.heap L ∧ FrameEnd U o U' L 16 128) := by
  refine MetFree.of_bodySF (plainFor_of_name pn_0) hisR ?_
  intro p e s m args below meth c s₁ Bd hml0 hP hK
  obtain ⟨rfl, hZ, hh⟩ := hP
  have hx := Bd.exec
  have hby := Bd.bytes
  have hml : c.maxLocals = 16 := hml0
  have hown : s.vm.findClass "com/example/leipzig/leipzig/formats/nupn/IntervalIsEmptyPinLaw" = some m.cls := findClass_of_methodNamed Bd.named
  have hnm := (name_of_methodNamed Bd.named Bd.method).1
  have X0 : Stand p l e room_1 s m #[(.long q1), (.long q2), (.long q3), (.int p4)] below meth c s₁ [] 0 0 := Stand.of_body Bd
  have e0 : s₁.heap = h0 := by rw [← hh, Bd.state]; rfl
  have N0 := Fr.nil n0
  show own_Go p.tables e below (own_Fin below s (Q0 Z q1 q2 q3 p4 s_NupnPragmas_Interval_NONE h0 n0) 16 128) (s₁.setTop (entryFrame m #[(.long q1), (.long q2), (.long q3), (.int p4)] maxLocals))
  refine own_go (S' := s₁.setTop (mkF m 0 #[.val (.long q1), .second, .val (.long q2), .second, .val (.long q3), .second, .val (.int p4), .unset, .unset, .unset, .unset, .unset, .unset, .unset, .unset, .unset] [])) (fun t k => castTop (ef_0 m q1 q2 q3 p4) k) ?_
  show own_Go p.tables e below _ (s₁.setTop (mkF m 0 #[.val (.long q1), .second, .val (.long q2), .second, .val (.long q3), .second, .val (.int p4), .unset, .unset, .unset, .unset, .unset, .unset, .unset, .unset, .unset] []))
  refine own_go (fun _ => XS.iload X0.here hx rfl (hb hby at_0) rfl) ?_
  show own_Go p.tables e below _ (s₁.setTop (mkF m 2 #[.val (.long q1), .second, .val (.long q2), .second, .val (.long q3), .second, .val (.int p4), .unset, .unset, .unset, .unset, .unset, .unset, .unset, .unset, .unset] [(.int p4)]))
  refine own_go (fun _ => XS.iconst X0.here hx rfl (hb hby at_2)) ?_
  show own_Go p.tables e below _ (s₁.setTop (mkF m 3 #[.val (.long q1), .second, .val (.long q2), .second, .val (.long q3), .second, .val (.int p4), .unset, .unset, .unset, .unset, .unset, .unset, .unset, .unset, .unset] [(.int (1 : Int32)), (.int p4)]))
  refine own_go (fun _ => XS.iand X0.here hx rfl (hb hby at_3) rfl) ?_
  refine own_go (S' := s₁.setTop (mkF m 22 #[.val (.long q1), .second, .val (.long q2), .second, .val (.long q3), .second, .val (.int p4), .unset, .unset, .unset, .unset, .unset, .unset, .unset, .unset, .unset] [(.long (own_v0_4 q1 q2 p4))])) (fun t kt => ?_) ?_
  · skip
    show Steps p.tables e below (s₁.setTop (mkF m 4 #[.val (.long q1), .second, .val (.long q2), .second, .val (.long q3), .second, .val (.int p4), .unset, .unset, .unset, .unset, .unset, .unset, .unset, .unset, .unset] [(.int (p4 &&& (1 : Int32)))])) _
    by_cases hc5_4 : (p4 &&& (1 : Int32)) = (0 : Int32)
    · skip
      refine XS.ifYes X0.here hx rfl (pc0 := 4) (pc' := 21) rfl (hb hby at_4) rfl ((if0 _ _).trans (teq hc5_4).1) (by decide) (by decide) ?_
      show Steps p.tables e below (s₁.setTop (mkF m 21 #[.val (.long q1), .second, .val (.long q2), .second, .val (.long q3), .second, .val (.int p4), .unset, .unset, .unset, .unset, .unset, .unset, .unset, .unset, .unset] [])) _
      refine XS.lloadN X0.here hx rfl (hb hby at_21) rfl ?_
      show Steps p.tables e below (s₁.setTop (mkF m 22 #[.val (.long q1), .second, .val (.long q2), .second, .val (.long q3), .second, .val (.int p4), .unset, .unset, .unset, .unset, .unset, .unset, .unset, .unset, .unset] [(.long q2)])) _
      rw [show (own_v0_4 q1 q2 p4) = q2 from ((if_pos hc5_4).trans rfl)] at kt
      exact kt
    · skip
      refine XS.ifNo X0.here hx rfl (hb hby at_4) rfl ((if0 _ _).trans (feq hc5_4).1) ?_
      show Steps p.tables e below (s₁.setTop (mkF m 7 #[.val (.long q1), .second, .val (.long q2), .second, .val (.long q3), .second, .val (.int p4), .unset, .unset, .unset, .unset, .unset, .unset, .unset, .unset, .unset] [])) _
      refine XS.lloadN X0.here hx rfl (hb hby at_7) rfl ?_
      show Steps p.tables e below (s₁.setTop (mkF m 8 #[.val (.long q1), .second, .val (.long q2), .second, .val (.long q3), .second, .val (.int p4), .unset, .unset, .unset, .unset, .unset, .unset, .unset, .unset, .unset] [(.long q1)])) _
      refine XS.iload X0.here hx rfl (hb hby at_8) rfl ?_
      show Steps p.tables e below (s₁.setTop (mkF m 10 #[.val (.long q1), .second, .val (.long q2), .second, .val (.long q3), .second, .val (.int p4), .unset, .unset, .unset, .unset, .unset, .unset, .unset, .unset, .unset] [(.int p4), (.long q1)])) _
      refine XS.iconst X0.here hx rfl (hb hby at_10) ?_
      show Steps p.tables e below (s₁.setTop (mkF m 11 #[.val (.long q1), .second, .val (.long q2), .second, .val (.long q3), .second, .val (.int p4), .unset, .unset, .unset, .unset, .unset, .unset, .unset, .unset, .unset] [(.int (1 : Int32)), (.int p4), (.long q1)])) _
      refine XS.ishr X0.here hx rfl (hb hby at_11) rfl ?_
      show Steps p.tables e below (s₁.setTop (mkF m 12 #[.val (.long q1), .second, .val (.long q2), .second, .val (.long q3), .second, .val (.int p4), .unset, .unset, .unset, .unset, .unset, .unset, .unset, .unset, .unset] [(.int (p4 >>> ((1 : Int32) &&& 31))), (.long q1)])) _
      refine XS.iconst X0.here hx rfl (hb hby at_12) ?_
      show Steps p.tables e below (s₁.setTop (mkF m 13 #[.val (.long q1), .second, .val (.long q2), .second, .val (.long q3), .second, .val (.int p4), .unset, .unset, .unset, .unset, .unset, .unset, .unset, .unset, .unset] [(.int (3 : Int32)), (.int (p4 >>> ((1 : Int32) &&& 31))), (.long q1)])) _
      refine iremM X0 hx rfl (hb hby at_13) rfl (by decide) ?_
      show Steps p.tables e below (s₁.setTop (mkF m 14 #[.val (.long q1), .second, .val (.long q2), .second, .val (.long q3), .second, .val (.int p4), .unset, .unset, .unset, .unset, .unset, .unset, .unset, .unset, .unset] [(.int ((p4 >>> ((1 : Int32) &&& 31)) % (3 : Int32))), (.long q1)])) _
      refine XS.i2l X0.here hx rfl (hb hby at_14) rfl ?_
      show Steps p.tables e below (s₁.setTop (mkF m 15 #[.val (.long q1), .second, .val (.long q2), .second, .val (.long q3), .second, .val (.int p4), .unset, .unset, .unset, .unset, .unset, .unset, .unset, .unset, .unset] [(.long (((p4 >>> ((1 : Int32) &&& 31)) % (3 : Int32)).toInt64)), (.long q1)])) _
      refine XS.ladd X0.here hx rfl (hb hby at_15) rfl ?_
      show Steps p.tables e below (s₁.setTop (mkF m 16 #[.val (.long q1), .second, .val (.long q2), .second, .val (.long q3), .second, .val (.int p4), .unset, .unset, .unset, .unset, .unset, .unset, .unset, .unset, .unset] [(.long (q1 + (((p4 >>> ((1 : Int32) &&& 31)) % (3 : Int32)).toInt64)))])) _
      refine XS.lconst X0.here hx rfl (hb hby at_16) ?_
      show Steps p.tables e below (s₁.setTop (mkF m 17 #[.val (.long q1), .second, .val (.long q2), .second, .val (.long q3), .second, .val (.int p4), .unset, .unset, .unset, .unset, .unset, .unset, .unset, .unset, .unset] [(.long (1 : Int64)), (.long (q1 + (((p4 >>> ((1 : Int32) &&& 31)) % (3 : Int32)).toInt64)))])) _
      refine XS.lsub X0.here hx rfl (hb hby at_17) rfl ?_
      show Steps p.tables e below (s₁.setTop (mkF m 18 #[.val (.long q1), .second, .val (.long q2), .second, .val (.long q3), .second, .val (.int p4), .unset, .unset, .unset, .unset, .unset, .unset, .unset, .unset, .unset] [(.long ((q1 + (((p4 >>> ((1 : Int32) &&& 31)) % (3 : Int32)).toInt64)) - (1 : Int64)))])) _
      refine XS.goto X0.here hx rfl (pc0 := 18) (pc' := 22) rfl (hb hby at_18) (by decide) (by decide) ?_
      show Steps p.tables e below (s₁.setTop (mkF m 22 #[.val (.long q1), .second, .val (.long q2), .second, .val (.long q3), .second, .val (.int p4), .unset, .unset, .unset, .unset, .unset, .unset, .unset, .unset, .unset] [(.long ((q1 + (((p4 >>> ((1 : Int32) &&& 31)) % (3 : Int32)).toInt64)) - (1 : Int64)))])) _
      rw [show (own_v0_4 q1 q2 p4) = ((q1 + (((p4 >>> ((1 : Int32) &&& 31)) % (3 : Int32)).toInt64)) - (1 : Int64)) from ((if_neg hc5_4).trans rfl)] at kt
      exact kt
  show own_Go p.tables e below _ (s₁.setTop (mkF m 22 #[.val (.long q1), .second, .val (.long q2), .second, .val (.long q3), .second, .val (.int p4), .unset, .unset, .unset, .unset, .unset, .unset, .unset, .unset, .unset] [(.long (own_v0_4 q1 q2 p4))]))
  refine own_go (fun _ => XS.lstore X0.here hx rfl (hb hby at_22) rfl (l' := #[.val (.long q1), .second, .val (.long q2), .second, .val (.long q3), .second, .val (.int p4), .val (.long (own_v0_4 q1 q2 p4)), .second, .unset, .unset, .unset, .unset, .unset, .unset, .unset]) rfl) ?_
  show own_Go p.tables e below _ (s₁.setTop (mkF m 24 #[.val (.long q1), .second, .val (.long q2), .second, .val (.long q3), .second, .val (.int p4), .val (.long (own_v0_4 q1 q2 p4)), .second, .unset, .unset, .unset, .unset, .unset, .unset, .unset] []))
  obtain ⟨T6, h6, X6, e6, E6, A6, D6, -, st6⟩ := newO X0 hx hZ hown (hw _ (List.mem_of_getElem? (i := 0) rfl)) (hw _ (List.mem_of_getElem? (i := 1) rfl)) (hw _ (List.mem_of_getElem? (i := 2) rfl)) e0 (g := (mkF m 24 #[.val (.long q1), .second, .val (.long q2), .second, .val (.long q3), .second, .val (.int p4), .val (.long (own_v0_4 q1 q2 p4)), .second, .unset, .unset, .unset, .unset, .unset, .unset, .unset] [])) rfl (hb hby at_24) (by decide) (by decide)
  obtain ⟨b6, g6⟩ : ∃ z, z = h0.size := ⟨_, rfl⟩
  rw [← g6] at A6 D6 st6
  refine own_go st6 ?_
  have g_b6 : n0 ≤ b6 := Nat.le_trans Z0 (Nat.le_of_eq g6.symm)
  have sz_b6 : h0.size ≤ b6 := (Nat.le_trans (Keep.refl h0 []).1 (Nat.le_of_eq g6.symm))
  have K6 : Keep h0 h6 [] := (Keep.refl h0 []).ext E6
  have F_low_b6 : Fld Z h6 b6 "com/example/leipzig/leipzig/formats/nupn/NupnPragmas$Interval" "low" "J" (.long (0 : Int64)) := D6 (Or.inr (hw _ (List.mem_of_getElem? (i := 15) rfl))) (ty := .long) (by decide)
  have F_high_b6 : Fld Z h6 b6 "com/example/leipzig/leipzig/formats/nupn/NupnPragmas$Interval" "high" "J" (.long (0 : Int64)) := D6 (Or.inr (hw _ (List.mem_of_getElem? (i := 17) rfl))) (ty := .long) (by decide)
  show own_Go p.tables e below _ (T6.setTop (mkF m 27 #[.val (.long q1), .second, .val (.long q2), .second, .val (.long q3), .second, .val (.int p4), .val (.long (own_v0_4 q1 q2 p4)), .second, .unset, .unset, .unset, .unset, .unset, .unset, .unset] [(.ref b6)]))
  refine own_go (fun _ => XS.dup X6.here hx rfl (hb hby at_27) rfl rfl) ?_
  show own_Go p.tables e below _ (T6.setTop (mkF m 28 #[.val (.long q1), .second, .val (.long q2), .second, .val (.long q3), .second, .val (.int p4), .val (.long (own_v0_4 q1 q2 p4)), .second, .unset, .unset, .unset, .unset, .unset, .unset, .unset] [(.ref b6), (.ref b6)]))
  refine own_go (fun _ => XS.lloadN X6.here hx rfl (hb hby at_28) rfl) ?_
  show own_Go p.tables e below _ (T6.setTop (mkF m 29 #[.val (.long q1), .second, .val (.long q2), .second, .val (.long q3), .second, .val (.int p4), .val (.long (own_v0_4 q1 q2 p4)), .second, .unset, .unset, .unset, .unset, .unset, .unset, .unset] [(.long q1), (.ref b6), (.ref b6)]))
  refine own_go (fun _ => XS.lload X6.here hx rfl (hb hby at_29) rfl) ?_
  show own_Go p.tables e below _ (T6.setTop (mkF m 31 #[.val (.long q1), .second, .val (.long q2), .second, .val (.long q3), .second, .val (.int p4), .val (.long (own_v0_4 q1 q2 p4)), .second, .unset, .unset, .unset, .unset, .unset, .unset, .unset] [(.long (own_v0_4 q1 q2 p4)), (.long q1), (.ref b6), (.ref b6)]))
  obtain ⟨_, _, ⟨T7, L7, k7, n7⟩, -, X7, ⟨Lc7, hQ7, l7, y7, z7⟩, st7⟩ := X6.specialBack hx (y := (⟨"com/example/leipzig/leipzig/formats/nupn/NupnPragmas$Interval", "<init>", "(JJ)V"⟩ : MethodName)) rfl hown (mvT hZ (hw _ (List.mem_of_getElem? (i := 3) rfl))) (mvT hZ (hw _ (List.mem_of_getElem? (i := 4) rfl))) (mvT hZ (hw _ (List.mem_of_getElem? (i := 5) rfl))) (by decide) (backOf (W := 1) (rm1 l Z a0 hw [] b6 q1 (own_v0_4 q1 q2 p4) (.long (0 : Int64)) (.long (0 : Int64)) h6 n0 (Nat.le_trans Z0 E6.1) A6 F_low_b6 g_b6 F_high_b6) hZ (hw _ (List.mem_of_getElem? (i := 5) rfl)) (hw _ (List.mem_of_getElem? (i := 2) rfl)) (by decide) (by decide)) (g := (mkF m 31 #[.val (.long q1), .second, .val (.long q2), .second, .val (.long q3), .second, .val (.int p4), .val (.long (own_v0_4 q1 q2 p4)), .second, .unset, .unset, .unset, .unset, .unset, .unset, .unset] [(.long (own_v0_4 q1 q2 p4)), (.long q1), (.ref b6), (.ref b6)])) rfl (by rw [hml]; rfl) (Steps.refl _) (a := b6) (argsL := [(.long q1), (.long (own_v0_4 q1 q2 p4))]) (rest := [(.ref b6)]) (lenOf pd_0 rfl) rfl (by show 2 * 0 + _ ≤ _; exact Nat.le_of_eq rfl) (hb hby at_31) (fun _ _ => ⟨rfl, e6, (by decide : 1 + 0 ≤ _), (by decide : 2 + 0 ≤ _)⟩)
  dsimp only [Pt.U, Pt.locs, Pt.cells, Pt.slots] at X7 l7 y7 z7 st7 hQ7
  subst l7 y7 z7
  obtain ⟨rfl, N7q, Kc7, F7_0, F7_1, F7_2⟩ := hQ7
  have N7 := Fr.app N0 N7q
  refine own_via st7 ?_
  have K7 : Keep h0 T7.heap [] := K6.trans Kc7 (allS (Or.inr sz_b6) all0)
  show own_Go p.tables e below _ (T7.setTop (mkF m 34 #[.val (.long q1), .second, .val (.long q2), .second, .val (.long q3), .second, .val (.int p4), .val (.long (own_v0_4 q1 q2 p4)), .second, .unset, .unset, .unset, .unset, .unset, .unset, .unset] [(.ref b6)]))
  refine own_go (fun _ => XS.astore X7.here hx rfl (hb hby at_34) rfl rfl (l' := #[.val (.long q1), .second, .val (.long q2), .second, .val (.long q3), .second, .val (.int p4), .val (.long (own_v0_4 q1 q2 p4)), .second, .val (.ref b6), .unset, .unset, .unset, .unset, .unset, .unset]) rfl) ?_
  show own_Go p.tables e below _ (T7.setTop (mkF m 36 #[.val (.long q1), .second, .val (.long q2), .second, .val (.long q3), .second, .val (.int p4), .val (.long (own_v0_4 q1 q2 p4)), .second, .val (.ref b6), .unset, .unset, .unset, .unset, .unset, .unset] []))
  refine own_go (fun _ => XS.aload X7.here hx rfl (hb hby at_36) rfl rfl) ?_
  show own_Go p.tables e below _ (T7.setTop (mkF m 38 #[.val (.long q1), .second, .val (.long q2), .second, .val (.long q3), .second, .val (.int p4), .val (.long (own_v0_4 q1 q2 p4)), .second, .val (.ref b6), .unset, .unset, .unset, .unset, .unset, .unset] [(.ref b6)]))
  obtain ⟨cq8, kq8, q8a, q8b, q8c⟩ := isOf hZ rfl F7_0
  obtain ⟨_, _, ⟨T8, L8, k8, n8⟩, -, X8, ⟨Lc8, hQ8, l8, y8, z8⟩, st8⟩ := X7.virtualBack hx (y := (⟨"com/example/leipzig/leipzig/formats/nupn/NupnPragmas$Interval", "isEmpty", "()Z"⟩ : MethodName)) (z := (⟨"com/example/leipzig/leipzig/formats/nupn/NupnPragmas$Interval", "isEmpty", "()Z"⟩ : MethodName)) hown (mvT hZ (hw _ (List.mem_of_getElem? (i := 18) rfl))) (mvT hZ (hw _ (List.mem_of_getElem? (i := 19) rfl))) (notFace_of_selects (args := #[]) (mvT hZ (hw _ (List.mem_of_getElem? (i := 21) rfl)))) (mvT hZ (hw _ (List.mem_of_getElem? (i := 21) rfl))) (mvT hZ (hw _ (List.mem_of_getElem? (i := 20) rfl))) (by decide) (backOf (W := 0) (rm4 l Z a0 hw [] b6 q1 (own_v0_4 q1 q2 p4) T7.heap n0 (Nat.le_trans (Nat.le_trans Z0 E6.1) Kc7.1) F7_1 F7_2) hZ (hw _ (List.mem_of_getElem? (i := 22) rfl)) (hw _ (List.mem_of_getElem? (i := 2) rfl)) (by decide) (by decide)) q8a q8c (g := (mkF m 38 #[.val (.long q1), .second, .val (.long q2), .second, .val (.long q3), .second, .val (.int p4), .val (.long (own_v0_4 q1 q2 p4)), .second, .val (.ref b6), .unset, .unset, .unset, .unset, .unset, .unset] [(.ref b6)])) rfl (by rw [hml]; rfl) (Steps.refl _) (argsL := []) (rest := []) (lenOf pd_2 rfl) rfl (by show 2 * 0 + _ ≤ _; exact Nat.le_of_eq rfl) (hb hby at_38) (fun _ _ => ⟨rfl, rfl, (by decide : 1 + 0 ≤ _), (by decide : 2 + 0 ≤ _)⟩)
  dsimp only [Pt.U, Pt.locs, Pt.cells, Pt.slots] at X8 l8 y8 z8 st8 hQ8
  subst l8 y8 z8
  obtain ⟨rfl, N8q, e8⟩ := hQ8
  have N8 := Fr.app N7 N8q
  refine own_via st8 ?_
  show own_Go p.tables e below _ (T8.setTop (mkF m 41 #[.val (.long q1), .second, .val (.long q2), .second, .val (.long q3), .second, .val (.int p4), .val (.long (own_v0_4 q1 q2 p4)), .second, .val (.ref b6), .unset, .unset, .unset, .unset, .unset, .unset] [(.int (own_f4 q1 (own_v0_4 q1 q2 p4)))]))
  refine own_go (fun _ => XS.istore X8.here hx rfl (hb hby at_41) rfl (l' := #[.val (.long q1), .second, .val (.long q2), .second, .val (.long q3), .second, .val (.int p4), .val (.long (own_v0_4 q1 q2 p4)), .second, .val (.ref b6), .val (.int (own_f4 q1 (own_v0_4 q1 q2 p4))), .unset, .unset, .unset, .unset, .unset]) rfl) ?_
  show own_Go p.tables e below _ (T8.setTop (mkF m 43 #[.val (.long q1), .second, .val (.long q2), .second, .val (.long q3), .second, .val (.int p4), .val (.long (own_v0_4 q1 q2 p4)), .second, .val (.ref b6), .val (.int (own_f4 q1 (own_v0_4 q1 q2 p4))), .unset, .unset, .unset, .unset, .unset] []))
  refine own_go (fun _ => XS.lloadN X8.here hx rfl (hb hby at_43) rfl) ?_
  show own_Go p.tables e below _ (T8.setTop (mkF m 44 #[.val (.long q1), .second, .val (.long q2), .second, .val (.long q3), .second, .val (.int p4), .val (.long (own_v0_4 q1 q2 p4)), .second, .val (.ref b6), .val (.int (own_f4 q1 (own_v0_4 q1 q2 p4))), .unset, .unset, .unset, .unset, .unset] [(.long q1)]))
  refine own_go (fun _ => XS.lload X8.here hx rfl (hb hby at_44) rfl) ?_
  show own_Go p.tables e below _ (T8.setTop (mkF m 46 #[.val (.long q1), .second, .val (.long q2), .second, .val (.long q3), .second, .val (.int p4), .val (.long (own_v0_4 q1 q2 p4)), .second, .val (.ref b6), .val (.int (own_f4 q1 (own_v0_4 q1 q2 p4))), .unset, .unset, .unset, .unset, .unset] [(.long q3), (.long q1)]))
  refine own_go (fun _ => XS.lcmp X8.here hx rfl (hb hby at_46) rfl) ?_
  refine own_go (S' := T8.setTop (mkF m 63 #[.val (.long q1), .second, .val (.long q2), .second, .val (.long q3), .second, .val (.int p4), .val (.long (own_v0_4 q1 q2 p4)), .second, .val (.ref b6), .val (.int (own_f4 q1 (own_v0_4 q1 q2 p4))), .unset, .unset, .unset, .unset, .unset] [(.int (own_v0_47 q1 q2 q3 p4))])) (fun t kt => ?_) ?_
  · skip
    show Steps p.tables e below (T8.setTop (mkF m 47 #[.val (.long q1), .second, .val (.long q2), .second, .val (.long q3), .second, .val (.int p4), .val (.long (own_v0_4 q1 q2 p4)), .second, .val (.ref b6), .val (.int (own_f4 q1 (own_v0_4 q1 q2 p4))), .unset, .unset, .unset, .unset, .unset] [(.int (lcmpW q1 q3))])) _
    by_cases hc9_47 : (0 : Int32) < (lcmpW q1 q3)
    · skip
      refine XS.ifYes X8.here hx rfl (pc0 := 47) (pc' := 62) rfl (hb hby at_47) rfl ((if0 _ _).trans (tlt hc9_47).2.2.1) (by decide) (by decide) ?_
      show Steps p.tables e below (T8.setTop (mkF m 62 #[.val (.long q1), .second, .val (.long q2), .second, .val (.long q3), .second, .val (.int p4), .val (.long (own_v0_4 q1 q2 p4)), .second, .val (.ref b6), .val (.int (own_f4 q1 (own_v0_4 q1 q2 p4))), .unset, .unset, .unset, .unset, .unset] [])) _
      refine XS.iconst X8.here hx rfl (hb hby at_62) ?_
      show Steps p.tables e below (T8.setTop (mkF m 63 #[.val (.long q1), .second, .val (.long q2), .second, .val (.long q3), .second, .val (.int p4), .val (.long (own_v0_4 q1 q2 p4)), .second, .val (.ref b6), .val (.int (own_f4 q1 (own_v0_4 q1 q2 p4))), .unset, .unset, .unset, .unset, .unset] [(.int (0 : Int32))])) _
      rw [show (own_v0_47 q1 q2 q3 p4) = (0 : Int32) from ((if_pos hc9_47).trans rfl)] at kt
      exact kt
    · skip
      refine XS.ifNo X8.here hx rfl (hb hby at_47) rfl ((if0 _ _).trans (flt hc9_47).2.2.1) ?_
      show Steps p.tables e below (T8.setTop (mkF m 50 #[.val (.long q1), .second, .val (.long q2), .second, .val (.long q3), .second, .val (.int p4), .val (.long (own_v0_4 q1 q2 p4)), .second, .val (.ref b6), .val (.int (own_f4 q1 (own_v0_4 q1 q2 p4))), .unset, .unset, .unset, .unset, .unset] [])) _
      refine XS.lload X8.here hx rfl (hb hby at_50) rfl ?_
      show Steps p.tables e below (T8.setTop (mkF m 52 #[.val (.long q1), .second, .val (.long q2), .second, .val (.long q3), .second, .val (.int p4), .val (.long (own_v0_4 q1 q2 p4)), .second, .val (.ref b6), .val (.int (own_f4 q1 (own_v0_4 q1 q2 p4))), .unset, .unset, .unset, .unset, .unset] [(.long q3)])) _
      refine XS.lload X8.here hx rfl (hb hby at_52) rfl ?_
      show Steps p.tables e below (T8.setTop (mkF m 54 #[.val (.long q1), .second, .val (.long q2), .second, .val (.long q3), .second, .val (.int p4), .val (.long (own_v0_4 q1 q2 p4)), .second, .val (.ref b6), .val (.int (own_f4 q1 (own_v0_4 q1 q2 p4))), .unset, .unset, .unset, .unset, .unset] [(.long (own_v0_4 q1 q2 p4)), (.long q3)])) _
      refine XS.lcmp X8.here hx rfl (hb hby at_54) rfl ?_
      show Steps p.tables e below (T8.setTop (mkF m 55 #[.val (.long q1), .second, .val (.long q2), .second, .val (.long q3), .second, .val (.int p4), .val (.long (own_v0_4 q1 q2 p4)), .second, .val (.ref b6), .val (.int (own_f4 q1 (own_v0_4 q1 q2 p4))), .unset, .unset, .unset, .unset, .unset] [(.int (lcmpW q3 (own_v0_4 q1 q2 p4)))])) _
      by_cases hc10_55 : (0 : Int32) < (lcmpW q3 (own_v0_4 q1 q2 p4))
      · skip
        refine XS.ifYes X8.here hx rfl (pc0 := 55) (pc' := 62) rfl (hb hby at_55) rfl ((if0 _ _).trans (tlt hc10_55).2.2.1) (by decide) (by decide) ?_
        show Steps p.tables e below (T8.setTop (mkF m 62 #[.val (.long q1), .second, .val (.long q2), .second, .val (.long q3), .second, .val (.int p4), .val (.long (own_v0_4 q1 q2 p4)), .second, .val (.ref b6), .val (.int (own_f4 q1 (own_v0_4 q1 q2 p4))), .unset, .unset, .unset, .unset, .unset] [])) _
        refine XS.iconst X8.here hx rfl (hb hby at_62) ?_
        show Steps p.tables e below (T8.setTop (mkF m 63 #[.val (.long q1), .second, .val (.long q2), .second, .val (.long q3), .second, .val (.int p4), .val (.long (own_v0_4 q1 q2 p4)), .second, .val (.ref b6), .val (.int (own_f4 q1 (own_v0_4 q1 q2 p4))), .unset, .unset, .unset, .unset, .unset] [(.int (0 : Int32))])) _
        rw [show (own_v0_47 q1 q2 q3 p4) = (0 : Int32) from ((if_neg hc9_47).trans ((if_pos hc10_55).trans rfl))] at kt
        exact kt
      · skip
        refine XS.ifNo X8.here hx rfl (hb hby at_55) rfl ((if0 _ _).trans (flt hc10_55).2.2.1) ?_
        show Steps p.tables e below (T8.setTop (mkF m 58 #[.val (.long q1), .second, .val (.long q2), .second, .val (.long q3), .second, .val (.int p4), .val (.long (own_v0_4 q1 q2 p4)), .second, .val (.ref b6), .val (.int (own_f4 q1 (own_v0_4 q1 q2 p4))), .unset, .unset, .unset, .unset, .unset] [])) _
        refine XS.iconst X8.here hx rfl (hb hby at_58) ?_
        show Steps p.tables e below (T8.setTop (mkF m 59 #[.val (.long q1), .second, .val (.long q2), .second, .val (.long q3), .second, .val (.int p4), .val (.long (own_v0_4 q1 q2 p4)), .second, .val (.ref b6), .val (.int (own_f4 q1 (own_v0_4 q1 q2 p4))), .unset, .unset, .unset, .unset, .unset] [(.int (1 : Int32))])) _
        refine XS.goto X8.here hx rfl (pc0 := 59) (pc' := 63) rfl (hb hby at_59) (by decide) (by decide) ?_
        show Steps p.tables e below (T8.setTop (mkF m 63 #[.val (.long q1), .second, .val (.long q2), .second, .val (.long q3), .second, .val (.int p4), .val (.long (own_v0_4 q1 q2 p4)), .second, .val (.ref b6), .val (.int (own_f4 q1 (own_v0_4 q1 q2 p4))), .unset, .unset, .unset, .unset, .unset] [(.int (1 : Int32))])) _
        rw [show (own_v0_47 q1 q2 q3 p4) = (1 : Int32) from ((if_neg hc9_47).trans ((if_neg hc10_55).trans rfl))] at kt
        exact kt
  show own_Go p.tables e below _ (T8.setTop (mkF m 63 #[.val (.long q1), .second, .val (.long q2), .second, .val (.long q3), .second, .val (.int p4), .val (.long (own_v0_4 q1 q2 p4)), .second, .val (.ref b6), .val (.int (own_f4 q1 (own_v0_4 q1 q2 p4))), .unset, .unset, .unset, .unset, .unset] [(.int (own_v0_47 q1 q2 q3 p4))]))
  refine own_go (fun _ => XS.istore X8.here hx rfl (hb hby at_63) rfl (l' := #[.val (.long q1), .second, .val (.long q2), .second, .val (.long q3), .second, .val (.int p4), .val (.long (own_v0_4 q1 q2 p4)), .second, .val (.ref b6), .val (.int (own_f4 q1 (own_v0_4 q1 q2 p4))), .val (.int (own_v0_47 q1 q2 q3 p4)), .unset, .unset, .unset, .unset]) rfl) ?_
  show own_Go p.tables e below _ (T8.setTop (mkF m 65 #[.val (.long q1), .second, .val (.long q2), .second, .val (.long q3), .second, .val (.int p4), .val (.long (own_v0_4 q1 q2 p4)), .second, .val (.ref b6), .val (.int (own_f4 q1 (own_v0_4 q1 q2 p4))), .val (.int (own_v0_47 q1 q2 q3 p4)), .unset, .unset, .unset, .unset] []))
  refine own_go (fun _ => XS.lloadN X8.here hx rfl (hb hby at_65) rfl) ?_
  show own_Go p.tables e below _ (T8.setTop (mkF m 66 #[.val (.long q1), .second, .val (.long q2), .second, .val (.long q3), .second, .val (.int p4), .val (.long (own_v0_4 q1 q2 p4)), .second, .val (.ref b6), .val (.int (own_f4 q1 (own_v0_4 q1 q2 p4))), .val (.int (own_v0_47 q1 q2 q3 p4)), .unset, .unset, .unset, .unset] [(.long q1)]))
  refine own_go (fun _ => XS.lloadN X8.here hx rfl (hb hby at_66) rfl) ?_
  show own_Go p.tables e below _ (T8.setTop (mkF m 67 #[.val (.long q1), .second, .val (.long q2), .second, .val (.long q3), .second, .val (.int p4), .val (.long (own_v0_4 q1 q2 p4)), .second, .val (.ref b6), .val (.int (own_f4 q1 (own_v0_4 q1 q2 p4))), .val (.int (own_v0_47 q1 q2 q3 p4)), .unset, .unset, .unset, .unset] [(.long q1), (.long q1)]))
  refine own_go (fun _ => XS.lcmp X8.here hx rfl (hb hby at_67) rfl) ?_
  refine own_go (S' := T8.setTop (mkF m 83 #[.val (.long q1), .second, .val (.long q2), .second, .val (.long q3), .second, .val (.int p4), .val (.long (own_v0_4 q1 q2 p4)), .second, .val (.ref b6), .val (.int (own_f4 q1 (own_v0_4 q1 q2 p4))), .val (.int (own_v0_47 q1 q2 q3 p4)), .unset, .unset, .unset, .unset] [(.int (own_v0_68 q1 q2 p4))])) (fun t kt => ?_) ?_
  · skip
    show Steps p.tables e below (T8.setTop (mkF m 68 #[.val (.long q1), .second, .val (.long q2), .second, .val (.long q3), .second, .val (.int p4), .val (.long (own_v0_4 q1 q2 p4)), .second, .val (.ref b6), .val (.int (own_f4 q1 (own_v0_4 q1 q2 p4))), .val (.int (own_v0_47 q1 q2 q3 p4)), .unset, .unset, .unset, .unset] [(.int (lcmpW q1 q1))])) _
    by_cases hc11_68 : (0 : Int32) < (lcmpW q1 q1)
    · skip
      refine XS.ifYes X8.here hx rfl (pc0 := 68) (pc' := 82) rfl (hb hby at_68) rfl ((if0 _ _).trans (tlt hc11_68).2.2.1) (by decide) (by decide) ?_
      show Steps p.tables e below (T8.setTop (mkF m 82 #[.val (.long q1), .second, .val (.long q2), .second, .val (.long q3), .second, .val (.int p4), .val (.long (own_v0_4 q1 q2 p4)), .second, .val (.ref b6), .val (.int (own_f4 q1 (own_v0_4 q1 q2 p4))), .val (.int (own_v0_47 q1 q2 q3 p4)), .unset, .unset, .unset, .unset] [])) _
      refine XS.iconst X8.here hx rfl (hb hby at_82) ?_
      show Steps p.tables e below (T8.setTop (mkF m 83 #[.val (.long q1), .second, .val (.long q2), .second, .val (.long q3), .second, .val (.int p4), .val (.long (own_v0_4 q1 q2 p4)), .second, .val (.ref b6), .val (.int (own_f4 q1 (own_v0_4 q1 q2 p4))), .val (.int (own_v0_47 q1 q2 q3 p4)), .unset, .unset, .unset, .unset] [(.int (0 : Int32))])) _
      rw [show (own_v0_68 q1 q2 p4) = (0 : Int32) from ((if_pos hc11_68).trans rfl)] at kt
      exact kt
    · skip
      refine XS.ifNo X8.here hx rfl (hb hby at_68) rfl ((if0 _ _).trans (flt hc11_68).2.2.1) ?_
      show Steps p.tables e below (T8.setTop (mkF m 71 #[.val (.long q1), .second, .val (.long q2), .second, .val (.long q3), .second, .val (.int p4), .val (.long (own_v0_4 q1 q2 p4)), .second, .val (.ref b6), .val (.int (own_f4 q1 (own_v0_4 q1 q2 p4))), .val (.int (own_v0_47 q1 q2 q3 p4)), .unset, .unset, .unset, .unset] [])) _
      refine XS.lloadN X8.here hx rfl (hb hby at_71) rfl ?_
      show Steps p.tables e below (T8.setTop (mkF m 72 #[.val (.long q1), .second, .val (.long q2), .second, .val (.long q3), .second, .val (.int p4), .val (.long (own_v0_4 q1 q2 p4)), .second, .val (.ref b6), .val (.int (own_f4 q1 (own_v0_4 q1 q2 p4))), .val (.int (own_v0_47 q1 q2 q3 p4)), .unset, .unset, .unset, .unset] [(.long q1)])) _
      refine XS.lload X8.here hx rfl (hb hby at_72) rfl ?_
      show Steps p.tables e below (T8.setTop (mkF m 74 #[.val (.long q1), .second, .val (.long q2), .second, .val (.long q3), .second, .val (.int p4), .val (.long (own_v0_4 q1 q2 p4)), .second, .val (.ref b6), .val (.int (own_f4 q1 (own_v0_4 q1 q2 p4))), .val (.int (own_v0_47 q1 q2 q3 p4)), .unset, .unset, .unset, .unset] [(.long (own_v0_4 q1 q2 p4)), (.long q1)])) _
      refine XS.lcmp X8.here hx rfl (hb hby at_74) rfl ?_
      show Steps p.tables e below (T8.setTop (mkF m 75 #[.val (.long q1), .second, .val (.long q2), .second, .val (.long q3), .second, .val (.int p4), .val (.long (own_v0_4 q1 q2 p4)), .second, .val (.ref b6), .val (.int (own_f4 q1 (own_v0_4 q1 q2 p4))), .val (.int (own_v0_47 q1 q2 q3 p4)), .unset, .unset, .unset, .unset] [(.int (lcmpW q1 (own_v0_4 q1 q2 p4)))])) _
      by_cases hc12_75 : (0 : Int32) < (lcmpW q1 (own_v0_4 q1 q2 p4))
      · skip
        refine XS.ifYes X8.here hx rfl (pc0 := 75) (pc' := 82) rfl (hb hby at_75) rfl ((if0 _ _).trans (tlt hc12_75).2.2.1) (by decide) (by decide) ?_
        show Steps p.tables e below (T8.setTop (mkF m 82 #[.val (.long q1), .second, .val (.long q2), .second, .val (.long q3), .second, .val (.int p4), .val (.long (own_v0_4 q1 q2 p4)), .second, .val (.ref b6), .val (.int (own_f4 q1 (own_v0_4 q1 q2 p4))), .val (.int (own_v0_47 q1 q2 q3 p4)), .unset, .unset, .unset, .unset] [])) _
        refine XS.iconst X8.here hx rfl (hb hby at_82) ?_
        show Steps p.tables e below (T8.setTop (mkF m 83 #[.val (.long q1), .second, .val (.long q2), .second, .val (.long q3), .second, .val (.int p4), .val (.long (own_v0_4 q1 q2 p4)), .second, .val (.ref b6), .val (.int (own_f4 q1 (own_v0_4 q1 q2 p4))), .val (.int (own_v0_47 q1 q2 q3 p4)), .unset, .unset, .unset, .unset] [(.int (0 : Int32))])) _
        rw [show (own_v0_68 q1 q2 p4) = (0 : Int32) from ((if_neg hc11_68).trans ((if_pos hc12_75).trans rfl))] at kt
        exact kt
      · skip
        refine XS.ifNo X8.here hx rfl (hb hby at_75) rfl ((if0 _ _).trans (flt hc12_75).2.2.1) ?_
        show Steps p.tables e below (T8.setTop (mkF m 78 #[.val (.long q1), .second, .val (.long q2), .second, .val (.long q3), .second, .val (.int p4), .val (.long (own_v0_4 q1 q2 p4)), .second, .val (.ref b6), .val (.int (own_f4 q1 (own_v0_4 q1 q2 p4))), .val (.int (own_v0_47 q1 q2 q3 p4)), .unset, .unset, .unset, .unset] [])) _
        refine XS.iconst X8.here hx rfl (hb hby at_78) ?_
        show Steps p.tables e below (T8.setTop (mkF m 79 #[.val (.long q1), .second, .val (.long q2), .second, .val (.long q3), .second, .val (.int p4), .val (.long (own_v0_4 q1 q2 p4)), .second, .val (.ref b6), .val (.int (own_f4 q1 (own_v0_4 q1 q2 p4))), .val (.int (own_v0_47 q1 q2 q3 p4)), .unset, .unset, .unset, .unset] [(.int (1 : Int32))])) _
        refine XS.goto X8.here hx rfl (pc0 := 79) (pc' := 83) rfl (hb hby at_79) (by decide) (by decide) ?_
        show Steps p.tables e below (T8.setTop (mkF m 83 #[.val (.long q1), .second, .val (.long q2), .second, .val (.long q3), .second, .val (.int p4), .val (.long (own_v0_4 q1 q2 p4)), .second, .val (.ref b6), .val (.int (own_f4 q1 (own_v0_4 q1 q2 p4))), .val (.int (own_v0_47 q1 q2 q3 p4)), .unset, .unset, .unset, .unset] [(.int (1 : Int32))])) _
        rw [show (own_v0_68 q1 q2 p4) = (1 : Int32) from ((if_neg hc11_68).trans ((if_neg hc12_75).trans rfl))] at kt
        exact kt
  show own_Go p.tables e below _ (T8.setTop (mkF m 83 #[.val (.long q1), .second, .val (.long q2), .second, .val (.long q3), .second, .val (.int p4), .val (.long (own_v0_4 q1 q2 p4)), .second, .val (.ref b6), .val (.int (own_f4 q1 (own_v0_4 q1 q2 p4))), .val (.int (own_v0_47 q1 q2 q3 p4)), .unset, .unset, .unset, .unset] [(.int (own_v0_68 q1 q2 p4))]))
  refine own_go (fun _ => XS.istore X8.here hx rfl (hb hby at_83) rfl (l' := #[.val (.long q1), .second, .val (.long q2), .second, .val (.long q3), .second, .val (.int p4), .val (.long (own_v0_4 q1 q2 p4)), .second, .val (.ref b6), .val (.int (own_f4 q1 (own_v0_4 q1 q2 p4))), .val (.int (own_v0_47 q1 q2 q3 p4)), .val (.int (own_v0_68 q1 q2 p4)), .unset, .unset, .unset]) rfl) ?_
  show own_Go p.tables e below _ (T8.setTop (mkF m 85 #[.val (.long q1), .second, .val (.long q2), .second, .val (.long q3), .second, .val (.int p4), .val (.long (own_v0_4 q1 q2 p4)), .second, .val (.ref b6), .val (.int (own_f4 q1 (own_v0_4 q1 q2 p4))), .val (.int (own_v0_47 q1 q2 q3 p4)), .val (.int (own_v0_68 q1 q2 p4)), .unset, .unset, .unset] []))
  refine own_go (fun _ => XS.iload X8.here hx rfl (hb hby at_85) rfl) ?_
  refine own_go (S' := T8.setTop (mkF m 110 #[.val (.long q1), .second, .val (.long q2), .second, .val (.long q3), .second, .val (.int p4), .val (.long (own_v0_4 q1 q2 p4)), .second, .val (.ref b6), .val (.int (own_f4 q1 (own_v0_4 q1 q2 p4))), .val (.int (own_v0_47 q1 q2 q3 p4)), .val (.int (own_v0_68 q1 q2 p4)), .unset, .unset, .unset] [(.int (own_v0_87 q1 q2 q3 p4))])) (fun t kt => ?_) ?_
  · skip
    show Steps p.tables e below (T8.setTop (mkF m 87 #[.val (.long q1), .second, .val (.long q2), .second, .val (.long q3), .second, .val (.int p4), .val (.long (own_v0_4 q1 q2 p4)), .second, .val (.ref b6), .val (.int (own_f4 q1 (own_v0_4 q1 q2 p4))), .val (.int (own_v0_47 q1 q2 q3 p4)), .val (.int (own_v0_68 q1 q2 p4)), .unset, .unset, .unset] [(.int (own_f4 q1 (own_v0_4 q1 q2 p4)))])) _
    by_cases hc13_87 : (own_f4 q1 (own_v0_4 q1 q2 p4)) = (0 : Int32)
    · skip
      refine XS.ifYes X8.here hx rfl (pc0 := 87) (pc' := 108) rfl (hb hby at_87) rfl ((if0 _ _).trans (teq hc13_87).1) (by decide) (by decide) ?_
      show Steps p.tables e below (T8.setTop (mkF m 108 #[.val (.long q1), .second, .val (.long q2), .second, .val (.long q3), .second, .val (.int p4), .val (.long (own_v0_4 q1 q2 p4)), .second, .val (.ref b6), .val (.int (own_f4 q1 (own_v0_4 q1 q2 p4))), .val (.int (own_v0_47 q1 q2 q3 p4)), .val (.int (own_v0_68 q1 q2 p4)), .unset, .unset, .unset] [])) _
      refine XS.iload X8.here hx rfl (hb hby at_108) rfl ?_
      show Steps p.tables e below (T8.setTop (mkF m 110 #[.val (.long q1), .second, .val (.long q2), .second, .val (.long q3), .second, .val (.int p4), .val (.long (own_v0_4 q1 q2 p4)), .second, .val (.ref b6), .val (.int (own_f4 q1 (own_v0_4 q1 q2 p4))), .val (.int (own_v0_47 q1 q2 q3 p4)), .val (.int (own_v0_68 q1 q2 p4)), .unset, .unset, .unset] [(.int (own_v0_68 q1 q2 p4))])) _
      rw [show (own_v0_87 q1 q2 q3 p4) = (own_v0_68 q1 q2 p4) from ((if_pos hc13_87).trans rfl)] at kt
      exact kt
    · skip
      refine XS.ifNo X8.here hx rfl (hb hby at_87) rfl ((if0 _ _).trans (feq hc13_87).1) ?_
      show Steps p.tables e below (T8.setTop (mkF m 90 #[.val (.long q1), .second, .val (.long q2), .second, .val (.long q3), .second, .val (.int p4), .val (.long (own_v0_4 q1 q2 p4)), .second, .val (.ref b6), .val (.int (own_f4 q1 (own_v0_4 q1 q2 p4))), .val (.int (own_v0_47 q1 q2 q3 p4)), .val (.int (own_v0_68 q1 q2 p4)), .unset, .unset, .unset] [])) _
      refine XS.iload X8.here hx rfl (hb hby at_90) rfl ?_
      show Steps p.tables e below (T8.setTop (mkF m 92 #[.val (.long q1), .second, .val (.long q2), .second, .val (.long q3), .second, .val (.int p4), .val (.long (own_v0_4 q1 q2 p4)), .second, .val (.ref b6), .val (.int (own_f4 q1 (own_v0_4 q1 q2 p4))), .val (.int (own_v0_47 q1 q2 q3 p4)), .val (.int (own_v0_68 q1 q2 p4)), .unset, .unset, .unset] [(.int (own_v0_47 q1 q2 q3 p4))])) _
      by_cases hc14_92 : (own_v0_47 q1 q2 q3 p4) = (0 : Int32)
      · skip
        refine XS.ifNo X8.here hx rfl (hb hby at_92) rfl ((if0 _ _).trans (teq hc14_92).2) ?_
        show Steps p.tables e below (T8.setTop (mkF m 95 #[.val (.long q1), .second, .val (.long q2), .second, .val (.long q3), .second, .val (.int p4), .val (.long (own_v0_4 q1 q2 p4)), .second, .val (.ref b6), .val (.int (own_f4 q1 (own_v0_4 q1 q2 p4))), .val (.int (own_v0_47 q1 q2 q3 p4)), .val (.int (own_v0_68 q1 q2 p4)), .unset, .unset, .unset] [])) _
        refine XS.iload X8.here hx rfl (hb hby at_95) rfl ?_
        show Steps p.tables e below (T8.setTop (mkF m 97 #[.val (.long q1), .second, .val (.long q2), .second, .val (.long q3), .second, .val (.int p4), .val (.long (own_v0_4 q1 q2 p4)), .second, .val (.ref b6), .val (.int (own_f4 q1 (own_v0_4 q1 q2 p4))), .val (.int (own_v0_47 q1 q2 q3 p4)), .val (.int (own_v0_68 q1 q2 p4)), .unset, .unset, .unset] [(.int (own_v0_68 q1 q2 p4))])) _
        by_cases hc15_97 : (own_v0_68 q1 q2 p4) = (0 : Int32)
        · skip
          refine XS.ifNo X8.here hx rfl (hb hby at_97) rfl ((if0 _ _).trans (teq hc15_97).2) ?_
          show Steps p.tables e below (T8.setTop (mkF m 100 #[.val (.long q1), .second, .val (.long q2), .second, .val (.long q3), .second, .val (.int p4), .val (.long (own_v0_4 q1 q2 p4)), .second, .val (.ref b6), .val (.int (own_f4 q1 (own_v0_4 q1 q2 p4))), .val (.int (own_v0_47 q1 q2 q3 p4)), .val (.int (own_v0_68 q1 q2 p4)), .unset, .unset, .unset] [])) _
          refine XS.iconst X8.here hx rfl (hb hby at_100) ?_
          show Steps p.tables e below (T8.setTop (mkF m 101 #[.val (.long q1), .second, .val (.long q2), .second, .val (.long q3), .second, .val (.int p4), .val (.long (own_v0_4 q1 q2 p4)), .second, .val (.ref b6), .val (.int (own_f4 q1 (own_v0_4 q1 q2 p4))), .val (.int (own_v0_47 q1 q2 q3 p4)), .val (.int (own_v0_68 q1 q2 p4)), .unset, .unset, .unset] [(.int (1 : Int32))])) _
          refine XS.goto X8.here hx rfl (pc0 := 101) (pc' := 110) rfl (hb hby at_101) (by decide) (by decide) ?_
          show Steps p.tables e below (T8.setTop (mkF m 110 #[.val (.long q1), .second, .val (.long q2), .second, .val (.long q3), .second, .val (.int p4), .val (.long (own_v0_4 q1 q2 p4)), .second, .val (.ref b6), .val (.int (own_f4 q1 (own_v0_4 q1 q2 p4))), .val (.int (own_v0_47 q1 q2 q3 p4)), .val (.int (own_v0_68 q1 q2 p4)), .unset, .unset, .unset] [(.int (1 : Int32))])) _
          rw [show (own_v0_87 q1 q2 q3 p4) = (1 : Int32) from ((if_neg hc13_87).trans ((if_pos hc14_92).trans ((if_pos hc15_97).trans rfl)))] at kt
          exact kt
        · skip
          refine XS.ifYes X8.here hx rfl (pc0 := 97) (pc' := 104) rfl (hb hby at_97) rfl ((if0 _ _).trans (feq hc15_97).2) (by decide) (by decide) ?_
          show Steps p.tables e below (T8.setTop (mkF m 104 #[.val (.long q1), .second, .val (.long q2), .second, .val (.long q3), .second, .val (.int p4), .val (.long (own_v0_4 q1 q2 p4)), .second, .val (.ref b6), .val (.int (own_f4 q1 (own_v0_4 q1 q2 p4))), .val (.int (own_v0_47 q1 q2 q3 p4)), .val (.int (own_v0_68 q1 q2 p4)), .unset, .unset, .unset] [])) _
          refine XS.iconst X8.here hx rfl (hb hby at_104) ?_
          show Steps p.tables e below (T8.setTop (mkF m 105 #[.val (.long q1), .second, .val (.long q2), .second, .val (.long q3), .second, .val (.int p4), .val (.long (own_v0_4 q1 q2 p4)), .second, .val (.ref b6), .val (.int (own_f4 q1 (own_v0_4 q1 q2 p4))), .val (.int (own_v0_47 q1 q2 q3 p4)), .val (.int (own_v0_68 q1 q2 p4)), .unset, .unset, .unset] [(.int (0 : Int32))])) _
          refine XS.goto X8.here hx rfl (pc0 := 105) (pc' := 110) rfl (hb hby at_105) (by decide) (by decide) ?_
          show Steps p.tables e below (T8.setTop (mkF m 110 #[.val (.long q1), .second, .val (.long q2), .second, .val (.long q3), .second, .val (.int p4), .val (.long (own_v0_4 q1 q2 p4)), .second, .val (.ref b6), .val (.int (own_f4 q1 (own_v0_4 q1 q2 p4))), .val (.int (own_v0_47 q1 q2 q3 p4)), .val (.int (own_v0_68 q1 q2 p4)), .unset, .unset, .unset] [(.int (0 : Int32))])) _
          rw [show (own_v0_87 q1 q2 q3 p4) = (0 : Int32) from ((if_neg hc13_87).trans ((if_pos hc14_92).trans ((if_neg hc15_97).trans rfl)))] at kt
          exact kt
      · skip
        refine XS.ifYes X8.here hx rfl (pc0 := 92) (pc' := 104) rfl (hb hby at_92) rfl ((if0 _ _).trans (feq hc14_92).2) (by decide) (by decide) ?_
        show Steps p.tables e below (T8.setTop (mkF m 104 #[.val (.long q1), .second, .val (.long q2), .second, .val (.long q3), .second, .val (.int p4), .val (.long (own_v0_4 q1 q2 p4)), .second, .val (.ref b6), .val (.int (own_f4 q1 (own_v0_4 q1 q2 p4))), .val (.int (own_v0_47 q1 q2 q3 p4)), .val (.int (own_v0_68 q1 q2 p4)), .unset, .unset, .unset] [])) _
        refine XS.iconst X8.here hx rfl (hb hby at_104) ?_
        show Steps p.tables e below (T8.setTop (mkF m 105 #[.val (.long q1), .second, .val (.long q2), .second, .val (.long q3), .second, .val (.int p4), .val (.long (own_v0_4 q1 q2 p4)), .second, .val (.ref b6), .val (.int (own_f4 q1 (own_v0_4 q1 q2 p4))), .val (.int (own_v0_47 q1 q2 q3 p4)), .val (.int (own_v0_68 q1 q2 p4)), .unset, .unset, .unset] [(.int (0 : Int32))])) _
        refine XS.goto X8.here hx rfl (pc0 := 105) (pc' := 110) rfl (hb hby at_105) (by decide) (by decide) ?_
        show Steps p.tables e below (T8.setTop (mkF m 110 #[.val (.long q1), .second, .val (.long q2), .second, .val (.long q3), .second, .val (.int p4), .val (.long (own_v0_4 q1 q2 p4)), .second, .val (.ref b6), .val (.int (own_f4 q1 (own_v0_4 q1 q2 p4))), .val (.int (own_v0_47 q1 q2 q3 p4)), .val (.int (own_v0_68 q1 q2 p4)), .unset, .unset, .unset] [(.int (0 : Int32))])) _
        rw [show (own_v0_87 q1 q2 q3 p4) = (0 : Int32) from ((if_neg hc13_87).trans ((if_neg hc14_92).trans rfl))] at kt
        exact kt
  show own_Go p.tables e below _ (T8.setTop (mkF m 110 #[.val (.long q1), .second, .val (.long q2), .second, .val (.long q3), .second, .val (.int p4), .val (.long (own_v0_4 q1 q2 p4)), .second, .val (.ref b6), .val (.int (own_f4 q1 (own_v0_4 q1 q2 p4))), .val (.int (own_v0_47 q1 q2 q3 p4)), .val (.int (own_v0_68 q1 q2 p4)), .unset, .unset, .unset] [(.int (own_v0_87 q1 q2 q3 p4))]))
  refine own_go (fun _ => XS.istore X8.here hx rfl (hb hby at_110) rfl (l' := #[.val (.long q1), .second, .val (.long q2), .second, .val (.long q3), .second, .val (.int p4), .val (.long (own_v0_4 q1 q2 p4)), .second, .val (.ref b6), .val (.int (own_f4 q1 (own_v0_4 q1 q2 p4))), .val (.int (own_v0_47 q1 q2 q3 p4)), .val (.int (own_v0_68 q1 q2 p4)), .val (.int (own_v0_87 q1 q2 q3 p4)), .unset, .unset]) rfl) ?_
  show own_Go p.tables e below _ (T8.setTop (mkF m 112 #[.val (.long q1), .second, .val (.long q2), .second, .val (.long q3), .second, .val (.int p4), .val (.long (own_v0_4 q1 q2 p4)), .second, .val (.ref b6), .val (.int (own_f4 q1 (own_v0_4 q1 q2 p4))), .val (.int (own_v0_47 q1 q2 q3 p4)), .val (.int (own_v0_68 q1 q2 p4)), .val (.int (own_v0_87 q1 q2 q3 p4)), .unset, .unset] []))
  obtain ⟨T16, X16, e16, st16⟩ := getS2 X8 hx hZ hown (host := "") (Or.inl (hw _ (List.mem_of_getElem? (i := 23) rfl))) Via.refl e8 (S_NupnPragmas_Interval_NONE.ext ((O0.ext E6).keep Kc7 (allS g_b6 all0)).2) (g := (mkF m 112 #[.val (.long q1), .second, .val (.long q2), .second, .val (.long q3), .second, .val (.int p4), .val (.long (own_v0_4 q1 q2 p4)), .second, .val (.ref b6), .val (.int (own_f4 q1 (own_v0_4 q1 q2 p4))), .val (.int (own_v0_47 q1 q2 q3 p4)), .val (.int (own_v0_68 q1 q2 p4)), .val (.int (own_v0_87 q1 q2 q3 p4)), .unset, .unset] [])) rfl (hb hby at_112)
  refine own_go st16 ?_
  show own_Go p.tables e below _ (T16.setTop (mkF m 115 #[.val (.long q1), .second, .val (.long q2), .second, .val (.long q3), .second, .val (.int p4), .val (.long (own_v0_4 q1 q2 p4)), .second, .val (.ref b6), .val (.int (own_f4 q1 (own_v0_4 q1 q2 p4))), .val (.int (own_v0_47 q1 q2 q3 p4)), .val (.int (own_v0_68 q1 q2 p4)), .val (.int (own_v0_87 q1 q2 q3 p4)), .unset, .unset] [(.ref s_NupnPragmas_Interval_NONE)]))
  obtain ⟨cq17, kq17, q17a, q17b, q17c⟩ := isOf hZ e16 ((E_s_NupnPragmas_Interval_NONE.ext E6).keep Kc7)
  obtain ⟨_, _, ⟨T17, L17, k17, n17⟩, -, X17, ⟨Lc17, hQ17, l17, y17, z17⟩, st17⟩ := X16.virtualBack hx (y := (⟨"com/example/leipzig/leipzig/formats/nupn/NupnPragmas$Interval", "isEmpty", "()Z"⟩ : MethodName)) (z := (⟨"com/example/leipzig/leipzig/formats/nupn/NupnPragmas$Interval", "isEmpty", "()Z"⟩ : MethodName)) hown (mvT hZ (hw _ (List.mem_of_getElem? (i := 18) rfl))) (mvT hZ (hw _ (List.mem_of_getElem? (i := 19) rfl))) (notFace_of_selects (args := #[]) (mvT hZ (hw _ (List.mem_of_getElem? (i := 21) rfl)))) (mvT hZ (hw _ (List.mem_of_getElem? (i := 21) rfl))) (mvT hZ (hw _ (List.mem_of_getElem? (i := 20) rfl))) (by decide) (backOf (W := 0) (rm4 l Z a0 hw [] s_NupnPragmas_Interval_NONE (1 : Int64) (0 : Int64) T7.heap n0 (Nat.le_trans (Nat.le_trans Z0 E6.1) Kc7.1) ((F_low_s_NupnPragmas_Interval_NONE.ext E6).keep Kc7 (ninS (Nat.ne_of_lt (Nat.lt_of_lt_of_le E_s_NupnPragmas_Interval_NONE.lt (Nat.le_of_eq g6.symm))) nin0)) ((F_high_s_NupnPragmas_Interval_NONE.ext E6).keep Kc7 (ninS (Nat.ne_of_lt (Nat.lt_of_lt_of_le E_s_NupnPragmas_Interval_NONE.lt (Nat.le_of_eq g6.symm))) nin0))) hZ (hw _ (List.mem_of_getElem? (i := 22) rfl)) (hw _ (List.mem_of_getElem? (i := 2) rfl)) (by decide) (by decide)) q17a q17c (g := (mkF m 115 #[.val (.long q1), .second, .val (.long q2), .second, .val (.long q3), .second, .val (.int p4), .val (.long (own_v0_4 q1 q2 p4)), .second, .val (.ref b6), .val (.int (own_f4 q1 (own_v0_4 q1 q2 p4))), .val (.int (own_v0_47 q1 q2 q3 p4)), .val (.int (own_v0_68 q1 q2 p4)), .val (.int (own_v0_87 q1 q2 q3 p4)), .unset, .unset] [(.ref s_NupnPragmas_Interval_NONE)])) rfl (by rw [hml]; rfl) (Steps.refl _) (argsL := []) (rest := []) (lenOf pd_2 rfl) rfl (by show 2 * 0 + _ ≤ _; exact Nat.le_of_eq rfl) (hb hby at_115) (fun _ _ => ⟨rfl, e16, (by decide : 1 + 0 ≤ _), (by decide : 2 + 0 ≤ _)⟩)
  dsimp only [Pt.U, Pt.locs, Pt.cells, Pt.slots] at X17 l17 y17 z17 st17 hQ17
  subst l17 y17 z17
  obtain ⟨rfl, N17q, e17⟩ := hQ17
  have N17 := Fr.app N8 N17q
  refine own_via st17 ?_
  show own_Go p.tables e below _ (T17.setTop (mkF m 118 #[.val (.long q1), .second, .val (.long q2), .second, .val (.long q3), .second, .val (.int p4), .val (.long (own_v0_4 q1 q2 p4)), .second, .val (.ref b6), .val (.int (own_f4 q1 (own_v0_4 q1 q2 p4))), .val (.int (own_v0_47 q1 q2 q3 p4)), .val (.int (own_v0_68 q1 q2 p4)), .val (.int (own_v0_87 q1 q2 q3 p4)), .unset, .unset] [(.int (own_f4 (1 : Int64) (0 : Int64)))]))
  refine own_go (fun _ => XS.istore X17.here hx rfl (hb hby at_118) rfl (l' := #[.val (.long q1), .second, .val (.long q2), .second, .val (.long q3), .second, .val (.int p4), .val (.long (own_v0_4 q1 q2 p4)), .second, .val (.ref b6), .val (.int (own_f4 q1 (own_v0_4 q1 q2 p4))), .val (.int (own_v0_47 q1 q2 q3 p4)), .val (.int (own_v0_68 q1 q2 p4)), .val (.int (own_v0_87 q1 q2 q3 p4)), .val (.int (own_f4 (1 : Int64) (0 : Int64))), .unset]) rfl) ?_
  show own_Go p.tables e below _ (T17.setTop (mkF m 120 #[.val (.long q1), .second, .val (.long q2), .second, .val (.long q3), .second, .val (.int p4), .val (.long (own_v0_4 q1 q2 p4)), .second, .val (.ref b6), .val (.int (own_f4 q1 (own_v0_4 q1 q2 p4))), .val (.int (own_v0_47 q1 q2 q3 p4)), .val (.int (own_v0_68 q1 q2 p4)), .val (.int (own_v0_87 q1 q2 q3 p4)), .val (.int (own_f4 (1 : Int64) (0 : Int64))), .unset] []))
  obtain ⟨T18, h18, X18, e18, E18, A18, D18, -, st18⟩ := newO X17 hx hZ hown (hw _ (List.mem_of_getElem? (i := 0) rfl)) (hw _ (List.mem_of_getElem? (i := 1) rfl)) (hw _ (List.mem_of_getElem? (i := 2) rfl)) e17 (g := (mkF m 120 #[.val (.long q1), .second, .val (.long q2), .second, .val (.long q3), .second, .val (.int p4), .val (.long (own_v0_4 q1 q2 p4)), .second, .val (.ref b6), .val (.int (own_f4 q1 (own_v0_4 q1 q2 p4))), .val (.int (own_v0_47 q1 q2 q3 p4)), .val (.int (own_v0_68 q1 q2 p4)), .val (.int (own_v0_87 q1 q2 q3 p4)), .val (.int (own_f4 (1 : Int64) (0 : Int64))), .unset] [])) rfl (hb hby at_120) (by decide) (by decide)
  obtain ⟨b18, g18⟩ : ∃ z, z = T7.heap.size := ⟨_, rfl⟩
  rw [← g18] at A18 D18 st18
  refine own_go st18 ?_
  have g_b18 : n0 ≤ b18 := Nat.le_trans (Nat.le_trans (Nat.le_trans Z0 E6.1) Kc7.1) (Nat.le_of_eq g18.symm)
  have sz_b18 : h0.size ≤ b18 := (Nat.le_trans K7.1 (Nat.le_of_eq g18.symm))
  have K18 : Keep h0 h18 [] := K7.ext E18
  have F_low_b18 : Fld Z h18 b18 "com/example/leipzig/leipzig/formats/nupn/NupnPragmas$Interval" "low" "J" (.long (0 : Int64)) := D18 (Or.inr (hw _ (List.mem_of_getElem? (i := 15) rfl))) (ty := .long) (by decide)
  have F_high_b18 : Fld Z h18 b18 "com/example/leipzig/leipzig/formats/nupn/NupnPragmas$Interval" "high" "J" (.long (0 : Int64)) := D18 (Or.inr (hw _ (List.mem_of_getElem? (i := 17) rfl))) (ty := .long) (by decide)
  show own_Go p.tables e below _ (T18.setTop (mkF m 123 #[.val (.long q1), .second, .val (.long q2), .second, .val (.long q3), .second, .val (.int p4), .val (.long (own_v0_4 q1 q2 p4)), .second, .val (.ref b6), .val (.int (own_f4 q1 (own_v0_4 q1 q2 p4))), .val (.int (own_v0_47 q1 q2 q3 p4)), .val (.int (own_v0_68 q1 q2 p4)), .val (.int (own_v0_87 q1 q2 q3 p4)), .val (.int (own_f4 (1 : Int64) (0 : Int64))), .unset] [(.ref b18)]))
  refine own_go (fun _ => XS.dup X18.here hx rfl (hb hby at_123) rfl rfl) ?_
  show own_Go p.tables e below _ (T18.setTop (mkF m 124 #[.val (.long q1), .second, .val (.long q2), .second, .val (.long q3), .second, .val (.int p4), .val (.long (own_v0_4 q1 q2 p4)), .second, .val (.ref b6), .val (.int (own_f4 q1 (own_v0_4 q1 q2 p4))), .val (.int (own_v0_47 q1 q2 q3 p4)), .val (.int (own_v0_68 q1 q2 p4)), .val (.int (own_v0_87 q1 q2 q3 p4)), .val (.int (own_f4 (1 : Int64) (0 : Int64))), .unset] [(.ref b18), (.ref b18)]))
  refine own_go (fun _ => XS.lload X18.here hx rfl (hb hby at_124) rfl) ?_
  show own_Go p.tables e below _ (T18.setTop (mkF m 126 #[.val (.long q1), .second, .val (.long q2), .second, .val (.long q3), .second, .val (.int p4), .val (.long (own_v0_4 q1 q2 p4)), .second, .val (.ref b6), .val (.int (own_f4 q1 (own_v0_4 q1 q2 p4))), .val (.int (own_v0_47 q1 q2 q3 p4)), .val (.int (own_v0_68 q1 q2 p4)), .val (.int (own_v0_87 q1 q2 q3 p4)), .val (.int (own_f4 (1 : Int64) (0 : Int64))), .unset] [(.long q3), (.ref b18), (.ref b18)]))
  refine own_go (fun _ => XS.lload X18.here hx rfl (hb hby at_126) rfl) ?_
  show own_Go p.tables e below _ (T18.setTop (mkF m 128 #[.val (.long q1), .second, .val (.long q2), .second, .val (.long q3), .second, .val (.int p4), .val (.long (own_v0_4 q1 q2 p4)), .second, .val (.ref b6), .val (.int (own_f4 q1 (own_v0_4 q1 q2 p4))), .val (.int (own_v0_47 q1 q2 q3 p4)), .val (.int (own_v0_68 q1 q2 p4)), .val (.int (own_v0_87 q1 q2 q3 p4)), .val (.int (own_f4 (1 : Int64) (0 : Int64))), .unset] [(.long q3), (.long q3), (.ref b18), (.ref b18)]))
  obtain ⟨_, _, ⟨T19, L19, k19, n19⟩, -, X19, ⟨Lc19, hQ19, l19, y19, z19⟩, st19⟩ := X18.specialBack hx (y := (⟨"com/example/leipzig/leipzig/formats/nupn/NupnPragmas$Interval", "<init>", "(JJ)V"⟩ : MethodName)) rfl hown (mvT hZ (hw _ (List.mem_of_getElem? (i := 3) rfl))) (mvT hZ (hw _ (List.mem_of_getElem? (i := 4) rfl))) (mvT hZ (hw _ (List.mem_of_getElem? (i := 5) rfl))) (by decide) (backOf (W := 1) (rm1 l Z a0 hw [] b18 q3 q3 (.long (0 : Int64)) (.long (0 : Int64)) h18 n0 (Nat.le_trans (Nat.le_trans (Nat.le_trans Z0 E6.1) Kc7.1) E18.1) A18 F_low_b18 g_b18 F_high_b18) hZ (hw _ (List.mem_of_getElem? (i := 5) rfl)) (hw _ (List.mem_of_getElem? (i := 2) rfl)) (by decide) (by decide)) (g := (mkF m 128 #[.val (.long q1), .second, .val (.long q2), .second, .val (.long q3), .second, .val (.int p4), .val (.long (own_v0_4 q1 q2 p4)), .second, .val (.ref b6), .val (.int (own_f4 q1 (own_v0_4 q1 q2 p4))), .val (.int (own_v0_47 q1 q2 q3 p4)), .val (.int (own_v0_68 q1 q2 p4)), .val (.int (own_v0_87 q1 q2 q3 p4)), .val (.int (own_f4 (1 : Int64) (0 : Int64))), .unset] [(.long q3), (.long q3), (.ref b18), (.ref b18)])) rfl (by rw [hml]; rfl) (Steps.refl _) (a := b18) (argsL := [(.long q3), (.long q3)]) (rest := [(.ref b18)]) (lenOf pd_0 rfl) rfl (by show 2 * 0 + _ ≤ _; exact Nat.le_of_eq rfl) (hb hby at_128) (fun _ _ => ⟨rfl, e18, (by decide : 2 + 0 ≤ _), (by decide : 4 + 0 ≤ _)⟩)
  dsimp only [Pt.U, Pt.locs, Pt.cells, Pt.slots] at X19 l19 y19 z19 st19 hQ19
  subst l19 y19 z19
  obtain ⟨rfl, N19q, Kc19, F19_0, F19_1, F19_2⟩ := hQ19
  have N19 := Fr.app N17 N19q
  refine own_via st19 ?_
  have K19 : Keep h0 T19.heap [] := K18.trans Kc19 (allS (Or.inr sz_b18) all0)
  show own_Go p.tables e below _ (T19.setTop (mkF m 131 #[.val (.long q1), .second, .val (.long q2), .second, .val (.long q3), .second, .val (.int p4), .val (.long (own_v0_4 q1 q2 p4)), .second, .val (.ref b6), .val (.int (own_f4 q1 (own_v0_4 q1 q2 p4))), .val (.int (own_v0_47 q1 q2 q3 p4)), .val (.int (own_v0_68 q1 q2 p4)), .val (.int (own_v0_87 q1 q2 q3 p4)), .val (.int (own_f4 (1 : Int64) (0 : Int64))), .unset] [(.ref b18)]))
  obtain ⟨cq20, kq20, q20a, q20b, q20c⟩ := isOf hZ rfl F19_0
  obtain ⟨_, _, ⟨T20, L20, k20, n20⟩, -, X20, ⟨Lc20, hQ20, l20, y20, z20⟩, st20⟩ := X19.virtualBack hx (y := (⟨"com/example/leipzig/leipzig/formats/nupn/NupnPragmas$Interval", "isEmpty", "()Z"⟩ : MethodName)) (z := (⟨"com/example/leipzig/leipzig/formats/nupn/NupnPragmas$Interval", "isEmpty", "()Z"⟩ : MethodName)) hown (mvT hZ (hw _ (List.mem_of_getElem? (i := 18) rfl))) (mvT hZ (hw _ (List.mem_of_getElem? (i := 19) rfl))) (notFace_of_selects (args := #[]) (mvT hZ (hw _ (List.mem_of_getElem? (i := 21) rfl)))) (mvT hZ (hw _ (List.mem_of_getElem? (i := 21) rfl))) (mvT hZ (hw _ (List.mem_of_getElem? (i := 20) rfl))) (by decide) (backOf (W := 0) (rm4 l Z a0 hw [] b18 q3 q3 T19.heap n0 (Nat.le_trans (Nat.le_trans (Nat.le_trans (Nat.le_trans Z0 E6.1) Kc7.1) E18.1) Kc19.1) F19_1 F19_2) hZ (hw _ (List.mem_of_getElem? (i := 22) rfl)) (hw _ (List.mem_of_getElem? (i := 2) rfl)) (by decide) (by decide)) q20a q20c (g := (mkF m 131 #[.val (.long q1), .second, .val (.long q2), .second, .val (.long q3), .second, .val (.int p4), .val (.long (own_v0_4 q1 q2 p4)), .second, .val (.ref b6), .val (.int (own_f4 q1 (own_v0_4 q1 q2 p4))), .val (.int (own_v0_47 q1 q2 q3 p4)), .val (.int (own_v0_68 q1 q2 p4)), .val (.int (own_v0_87 q1 q2 q3 p4)), .val (.int (own_f4 (1 : Int64) (0 : Int64))), .unset] [(.ref b18)])) rfl (by rw [hml]; rfl) (Steps.refl _) (argsL := []) (rest := []) (lenOf pd_2 rfl) rfl (by show 2 * 0 + _ ≤ _; exact Nat.le_of_eq rfl) (hb hby at_131) (fun _ _ => ⟨rfl, rfl, (by decide : 2 + 0 ≤ _), (by decide : 4 + 0 ≤ _)⟩)
  dsimp only [Pt.U, Pt.locs, Pt.cells, Pt.slots] at X20 l20 y20 z20 st20 hQ20
  subst l20 y20 z20
  obtain ⟨rfl, N20q, e20⟩ := hQ20
  have N20 := Fr.app N19 N20q
  refine own_via st20 ?_
  refine own_go (S' := T20.setTop (mkF m 142 #[.val (.long q1), .second, .val (.long q2), .second, .val (.long q3), .second, .val (.int p4), .val (.long (own_v0_4 q1 q2 p4)), .second, .val (.ref b6), .val (.int (own_f4 q1 (own_v0_4 q1 q2 p4))), .val (.int (own_v0_47 q1 q2 q3 p4)), .val (.int (own_v0_68 q1 q2 p4)), .val (.int (own_v0_87 q1 q2 q3 p4)), .val (.int (own_f4 (1 : Int64) (0 : Int64))), .unset] [(.int (own_v0_134 q3))])) (fun t kt => ?_) ?_
  · skip
    show Steps p.tables e below (T20.setTop (mkF m 134 #[.val (.long q1), .second, .val (.long q2), .second, .val (.long q3), .second, .val (.int p4), .val (.long (own_v0_4 q1 q2 p4)), .second, .val (.ref b6), .val (.int (own_f4 q1 (own_v0_4 q1 q2 p4))), .val (.int (own_v0_47 q1 q2 q3 p4)), .val (.int (own_v0_68 q1 q2 p4)), .val (.int (own_v0_87 q1 q2 q3 p4)), .val (.int (own_f4 (1 : Int64) (0 : Int64))), .unset] [(.int (own_f4 q3 q3))])) _
    by_cases hc21_134 : (own_f4 q3 q3) = (0 : Int32)
    · skip
      refine XS.ifNo X20.here hx rfl (hb hby at_134) rfl ((if0 _ _).trans (teq hc21_134).2) ?_
      show Steps p.tables e below (T20.setTop (mkF m 137 #[.val (.long q1), .second, .val (.long q2), .second, .val (.long q3), .second, .val (.int p4), .val (.long (own_v0_4 q1 q2 p4)), .second, .val (.ref b6), .val (.int (own_f4 q1 (own_v0_4 q1 q2 p4))), .val (.int (own_v0_47 q1 q2 q3 p4)), .val (.int (own_v0_68 q1 q2 p4)), .val (.int (own_v0_87 q1 q2 q3 p4)), .val (.int (own_f4 (1 : Int64) (0 : Int64))), .unset] [])) _
      refine XS.iconst X20.here hx rfl (hb hby at_137) ?_
      show Steps p.tables e below (T20.setTop (mkF m 138 #[.val (.long q1), .second, .val (.long q2), .second, .val (.long q3), .second, .val (.int p4), .val (.long (own_v0_4 q1 q2 p4)), .second, .val (.ref b6), .val (.int (own_f4 q1 (own_v0_4 q1 q2 p4))), .val (.int (own_v0_47 q1 q2 q3 p4)), .val (.int (own_v0_68 q1 q2 p4)), .val (.int (own_v0_87 q1 q2 q3 p4)), .val (.int (own_f4 (1 : Int64) (0 : Int64))), .unset] [(.int (1 : Int32))])) _
      refine XS.goto X20.here hx rfl (pc0 := 138) (pc' := 142) rfl (hb hby at_138) (by decide) (by decide) ?_
      show Steps p.tables e below (T20.setTop (mkF m 142 #[.val (.long q1), .second, .val (.long q2), .second, .val (.long q3), .second, .val (.int p4), .val (.long (own_v0_4 q1 q2 p4)), .second, .val (.ref b6), .val (.int (own_f4 q1 (own_v0_4 q1 q2 p4))), .val (.int (own_v0_47 q1 q2 q3 p4)), .val (.int (own_v0_68 q1 q2 p4)), .val (.int (own_v0_87 q1 q2 q3 p4)), .val (.int (own_f4 (1 : Int64) (0 : Int64))), .unset] [(.int (1 : Int32))])) _
      rw [show (own_v0_134 q3) = (1 : Int32) from ((if_pos hc21_134).trans rfl)] at kt
      exact kt
    · skip
      refine XS.ifYes X20.here hx rfl (pc0 := 134) (pc' := 141) rfl (hb hby at_134) rfl ((if0 _ _).trans (feq hc21_134).2) (by decide) (by decide) ?_
      show Steps p.tables e below (T20.setTop (mkF m 141 #[.val (.long q1), .second, .val (.long q2), .second, .val (.long q3), .second, .val (.int p4), .val (.long (own_v0_4 q1 q2 p4)), .second, .val (.ref b6), .val (.int (own_f4 q1 (own_v0_4 q1 q2 p4))), .val (.int (own_v0_47 q1 q2 q3 p4)), .val (.int (own_v0_68 q1 q2 p4)), .val (.int (own_v0_87 q1 q2 q3 p4)), .val (.int (own_f4 (1 : Int64) (0 : Int64))), .unset] [])) _
      refine XS.iconst X20.here hx rfl (hb hby at_141) ?_
      show Steps p.tables e below (T20.setTop (mkF m 142 #[.val (.long q1), .second, .val (.long q2), .second, .val (.long q3), .second, .val (.int p4), .val (.long (own_v0_4 q1 q2 p4)), .second, .val (.ref b6), .val (.int (own_f4 q1 (own_v0_4 q1 q2 p4))), .val (.int (own_v0_47 q1 q2 q3 p4)), .val (.int (own_v0_68 q1 q2 p4)), .val (.int (own_v0_87 q1 q2 q3 p4)), .val (.int (own_f4 (1 : Int64) (0 : Int64))), .unset] [(.int (0 : Int32))])) _
      rw [show (own_v0_134 q3) = (0 : Int32) from ((if_neg hc21_134).trans rfl)] at kt
      exact kt
  show own_Go p.tables e below _ (T20.setTop (mkF m 142 #[.val (.long q1), .second, .val (.long q2), .second, .val (.long q3), .second, .val (.int p4), .val (.long (own_v0_4 q1 q2 p4)), .second, .val (.ref b6), .val (.int (own_f4 q1 (own_v0_4 q1 q2 p4))), .val (.int (own_v0_47 q1 q2 q3 p4)), .val (.int (own_v0_68 q1 q2 p4)), .val (.int (own_v0_87 q1 q2 q3 p4)), .val (.int (own_f4 (1 : Int64) (0 : Int64))), .unset] [(.int (own_v0_134 q3))]))
  refine own_go (fun _ => XS.istore X20.here hx rfl (hb hby at_142) rfl (l' := #[.val (.long q1), .second, .val (.long q2), .second, .val (.long q3), .second, .val (.int p4), .val (.long (own_v0_4 q1 q2 p4)), .second, .val (.ref b6), .val (.int (own_f4 q1 (own_v0_4 q1 q2 p4))), .val (.int (own_v0_47 q1 q2 q3 p4)), .val (.int (own_v0_68 q1 q2 p4)), .val (.int (own_v0_87 q1 q2 q3 p4)), .val (.int (own_f4 (1 : Int64) (0 : Int64))), .val (.int (own_v0_134 q3))]) rfl) ?_
  show own_Go p.tables e below _ (T20.setTop (mkF m 144 #[.val (.long q1), .second, .val (.long q2), .second, .val (.long q3), .second, .val (.int p4), .val (.long (own_v0_4 q1 q2 p4)), .second, .val (.ref b6), .val (.int (own_f4 q1 (own_v0_4 q1 q2 p4))), .val (.int (own_v0_47 q1 q2 q3 p4)), .val (.int (own_v0_68 q1 q2 p4)), .val (.int (own_v0_87 q1 q2 q3 p4)), .val (.int (own_f4 (1 : Int64) (0 : Int64))), .val (.int (own_v0_134 q3))] []))
  refine own_go (fun _ => XS.iload X20.here hx rfl (hb hby at_144) rfl) ?_
  show own_Go p.tables e below _ (T20.setTop (mkF m 146 #[.val (.long q1), .second, .val (.long q2), .second, .val (.long q3), .second, .val (.int p4), .val (.long (own_v0_4 q1 q2 p4)), .second, .val (.ref b6), .val (.int (own_f4 q1 (own_v0_4 q1 q2 p4))), .val (.int (own_v0_47 q1 q2 q3 p4)), .val (.int (own_v0_68 q1 q2 p4)), .val (.int (own_v0_87 q1 q2 q3 p4)), .val (.int (own_f4 (1 : Int64) (0 : Int64))), .val (.int (own_v0_134 q3))] [(.int (own_v0_87 q1 q2 q3 p4))]))
  by_cases hc22_146 : (own_v0_87 q1 q2 q3 p4) = (0 : Int32)
  · skip
    refine own_go (fun _ => XS.ifYes X20.here hx rfl (pc0 := 146) (pc' := 163) rfl (hb hby at_146) rfl ((if0 _ _).trans (teq hc22_146).1) (by decide) (by decide)) ?_
    show own_Go p.tables e below _ (T20.setTop (mkF m 163 #[.val (.long q1), .second, .val (.long q2), .second, .val (.long q3), .second, .val (.int p4), .val (.long (own_v0_4 q1 q2 p4)), .second, .val (.ref b6), .val (.int (own_f4 q1 (own_v0_4 q1 q2 p4))), .val (.int (own_v0_47 q1 q2 q3 p4)), .val (.int (own_v0_68 q1 q2 p4)), .val (.int (own_v0_87 q1 q2 q3 p4)), .val (.int (own_f4 (1 : Int64) (0 : Int64))), .val (.int (own_v0_134 q3))] []))
    refine own_go (fun _ => XS.iconst X20.here hx rfl (hb hby at_163)) ?_
    show own_Go p.tables e below _ (T20.setTop (mkF m 164 #[.val (.long q1), .second, .val (.long q2), .second, .val (.long q3), .second, .val (.int p4), .val (.long (own_v0_4 q1 q2 p4)), .second, .val (.ref b6), .val (.int (own_f4 q1 (own_v0_4 q1 q2 p4))), .val (.int (own_v0_47 q1 q2 q3 p4)), .val (.int (own_v0_68 q1 q2 p4)), .val (.int (own_v0_87 q1 q2 q3 p4)), .val (.int (own_f4 (1 : Int64) (0 : Int64))), .val (.int (own_v0_134 q3))] [(.int (0 : Int32))]))
    refine own_retN X20 Bd.notSynchronized hx (t := .boolean) Bd.returns (by simp) (hb hby at_164) (show Q0 Z q1 q2 q3 p4 s_NupnPragmas_Interval_NONE h0 n0 _ T20.heap _ from by rw [e20]; exact ⟨(own_val ((if_pos hc22_146).trans rfl)), N20⟩) (by decide) (by decide)
  · skip
    refine own_go (fun _ => XS.ifNo X20.here hx rfl (hb hby at_146) rfl ((if0 _ _).trans (feq hc22_146).1)) ?_
    show own_Go p.tables e below _ (T20.setTop (mkF m 149 #[.val (.long q1), .second, .val (.long q2), .second, .val (.long q3), .second, .val (.int p4), .val (.long (own_v0_4 q1 q2 p4)), .second, .val (.ref b6), .val (.int (own_f4 q1 (own_v0_4 q1 q2 p4))), .val (.int (own_v0_47 q1 q2 q3 p4)), .val (.int (own_v0_68 q1 q2 p4)), .val (.int (own_v0_87 q1 q2 q3 p4)), .val (.int (own_f4 (1 : Int64) (0 : Int64))), .val (.int (own_v0_134 q3))] []))
    refine own_go (fun _ => XS.iload X20.here hx rfl (hb hby at_149) rfl) ?_
    show own_Go p.tables e below _ (T20.setTop (mkF m 151 #[.val (.long q1), .second, .val (.long q2), .second, .val (.long q3), .second, .val (.int p4), .val (.long (own_v0_4 q1 q2 p4)), .second, .val (.ref b6), .val (.int (own_f4 q1 (own_v0_4 q1 q2 p4))), .val (.int (own_v0_47 q1 q2 q3 p4)), .val (.int (own_v0_68 q1 q2 p4)), .val (.int (own_v0_87 q1 q2 q3 p4)), .val (.int (own_f4 (1 : Int64) (0 : Int64))), .val (.int (own_v0_134 q3))] [(.int (own_f4 (1 : Int64) (0 : Int64)))]))
    by_cases hc23_151 : (own_f4 (1 : Int64) (0 : Int64)) = (0 : Int32)
    · skip
      refine own_go (fun _ => XS.ifYes X20.here hx rfl (pc0 := 151) (pc' := 163) rfl (hb hby at_151) rfl ((if0 _ _).trans (teq hc23_151).1) (by decide) (by decide)) ?_
      show own_Go p.tables e below _ (T20.setTop (mkF m 163 #[.val (.long q1), .second, .val (.long q2), .second, .val (.long q3), .second, .val (.int p4), .val (.long (own_v0_4 q1 q2 p4)), .second, .val (.ref b6), .val (.int (own_f4 q1 (own_v0_4 q1 q2 p4))), .val (.int (own_v0_47 q1 q2 q3 p4)), .val (.int (own_v0_68 q1 q2 p4)), .val (.int (own_v0_87 q1 q2 q3 p4)), .val (.int (own_f4 (1 : Int64) (0 : Int64))), .val (.int (own_v0_134 q3))] []))
      refine own_go (fun _ => XS.iconst X20.here hx rfl (hb hby at_163)) ?_
      show own_Go p.tables e below _ (T20.setTop (mkF m 164 #[.val (.long q1), .second, .val (.long q2), .second, .val (.long q3), .second, .val (.int p4), .val (.long (own_v0_4 q1 q2 p4)), .second, .val (.ref b6), .val (.int (own_f4 q1 (own_v0_4 q1 q2 p4))), .val (.int (own_v0_47 q1 q2 q3 p4)), .val (.int (own_v0_68 q1 q2 p4)), .val (.int (own_v0_87 q1 q2 q3 p4)), .val (.int (own_f4 (1 : Int64) (0 : Int64))), .val (.int (own_v0_134 q3))] [(.int (0 : Int32))]))
      refine own_retN X20 Bd.notSynchronized hx (t := .boolean) Bd.returns (by simp) (hb hby at_164) (show Q0 Z q1 q2 q3 p4 s_NupnPragmas_Interval_NONE h0 n0 _ T20.heap _ from by rw [e20]; exact ⟨(own_val ((if_neg hc22_146).trans ((if_pos hc23_151).trans rfl))), N20⟩) (by decide) (by decide)
    · skip
      refine own_go (fun _ => XS.ifNo X20.here hx rfl (hb hby at_151) rfl ((if0 _ _).trans (feq hc23_151).1)) ?_
      show own_Go p.tables e below _ (T20.setTop (mkF m 154 #[.val (.long q1), .second, .val (.long q2), .second, .val (.long q3), .second, .val (.int p4), .val (.long (own_v0_4 q1 q2 p4)), .second, .val (.ref b6), .val (.int (own_f4 q1 (own_v0_4 q1 q2 p4))), .val (.int (own_v0_47 q1 q2 q3 p4)), .val (.int (own_v0_68 q1 q2 p4)), .val (.int (own_v0_87 q1 q2 q3 p4)), .val (.int (own_f4 (1 : Int64) (0 : Int64))), .val (.int (own_v0_134 q3))] []))
      refine own_go (fun _ => XS.iload X20.here hx rfl (hb hby at_154) rfl) ?_
      show own_Go p.tables e below _ (T20.setTop (mkF m 156 #[.val (.long q1), .second, .val (.long q2), .second, .val (.long q3), .second, .val (.int p4), .val (.long (own_v0_4 q1 q2 p4)), .second, .val (.ref b6), .val (.int (own_f4 q1 (own_v0_4 q1 q2 p4))), .val (.int (own_v0_47 q1 q2 q3 p4)), .val (.int (own_v0_68 q1 q2 p4)), .val (.int (own_v0_87 q1 q2 q3 p4)), .val (.int (own_f4 (1 : Int64) (0 : Int64))), .val (.int (own_v0_134 q3))] [(.int (own_v0_134 q3))]))
      by_cases hc24_156 : (own_v0_134 q3) = (0 : Int32)
      · skip
        refine own_go (fun _ => XS.ifYes X20.here hx rfl (pc0 := 156) (pc' := 163) rfl (hb hby at_156) rfl ((if0 _ _).trans (teq hc24_156).1) (by decide) (by decide)) ?_
        show own_Go p.tables e below _ (T20.setTop (mkF m 163 #[.val (.long q1), .second, .val (.long q2), .second, .val (.long q3), .second, .val (.int p4), .val (.long (own_v0_4 q1 q2 p4)), .second, .val (.ref b6), .val (.int (own_f4 q1 (own_v0_4 q1 q2 p4))), .val (.int (own_v0_47 q1 q2 q3 p4)), .val (.int (own_v0_68 q1 q2 p4)), .val (.int (own_v0_87 q1 q2 q3 p4)), .val (.int (own_f4 (1 : Int64) (0 : Int64))), .val (.int (own_v0_134 q3))] []))
        refine own_go (fun _ => XS.iconst X20.here hx rfl (hb hby at_163)) ?_
        show own_Go p.tables e below _ (T20.setTop (mkF m 164 #[.val (.long q1), .second, .val (.long q2), .second, .val (.long q3), .second, .val (.int p4), .val (.long (own_v0_4 q1 q2 p4)), .second, .val (.ref b6), .val (.int (own_f4 q1 (own_v0_4 q1 q2 p4))), .val (.int (own_v0_47 q1 q2 q3 p4)), .val (.int (own_v0_68 q1 q2 p4)), .val (.int (own_v0_87 q1 q2 q3 p4)), .val (.int (own_f4 (1 : Int64) (0 : Int64))), .val (.int (own_v0_134 q3))] [(.int (0 : Int32))]))
        refine own_retN X20 Bd.notSynchronized hx (t := .boolean) Bd.returns (by simp) (hb hby at_164) (show Q0 Z q1 q2 q3 p4 s_NupnPragmas_Interval_NONE h0 n0 _ T20.heap _ from by rw [e20]; exact ⟨(own_val ((if_neg hc22_146).trans ((if_neg hc23_151).trans ((if_pos hc24_156).trans rfl)))), N20⟩) (by decide) (by decide)
      · skip
        refine own_go (fun _ => XS.ifNo X20.here hx rfl (hb hby at_156) rfl ((if0 _ _).trans (feq hc24_156).1)) ?_
        show own_Go p.tables e below _ (T20.setTop (mkF m 159 #[.val (.long q1), .second, .val (.long q2), .second, .val (.long q3), .second, .val (.int p4), .val (.long (own_v0_4 q1 q2 p4)), .second, .val (.ref b6), .val (.int (own_f4 q1 (own_v0_4 q1 q2 p4))), .val (.int (own_v0_47 q1 q2 q3 p4)), .val (.int (own_v0_68 q1 q2 p4)), .val (.int (own_v0_87 q1 q2 q3 p4)), .val (.int (own_f4 (1 : Int64) (0 : Int64))), .val (.int (own_v0_134 q3))] []))
        refine own_go (fun _ => XS.iconst X20.here hx rfl (hb hby at_159)) ?_
        show own_Go p.tables e below _ (T20.setTop (mkF m 160 #[.val (.long q1), .second, .val (.long q2), .second, .val (.long q3), .second, .val (.int p4), .val (.long (own_v0_4 q1 q2 p4)), .second, .val (.ref b6), .val (.int (own_f4 q1 (own_v0_4 q1 q2 p4))), .val (.int (own_v0_47 q1 q2 q3 p4)), .val (.int (own_v0_68 q1 q2 p4)), .val (.int (own_v0_87 q1 q2 q3 p4)), .val (.int (own_f4 (1 : Int64) (0 : Int64))), .val (.int (own_v0_134 q3))] [(.int (1 : Int32))]))
        refine own_go (fun _ => XS.goto X20.here hx rfl (pc0 := 160) (pc' := 164) rfl (hb hby at_160) (by decide) (by decide)) ?_
        show own_Go p.tables e below _ (T20.setTop (mkF m 164 #[.val (.long q1), .second, .val (.long q2), .second, .val (.long q3), .second, .val (.int p4), .val (.long (own_v0_4 q1 q2 p4)), .second, .val (.ref b6), .val (.int (own_f4 q1 (own_v0_4 q1 q2 p4))), .val (.int (own_v0_47 q1 q2 q3 p4)), .val (.int (own_v0_68 q1 q2 p4)), .val (.int (own_v0_87 q1 q2 q3 p4)), .val (.int (own_f4 (1 : Int64) (0 : Int64))), .val (.int (own_v0_134 q3))] [(.int (1 : Int32))]))
        refine own_retN X20 Bd.notSynchronized hx (t := .boolean) Bd.returns (by simp) (hb hby at_164) (show Q0 Z q1 q2 q3 p4 s_NupnPragmas_Interval_NONE h0 n0 _ T20.heap _ from by rw [e20]; exact ⟨(own_val ((if_neg hc22_146).trans ((if_neg hc23_151).trans ((if_neg hc24_156).trans rfl)))), N20⟩) (by decide) (by decide)
theorem own_eqL {args : Array Value} {first s : State} {o : Option Outcome} {idx : List Nat} {a : Term} {k : Int64} (h : (Jvm.Cond.eq a (.long k)).value args first o s idx = some true) : a.eval args first o idx s = some (.long k) := by
  cases ha : a.eval args first o idx s with
  | none => simp [Cond.value, ha] at h
  | some x => cases x <;> simp [Cond.value, ha, Term.eval] at h ⊢ <;> exact h
theorem own_eqI {args : Array Value} {first s : State} {o : Option Outcome} {idx : List Nat} {a : Term} {k : Int32} (h : (Jvm.Cond.eq a (.int k)).value args first o s idx = some true) : a.eval args first o idx s = some (.int k) := by
  cases ha : a.eval args first o idx s with
  | none => simp [Cond.value, ha] at h
  | some x => cases x <;> simp [Cond.value, ha, Term.eval] at h ⊢ <;> exact h
theorem own_law (q1 q2 q3 : Int64) (p4 : Int32) : own_f0 q1 q2 q3 p4 = 1 := by
  unfold own_f0 own_v0_87 own_v0_134 own_v0_68 own_v0_47
  generalize own_v0_4 q1 q2 p4 = hi
  have e0 : own_f4 1 0 = 1 := by decide
  have e1 : own_f4 q3 q3 = 0 := by unfold own_f4; rw [if_neg (fun h => Int64.lt_irrefl ((lw_gt _ _).mp h))]
  rw [e0, e1]
  unfold own_f4
  simp only [lw_gt]
  have e2 : ¬ q1 < q1 := Int64.lt_irrefl
  by_cases h1 : hi < q1
  · have h2 : ¬ q3 < q1 → hi < q3 := fun h => by rw [Int64.lt_iff_toInt_lt] at *; omega
    by_cases h3 : q3 < q1
    · simp [h1, h3]
    · simp [h1, h2 h3, h3]
  · simp [h1]
set_option maxRecDepth 65536 in
set_option maxHeartbeats 40000000 in
theorem comes_1 {Post : Tables → Env → Array Value → State → Outcome → State → Prop} (hpost : ∀ tb e args s v u, (limb_1_1.after args s (.returned v) u = true ∧ limb_1_2.after args s (.returned v) u = true ∧ True) → FrameEnd s (.returned v) u (Jvm.fieldLocs frame_1_writes args s ++ Jvm.arrayLocs frame_1_arrays args s ++ Jvm.staticLocs frame_1_statics s) 16 128 → Post tb e args s (.returned v) u) :
    ArmFor flags0 classFile x code maxLocals ret World_1 tables_1 room_1 Calls_1 rest_1 Pre_1 Post := by
  intro l hfl _ _ p e ha hc hk s m args below hf hA hF happ hP
  obtain ⟨hcalls, hrest, hpre⟩ := hP
  obtain ⟨-, -, -, hnamed, -, -, -, hat⟩ := (Spec.applies_iff hf).mp happ
  obtain ⟨hg, hn⟩ := and_e (Cond.before_iff.mp (show (Jvm.Cond.and given_1 narrow_1).before args s = true from hpre))
  obtain ⟨g1, g2⟩ := and_e hg
  obtain ⟨g3, g4⟩ := and_e g2
  obtain ⟨g5, g6⟩ := and_e g4
  obtain ⟨g7, g8⟩ := and_e g6
  obtain ⟨w0, w1, w2, w3, rfl⟩ : ∃ w0 w1 w2 w3 : Value, args = #[w0, w1, w2, w3] := by
    have hs : args.size = 4 := by simpa [Cond.value, given_1] using g1
    obtain ⟨L⟩ := args
    match L, hs with
    | [w0, w1, w2, w3], _ => exact ⟨w0, w1, w2, w3, rfl⟩
  have hw := fun d (hd : d ∈ tables_1) => atoms_spec (ws := Jvm.Cond.code x code maxLocals ret :: tables_1) hat d (List.mem_cons_of_mem _ hd)
  have hfit : Fit s := fun {y c} hc i hi => by
    obtain ⟨ha, rfl⟩ := Array.getElem?_eq_some_iff.mp hc
    have q := List.all_eq_true.mp ((Array.all_eq_true_iff_forall_mem.mp hF) _ (Array.getElem_mem ha)) i (List.mem_range.mpr hi)
    simpa [Array.getElem?_eq_getElem hi] using q
  obtain ⟨i0, ei0⟩ := isL_v g3
  obtain rfl : w0 = (.long i0) := Option.some.inj ei0
  obtain ⟨i1, ei1⟩ := isL_v g5
  obtain rfl : w1 = (.long i1) := Option.some.inj ei1
  obtain ⟨i2, ei2⟩ := isL_v g7
  obtain rfl : w2 = (.long i2) := Option.some.inj ei2
  obtain ⟨i3, ei3⟩ := is_v g8
  obtain rfl : w3 = (.int i3) := Option.some.inj ei3
  obtain ⟨n1, n2⟩ := and_e hn
  obtain ⟨n3, n4⟩ := and_e n2
  obtain ⟨aN, eN⟩ := exa_v n1
  have SN : Sta s s.heap "com/example/leipzig/leipzig/formats/nupn/NupnPragmas$Interval" "NONE" "Lcom/example/leipzig/leipzig/formats/nupn/NupnPragmas$Interval;" (.ref aN) := Sta.start eN (Or.inr ⟨(hw _ (List.mem_of_getElem? (i := 2) rfl)), (hw _ (List.mem_of_getElem? (i := 24) rfl))⟩)
  have EN := Exa.start eN n1
  have F1 : Fld s s.heap aN "com/example/leipzig/leipzig/formats/nupn/NupnPragmas$Interval" "low" "J" (.long 1) := Fld.start ((fld_at eN).symm.trans (own_eqL n3))
  have F2 : Fld s s.heap aN "com/example/leipzig/leipzig/formats/nupn/NupnPragmas$Interval" "high" "J" (.long 0) := Fld.start ((fld_at eN).symm.trans (own_eqL n4))
  obtain ⟨n, o, h1, h2, h3, _, L, rfl, ⟨rfl, N⟩, hq⟩ := rm0 l s _ hw tables_1 i0 i1 i2 i3 aN s.heap s.heap.size (Nat.le_refl _) SN EN F1 F2 (Old.start s) p e ha hc hk s m _ below hf ((Spec.applies_iff_loose hf).mp happ).1 ⟨rfl, State.Warmed39.refl s, rfl⟩ trivial
  refine ⟨n, _, h1, h2, h3, hpost _ _ _ _ _ _ ⟨Cond.after_iff.mpr rfl, Cond.after_iff.mpr (eq_i res_at (Term.int_eval (1)) (congrArg Value.int (own_law i0 i1 i2 i3))), trivial⟩ ⟨hq.1, hq.2.1, (hq.2.2.sift fun y hy => Or.inr (N y hy)).mono (by decide) (by decide)⟩⟩
theorem main_1_1 : Claimed_1_1 := comes_1 fun _ _ _ _ _ _ h hF => ⟨h.1, hF⟩
theorem main_1_2 : Claimed_1_2 := comes_1 fun _ _ _ _ _ _ h hF => ⟨h.2.1, hF⟩
end Jvm.Pilot.@@N@@
namespace Jvm.Pilot.@@N@@
open Jvm Jvm.ClassFile Sem Op Lib Jvm.Free Jvm.Stand Jvm.Pilot.@@N@@.Jvm.D
/-! MADE BY PROGRAM (witnessworld.py) out of the Statement's table words and the real class files: 10 classes; the members and pool entries that the words name. The judged class is class 1, her method 1. -/
namespace start1
open Jvm.ClassFile
def u (s : String) : CpInfo := .utf8 (stringToUtf16 s)
/-- a pool by its gaps: so many unusable entries, then the entry; so many at the end -/
def gap : Nat → List CpInfo → List CpInfo
  | 0, r => r
  | n + 1, r => .unusable :: gap n r
def poolList (es : List (Nat × CpInfo)) (last : Nat) : List CpInfo := es.foldr (fun e r => gap e.1 (e.2 :: r)) (gap last [])
def pool (es : List (Nat × CpInfo)) (last : Nat) : Array CpInfo := ⟨poolList es last⟩
def fileOf (pool : Array CpInfo) (this : Nat) (attrs : Array Attribute := #[]) (ms : Array MethodInfo := #[]) (fl : Nat := 33) (sup : Nat := 0) (ifs : Array Nat := #[]) (fds : Array FieldInfo := #[]) : ClassFile where
  minorVersion := 0
  majorVersion := 65
  constantPool := pool
  accessFlags := fl
  thisClass := this
  superClass := sup
  interfaces := ifs
  fields := fds
  methods := ms
  attributes := attrs
def plain (name : String) (sup : Option ClassId) : Class where
  name := name
  kind := .ordinary
  loader := none
  accessFlags := 33
  super := sup
  interfaces := #[]
  cf := none
  fields := #[]
  methods := #[]
  instanceTypes := #[]
  staticTypes := #[]
  resolved := #[]
  callSites := []
  init := .initialized
  statics := none
  mirror := none

def pool0 : Array CpInfo := pool [(5, u "<init>"), (0, u "()V"), (1, .class_ 10), (1, u "java/lang/Object")] 113

def k0c0 : Code := { maxStack := 0, maxLocals := 1, code := object_method_1_code, exceptionTable := #[], attributes := #[] }
def k0m0 : Method := { name := "<init>", desc := "()V", sig := { parameters := [], returnType := none }, accessFlags := 1, code := some k0c0 }
/-- java/lang/Object -/
def k0 : Class := { plain "java/lang/Object" none with
  accessFlags := 33
  interfaces := #[]
  cf := some (fileOf pool0 8 #[] #[{ accessFlags := 1, nameIndex := 5, descriptorIndex := 6, attributes := #[] }] 33 0 #[] #[])
  fields := #[]
  methods := #[k0m0]
  instanceTypes := #[]
  staticTypes := #[]
  resolved := Array.replicate 124 none
  statics := none }

def pool1 : Array CpInfo := pool [(2, .class_ 4), (1, u "java/lang/Object"), (0, u "<init>"), (0, u "()V"), (0, .class_ 8), (0, u "com/example/leipzig/leipzig/formats/nupn/NupnPragmas$Interval"), (0, .methodref 7 10), (0, .nameAndType 5 11), (0, u "(JJ)V"), (0, .methodref 7 13), (0, .nameAndType 14 15), (0, u "isEmpty"), (0, u "()Z"), (0, .fieldref 7 17), (0, .nameAndType 18 19), (0, u "NONE"), (0, u "Lcom/example/leipzig/leipzig/formats/nupn/NupnPragmas$Interval;"), (0, .class_ 21), (0, u "com/example/leipzig/leipzig/formats/nupn/IntervalIsEmptyPinLaw"), (2, u "law"), (0, u "(JJJI)Z")] 7

def k1m0 : Method := { name := "<init>", desc := "()V", sig := { parameters := [], returnType := none }, accessFlags := 2, code := none }
def k1c1 : Code := { maxStack := 6, maxLocals := 16, code := code, exceptionTable := #[], attributes := #[] }
def k1m1 : Method := { name := "law", desc := "(JJJI)Z", sig := { parameters := [.long, .long, .long, .int], returnType := some .boolean }, accessFlags := 9, code := some k1c1 }
/-- com/example/leipzig/leipzig/formats/nupn/IntervalIsEmptyPinLaw -/
def k1 : Class := { plain "com/example/leipzig/leipzig/formats/nupn/IntervalIsEmptyPinLaw" (some 0) with
  accessFlags := 49
  interfaces := #[]
  cf := some (fileOf pool1 20 #[] #[{ accessFlags := 2, nameIndex := 5, descriptorIndex := 6, attributes := #[] }, { accessFlags := 9, nameIndex := 24, descriptorIndex := 25, attributes := #[] }] 49 2 #[] #[])
  fields := #[]
  methods := #[k1m0, k1m1]
  instanceTypes := #[]
  staticTypes := #[]
  resolved := Array.replicate 33 none
  statics := none }

def pool2 : Array CpInfo := pool [(1, .methodref 2 3), (0, .class_ 4), (0, .nameAndType 5 6), (0, u "java/lang/Object"), (0, u "<init>"), (0, u "()V"), (0, .class_ 8), (0, u "java/lang/Record")] 13

def k2c0 : Code := { maxStack := 1, maxLocals := 1, code := jdk_30_method_1_code, exceptionTable := #[], attributes := #[] }
def k2m0 : Method := { name := "<init>", desc := "()V", sig := { parameters := [], returnType := none }, accessFlags := 4, code := some k2c0 }
/-- java/lang/Record -/
def k2 : Class := { plain "java/lang/Record" (some 0) with
  accessFlags := 1057
  interfaces := #[]
  cf := some (fileOf pool2 7 #[] #[{ accessFlags := 4, nameIndex := 5, descriptorIndex := 6, attributes := #[] }] 1057 2 #[] #[])
  fields := #[]
  methods := #[k2m0]
  instanceTypes := #[]
  staticTypes := #[]
  resolved := Array.replicate 22 none
  statics := none }

def pool3 : Array CpInfo := pool [(1, .methodref 2 3), (0, .class_ 4), (0, .nameAndType 5 6), (0, u "java/lang/Record"), (0, u "<init>"), (0, u "()V"), (0, .fieldref 8 9), (0, .class_ 10), (0, .nameAndType 11 12), (0, u "com/example/leipzig/leipzig/formats/nupn/NupnPragmas$Interval"), (0, u "low"), (0, u "J"), (0, .fieldref 8 14), (0, .nameAndType 15 12), (0, u "high"), (2, u "isEmpty"), (0, u "()Z"), (2, u "(JJ)V"), (23, u "NONE"), (0, u "Lcom/example/leipzig/leipzig/formats/nupn/NupnPragmas$Interval;"), (15, .class_ 64), (0, u "com/example/leipzig/leipzig/formats/nupn/NupnPragmas")] 28

def k3c0 : Code := { maxStack := 3, maxLocals := 5, code := prog_63_method_1_code, exceptionTable := #[], attributes := #[] }
def k3m0 : Method := { name := "<init>", desc := "(JJ)V", sig := { parameters := [.long, .long], returnType := none }, accessFlags := 0, code := some k3c0 }
def k3c1 : Code := { maxStack := 4, maxLocals := 1, code := prog_63_method_2_code, exceptionTable := #[], attributes := #[] }
def k3m1 : Method := { name := "isEmpty", desc := "()Z", sig := { parameters := [], returnType := some .boolean }, accessFlags := 0, code := some k3c1 }
/-- com/example/leipzig/leipzig/formats/nupn/NupnPragmas$Interval -/
def k3 : Class := { plain "com/example/leipzig/leipzig/formats/nupn/NupnPragmas$Interval" (some 2) with
  accessFlags := 48
  interfaces := #[]
  cf := some (fileOf pool3 8 #[.nestHost 63] #[{ accessFlags := 0, nameIndex := 5, descriptorIndex := 22, attributes := #[] }, { accessFlags := 0, nameIndex := 18, descriptorIndex := 19, attributes := #[] }] 48 2 #[] #[{ accessFlags := 18, nameIndex := 11, descriptorIndex := 12, attributes := #[] }, { accessFlags := 18, nameIndex := 15, descriptorIndex := 12, attributes := #[] }, { accessFlags := 24, nameIndex := 46, descriptorIndex := 47, attributes := #[] }])
  fields := #[{ name := "low", type := .long, accessFlags := 18, slot := 0, constantValue := 0 }, { name := "high", type := .long, accessFlags := 18, slot := 1, constantValue := 0 }, { name := "NONE", type := (.object "com/example/leipzig/leipzig/formats/nupn/NupnPragmas$Interval"), accessFlags := 24, slot := 0, constantValue := 0 }]
  methods := #[k3m0, k3m1]
  instanceTypes := #[.long, .long]
  staticTypes := #[(.object "com/example/leipzig/leipzig/formats/nupn/NupnPragmas$Interval")]
  resolved := Array.replicate 93 none
  statics := some 0 }

def pool4 : Array CpInfo := pool [(1, u "java/lang/Cloneable"), (0, .class_ 1), (0, u "java/lang/Object"), (0, .class_ 3)] 3

/-- java/lang/Cloneable -/
def k4 : Class := { plain "java/lang/Cloneable" (some 0) with
  accessFlags := 1537
  interfaces := #[]
  cf := some (fileOf pool4 2 #[] #[] 1537 4 #[] #[])
  fields := #[]
  methods := #[]
  instanceTypes := #[]
  staticTypes := #[]
  resolved := Array.replicate 8 none
  statics := none }

def pool5 : Array CpInfo := pool [(1, u "java/io/Serializable"), (0, .class_ 1), (0, u "java/lang/Object"), (0, .class_ 3)] 3

/-- java/io/Serializable -/
def k5 : Class := { plain "java/io/Serializable" (some 0) with
  accessFlags := 1537
  interfaces := #[]
  cf := some (fileOf pool5 2 #[] #[] 1537 4 #[] #[])
  fields := #[]
  methods := #[]
  instanceTypes := #[]
  staticTypes := #[]
  resolved := Array.replicate 8 none
  statics := none }

/-- the primitive byte -/
def k6 : Class := { plain "byte" none with kind := .primitive 'B', accessFlags := 0x411 }
/-- [B -/
def k7 : Class := { plain "[B" (some 0) with kind := .array 6 .byte, interfaces := #[4, 5], accessFlags := 1041 }

/-- the primitive int -/
def k8 : Class := { plain "int" none with kind := .primitive 'I', accessFlags := 0x411 }
/-- [I -/
def k9 : Class := { plain "[I" (some 0) with kind := .array 8 .int, interfaces := #[4, 5], accessFlags := 1041 }

def heap : Heap := #[{ cls := 3, slots := #[.ref 1], vm := .statics 3 },
  { cls := 3, slots := #[.long 1, .long 0], vm := .none }]
def classes : Array Class := #[k0, k1, k2, k3, k4, k5, k6, k7, k8, k9]
def interned : List (Array UInt16 × Addr) := []
def slotsUsed : Nat := 3
def theMethod : MethodId := ⟨1, 1⟩
def args0 : Array Value := #[.long 3, .long 5, .long 4, .int 0]
def aboutOver (below : List Frame) : State where
  vm := { classes := classes, interned := interned.toArray }
  heap := heap
  slotsUsed := slotsUsed
  threads := #[{ frames := .invoking theMethod args0 :: below }]
def below0 : List Frame := [.native { method := ⟨0, 0⟩, args := #[] }]
def about1 : State := aboutOver below0
def p0 : Program := .bare "" "" ""
def e0 : Env := launch0.env 0 0 0
theorem w_frames : about1.frames = Frame.invoking theMethod args0 :: below0 := rfl
set_option maxRecDepth 65536 in
theorem w_args : argsFit about1.vm theMethod args0 = true := by decide +kernel
set_option maxRecDepth 65536 in
theorem w_heap : heapFits about1 = true := by decide +kernel
set_option maxRecDepth 65536 in
theorem w_runnable : about1.curStatus? = some .runnable := by decide +kernel
set_option maxRecDepth 65536 in
theorem w_alone : about1.alone = true := by decide +kernel
set_option maxRecDepth 65536 in
theorem w_named : about1.methodNamed? x = some theMethod := by decide +kernel
set_option maxRecDepth 65536 in
theorem w_hears : about1.hears theMethod below0 = true := by decide +kernel
set_option maxRecDepth 65536 in
theorem w_ripe : about1.ripe theMethod args0 below0 = true := by decide +kernel
theorem w_running : about1.status = .running := rfl
set_option maxRecDepth 65536 in
theorem w_room : about1.hasRoom e0.platform room_1 = true :=
  launch0.hasRoom_least _ room_1 (by decide +kernel) (by decide +kernel) (by decide +kernel) (by decide +kernel) (by decide +kernel) (by decide +kernel)
theorem allAtoms_all (ts : List Jvm.Cond) (a : Array Jvm.Value) (st : Jvm.State) : (allAtoms ts).before a st = ts.all (fun c => c.before a st) := by
  induction ts with
  | nil => rfl
  | cons c t ih =>
    show (Jvm.Cond.and c (allAtoms t)).before a st = _
    rw [Jvm.Cond.before_and, ih, List.all_cons]
def words1 : List Jvm.Cond := Jvm.Cond.code x code maxLocals ret :: tables_1
/-- a 'code' word, met by the world's own term for the bytes: nothing is compared byte by byte -/
theorem code_word {y : MethodName} {bytes : ByteArray} {mx : Nat} {rt : Option FieldType} {a : Array Value} {s : State} {m : MethodId} {meth : Method} {c : Code} (h1 : s.methodNamed? y = some m) (h2 : s.vm.method? m = some meth) (h3 : meth.code = some c) (h4 : c.code = bytes)
    (h5 : (c.maxLocals == mx && c.exceptionTable.isEmpty && decide (c.maxStack ≤ mostOperands) && decide (meth.sig.returnType = rt) && !meth.locks && decide (parseMethodDescriptor y.desc = some meth.sig)) = true) : (Jvm.Cond.code y bytes mx rt).before a s = true := by
  simp only [Bool.and_eq_true, beq_iff_eq, Bool.not_eq_true', decide_eq_true_eq] at h5
  obtain ⟨⟨⟨⟨⟨g1, g2⟩, g3⟩, g4⟩, g5⟩, g6⟩ := h5
  simp [Cond.before, Cond.holds, Cond.value, h1, h2, h3, h4, g1, g2, g3, g4, g5, g6]
def isCode : Jvm.Cond → Bool
  | .code _ _ _ _ => true
  | _ => false
theorem all_split {L : List Jvm.Cond} {P : Jvm.Cond → Bool} (h1 : L.all (fun c => isCode c || P c) = true) (h2 : ∀ c ∈ L.filter isCode, P c = true) : L.all P = true := by
  refine List.all_eq_true.mpr fun c hc => ?_
  have h := List.all_eq_true.mp h1 c hc
  rcases Bool.eq_false_or_eq_true (isCode c) with hi | hi
  · exact h2 c (List.mem_filter.mpr ⟨hc, hi⟩)
  · simpa [hi] using h
set_option maxRecDepth 65536 in
theorem w_c0 : (Jvm.Cond.code x code maxLocals ret).before args0 about1 = true := code_word (m := ⟨1, 1⟩) (meth := k1m1) (c := k1c1) (by decide +kernel) rfl rfl rfl (by decide +kernel)
set_option maxRecDepth 65536 in
theorem w_c1 : (Jvm.Cond.code ({ cls := "com/example/leipzig/leipzig/formats/nupn/NupnPragmas$Interval", name := "<init>", desc := "(JJ)V" } : Jvm.MethodName) prog_63_method_1_code (5 : Nat) (Option.none : Option Jvm.ClassFile.FieldType)).before args0 about1 = true := code_word (m := ⟨3, 0⟩) (meth := k3m0) (c := k3c0) (by decide +kernel) rfl rfl rfl (by decide +kernel)
set_option maxRecDepth 65536 in
theorem w_c2 : (Jvm.Cond.code ({ cls := "java/lang/Record", name := "<init>", desc := "()V" } : Jvm.MethodName) jdk_30_method_1_code (1 : Nat) (Option.none : Option Jvm.ClassFile.FieldType)).before args0 about1 = true := code_word (m := ⟨2, 0⟩) (meth := k2m0) (c := k2c0) (by decide +kernel) rfl rfl rfl (by decide +kernel)
set_option maxRecDepth 65536 in
theorem w_c3 : (Jvm.Cond.code ({ cls := "java/lang/Object", name := "<init>", desc := "()V" } : Jvm.MethodName) object_method_1_code (1 : Nat) (Option.none : Option Jvm.ClassFile.FieldType)).before args0 about1 = true := code_word (m := ⟨0, 0⟩) (meth := k0m0) (c := k0c0) (by decide +kernel) rfl rfl rfl (by decide +kernel)
set_option maxRecDepth 65536 in
theorem w_c4 : (Jvm.Cond.code ({ cls := "com/example/leipzig/leipzig/formats/nupn/NupnPragmas$Interval", name := "isEmpty", desc := "()Z" } : Jvm.MethodName) prog_63_method_2_code (1 : Nat) (Option.some Jvm.ClassFile.FieldType.boolean)).before args0 about1 = true := code_word (m := ⟨3, 1⟩) (meth := k3m1) (c := k3c1) (by decide +kernel) rfl rfl rfl (by decide +kernel)
def codes1 : List Jvm.Cond := [Jvm.Cond.code x code maxLocals ret, Jvm.Cond.code ({ cls := "com/example/leipzig/leipzig/formats/nupn/NupnPragmas$Interval", name := "<init>", desc := "(JJ)V" } : Jvm.MethodName) prog_63_method_1_code (5 : Nat) (Option.none : Option Jvm.ClassFile.FieldType), Jvm.Cond.code ({ cls := "java/lang/Record", name := "<init>", desc := "()V" } : Jvm.MethodName) jdk_30_method_1_code (1 : Nat) (Option.none : Option Jvm.ClassFile.FieldType), Jvm.Cond.code ({ cls := "java/lang/Object", name := "<init>", desc := "()V" } : Jvm.MethodName) object_method_1_code (1 : Nat) (Option.none : Option Jvm.ClassFile.FieldType), Jvm.Cond.code ({ cls := "com/example/leipzig/leipzig/formats/nupn/NupnPragmas$Interval", name := "isEmpty", desc := "()Z" } : Jvm.MethodName) prog_63_method_2_code (1 : Nat) (Option.some Jvm.ClassFile.FieldType.boolean)]
set_option maxRecDepth 65536 in
theorem codes_eq : words1.filter isCode = codes1 := rfl
theorem w_codes : ∀ c ∈ words1.filter isCode, c.before args0 about1 = true := by
  rw [codes_eq]
  intro c hc
  simp only [codes1, List.mem_cons, List.not_mem_nil, or_false] at hc
  rcases hc with rfl | rfl | rfl | rfl | rfl
  · exact w_c0
  · exact w_c1
  · exact w_c2
  · exact w_c3
  · exact w_c4
set_option maxRecDepth 65536 in
theorem w_t1 : (words1.take 24).all (fun c => isCode c || c.before args0 about1) = true := by decide +kernel
set_option maxRecDepth 65536 in
theorem w_t2 : (words1.drop 24).all (fun c => isCode c || c.before args0 about1) = true := by decide +kernel
theorem w_tables : (allAtoms (Jvm.Cond.code x code maxLocals ret :: tables_1)).before args0 about1 = true := by
  rw [allAtoms_all]
  show words1.all (fun c => c.before args0 about1) = true
  refine all_split ?_ w_codes
  rw [← List.take_append_drop 24 words1, List.all_append, w_t1, w_t2]
  rfl
set_option maxRecDepth 65536 in
theorem w_case : (Jvm.Cond.and given_1 narrow_1).before args0 about1 = true := by decide +kernel
theorem w_applies : (headSpec (Jvm.Cond.code x code maxLocals ret :: tables_1) room_1).applies x e0.platform about1 = true :=
  (Spec.applies_iff w_frames).mpr ⟨w_running, w_runnable, w_alone, w_named, w_hears, w_ripe, w_room, w_tables⟩
theorem atStart : AtStart classFile x code maxLocals ret World_1 tables_1 room_1 Calls_1 rest_1 Pre_1 launch0 p0 e0 about1 theMethod args0 below0 :=
  ⟨lists_1, trivial, launch0.admits_env _ _ _, launch0.least_env, fairChoices_fair.cas, fairChoices_fair.clock, w_frames, w_args, w_heap, w_applies, trivial, trivial, w_case⟩
end start1
theorem witness_1 : WitnessClaimed_1 := ⟨start1.p0, start1.e0, start1.about1, start1.theMethod, start1.args0, start1.below0, start1.atStart⟩
end Jvm.Pilot.@@N@@
