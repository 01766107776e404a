import JvmDerived
import JvmDerived.Pilot.@@N@@Statement
import JvmDerived.Pilot.@@N@@Code
set_option linter.unusedVariables false
set_option linter.unusedSimpArgs false
namespace Jvm.Pilot.@@N@@
open Jvm Jvm.ClassFile Sem Op Lib Jvm.Free Jvm.Stand Jvm.LawKit Jvm.RoadKit Bundle Jvm.Pilot.@@N@@.Jvm.D
/-- from the state S the run comes to an end that meets F -/
def own_Go (tb : Tables) (e : Env) (below : List Frame) (F : State → Outcome → Prop) (S : State) : Prop := ∃ s₂ o, Steps tb e below S s₂ ∧ F s₂ o
/-- the end: it returned what Q says, over the heap that Q says -/
def own_Fin (below : List Frame) (s : State) (Q : Option Value → Heap → List Loc → Prop) (k n : Nat) : State → Outcome → Prop := fun s₂ o => s₂.status = .running ∧ Ended s₂ below o ∧ ∃ v L, o = .returned v ∧ Q v s₂.heap L ∧ FrameEnd s o s₂ L k n
theorem own_go {tb : Tables} {e : Env} {below : List Frame} {F : State → Outcome → Prop} {S S' : State} (h : ∀ t, Steps tb e below S' t → Steps tb e below S t) (k : own_Go tb e below F S') : own_Go tb e below F S := by
  obtain ⟨t, o, h1, h2⟩ := k
  exact ⟨t, o, h t h1, h2⟩
theorem own_via {tb : Tables} {e : Env} {below : List Frame} {F : State → Outcome → Prop} {S S' : State} (h : Steps tb e below S S') (k : own_Go tb e below F S') : own_Go tb e below F S := by
  obtain ⟨t, o, h1, h2⟩ := k
  exact ⟨t, o, h.trans h1, h2⟩
section OwnRet
variable {p : Program} {l : Launch} {e : Env} {R : Room} {s : State} {m : MethodId} {args : Array Value} {below : List Frame} {meth : Method} {c : Code} {T : State} {locs : List Loc} {cells slots : Nat} {Q : Option Value → Heap → List Loc → Prop} {K N : Nat}
theorem own_retN (X : Stand p l e R s m args below meth c T locs cells slots) (hlocks : meth.locks = false) (hx : p.tables.exec = Jvm.exec) {pc : Nat} {Ls : Array Slot} {z : Int32} {rest : List Value} {t : FieldType} (hret : meth.sig.returnType = some t) (ht : t = .boolean ∨ t = .byte ∨ t = .char ∨ t = .short) (hd : decode c.code pc = .ok (.ireturn, 1)) (hQ : Q (some (.int (nar t z))) T.heap locs) (hk : cells ≤ K) (hn : slots ≤ N) :
    own_Go p.tables e below (own_Fin below s Q K N) (T.setTop (mkF m pc Ls (.int z :: rest))) := by
  obtain ⟨fs, hr, hrun, hended, hW, hsame⟩ := X.leave (v := some (.int (nar t z))) (fun h => by rw [hret] at h; cases h) hlocks
  exact ⟨_, _, retN X hx hret ht hd hr, hrun, hended, _, _, rfl, hQ, ⟨_, rfl⟩, hW, hsame.mono hk hn⟩
theorem own_retI (X : Stand p l e R s m args below meth c T locs cells slots) (hlocks : meth.locks = false) (hx : p.tables.exec = Jvm.exec) {pc : Nat} {Ls : Array Slot} {z : Int32} {rest : List Value} (hret : meth.sig.returnType = some .int) (hd : decode c.code pc = .ok (.ireturn, 1)) (hQ : Q (some (.int z)) T.heap locs) (hk : cells ≤ K) (hn : slots ≤ N) :
    own_Go p.tables e below (own_Fin below s Q K N) (T.setTop (mkF m pc Ls (.int z :: rest))) := by
  obtain ⟨fs, hr, hrun, hended, hW, hsame⟩ := X.leave (v := some (.int z)) (fun h => by rw [hret] at h; cases h) hlocks
  exact ⟨_, _, retOut X hx (i := .ireturn) hret rfl (Or.inl ⟨rfl, Or.inl rfl, _, rfl⟩) hd hr, hrun, hended, _, _, rfl, hQ, ⟨_, rfl⟩, hW, hsame.mono hk hn⟩
theorem own_retJ (X : Stand p l e R s m args below meth c T locs cells slots) (hlocks : meth.locks = false) (hx : p.tables.exec = Jvm.exec) {pc : Nat} {Ls : Array Slot} {z : Int64} {rest : List Value} (hret : meth.sig.returnType = some .long) (hd : decode c.code pc = .ok (.lreturn, 1)) (hQ : Q (some (.long z)) T.heap locs) (hk : cells ≤ K) (hn : slots ≤ N) :
    own_Go p.tables e below (own_Fin below s Q K N) (T.setTop (mkF m pc Ls (.long z :: rest))) := by
  obtain ⟨fs, hr, hrun, hended, hW, hsame⟩ := X.leave (v := some (.long z)) (fun h => by rw [hret] at h; cases h) hlocks
  exact ⟨_, _, retOut X hx (i := .lreturn) hret rfl (Or.inr (Or.inl ⟨rfl, rfl, _, rfl⟩)) hd hr, hrun, hended, _, _, rfl, hQ, ⟨_, rfl⟩, hW, hsame.mono hk hn⟩
theorem own_retA (X : Stand p l e R s m args below meth c T locs cells slots) (hlocks : meth.locks = false) (hx : p.tables.exec = Jvm.exec) {pc : Nat} {Ls : Array Slot} {w : Value} {rest : List Value} {t : FieldType} (hret : meth.sig.returnType = some t) (ht : t.isReference = true) (hn' : narrow t w = w) (hw : w.isRef = true) (hd : decode c.code pc = .ok (.areturn, 1)) (hQ : Q (some w) T.heap locs) (hk : cells ≤ K) (hn : slots ≤ N) :
    own_Go p.tables e below (own_Fin below s Q K N) (T.setTop (mkF m pc Ls (w :: rest))) := by
  obtain ⟨fs, hr, hrun, hended, hW, hsame⟩ := X.leave (v := some w) (fun h => by rw [hret] at h; cases h) hlocks
  exact ⟨_, _, retOut X hx (i := .areturn) hret hn' (Or.inr (Or.inr (Or.inr (Or.inr ⟨rfl, ht, hw⟩)))) hd hr, hrun, hended, _, _, rfl, hQ, ⟨_, rfl⟩, hW, hsame.mono hk hn⟩
theorem own_ret0 (X : Stand p l e R s m args below meth c T locs cells slots) (hlocks : meth.locks = false) (hx : p.tables.exec = Jvm.exec) {pc : Nat} {Ls : Array Slot} (hret : meth.sig.returnType = none) (hd : decode c.code pc = .ok (.return_, 1)) (hQ : Q none T.heap locs) (hk : cells ≤ K) (hn : slots ≤ N) :
    own_Go p.tables e below (own_Fin below s Q K N) (T.setTop (mkF m pc Ls [])) := by
  obtain ⟨fs, hr, hrun, hended, hW, hsame⟩ := X.leave (v := none) (fun _ => rfl) hlocks
  exact ⟨_, _, X.returnOut hx hret hd hr, hrun, hended, _, _, rfl, hQ, ⟨_, rfl⟩, hW, hsame.mono hk hn⟩
/-- the end where String constants may have been made meanwhile -/
def own_FinW (below : List Frame) (s : State) (Q : Option Value → Heap → List Loc → Prop) (k n : Nat) : State → Outcome → Prop := fun s₂ o => s₂.status = .running ∧ Ended s₂ below o ∧ ∃ v L, o = .returned v ∧ Q v s₂.heap L ∧ ReturnedEndW s o s₂ L k n
theorem own_more {s t : State} {o : Outcome} {L : List Loc} {k n K N : Nat} (h : ReturnedEndW s o t L k n) (hk : k ≤ K) (hn : n ≤ N) : ReturnedEndW s o t L K N := ⟨h.1, h.2.1, h.2.2.1, h.2.2.2.mono hk hn⟩
variable {vm₁ : Vm} {n₁ : Nat}
theorem own_retNW (X : Stand p l e R (s.setVm vm₁) m args below meth c T locs cells slots) (hS : s.Since vm₁ n₁) (hn₁ : n₁ ≤ T.heap.size) (hlocks : meth.locks = false) (hx : p.tables.exec = Jvm.exec) {pc : Nat} {Ls : Array Slot} {z : Int32} {rest : List Value} {t : FieldType} (hret : meth.sig.returnType = some t) (ht : t = .boolean ∨ t = .byte ∨ t = .char ∨ t = .short) (hd : decode c.code pc = .ok (.ireturn, 1)) (hQ : Q (some (.int (nar t z))) T.heap locs) (hk : cells ≤ K) (hn : slots ≤ N) :
    own_Go p.tables e below (own_FinW below s Q K N) (T.setTop (mkF m pc Ls (.int z :: rest))) := by
  obtain ⟨fs, hr, hrun, hended, hE⟩ := X.leaveW hS hn₁ (v := some (.int (nar t z))) (fun h => by rw [hret] at h; cases h) hlocks
  exact ⟨_, _, retN X hx hret ht hd hr, hrun, hended, _, _, rfl, hQ, own_more hE hk hn⟩
theorem own_retAW (X : Stand p l e R (s.setVm vm₁) m args below meth c T locs cells slots) (hS : s.Since vm₁ n₁) (hn₁ : n₁ ≤ T.heap.size) (hlocks : meth.locks = false) (hx : p.tables.exec = Jvm.exec) {pc : Nat} {Ls : Array Slot} {w : Value} {rest : List Value} {t : FieldType} (hret : meth.sig.returnType = some t) (ht : t.isReference = true) (hn' : narrow t w = w) (hw : w.isRef = true) (hd : decode c.code pc = .ok (.areturn, 1)) (hQ : Q (some w) T.heap locs) (hk : cells ≤ K) (hn : slots ≤ N) :
    own_Go p.tables e below (own_FinW below s Q K N) (T.setTop (mkF m pc Ls (w :: rest))) := by
  obtain ⟨fs, hr, hrun, hended, hE⟩ := X.leaveW hS hn₁ (v := some w) (fun h => by rw [hret] at h; cases h) hlocks
  exact ⟨_, _, retOut X hx (i := .areturn) hret hn' (Or.inr (Or.inr (Or.inr (Or.inr ⟨rfl, ht, hw⟩)))) hd hr, hrun, hended, _, _, rfl, hQ, own_more hE hk hn⟩
theorem own_ret0W (X : Stand p l e R (s.setVm vm₁) m args below meth c T locs cells slots) (hS : s.Since vm₁ n₁) (hn₁ : n₁ ≤ T.heap.size) (hlocks : meth.locks = false) (hx : p.tables.exec = Jvm.exec) {pc : Nat} {Ls : Array Slot} (hret : meth.sig.returnType = none) (hd : decode c.code pc = .ok (.return_, 1)) (hQ : Q none T.heap locs) (hk : cells ≤ K) (hn : slots ≤ N) :
    own_Go p.tables e below (own_FinW below s Q K N) (T.setTop (mkF m pc Ls [])) := by
  obtain ⟨fs, hr, hrun, hended, hE⟩ := X.leaveW hS hn₁ (v := none) (fun _ => rfl) hlocks
  exact ⟨_, _, X.returnOut hx hret hd hr, hrun, hended, _, _, rfl, hQ, own_more hE hk hn⟩
end OwnRet
theorem own_val {x y : Int32} (h : y = x) : some (Value.int x) = some (Value.int y) := by rw [h]
theorem own_valJ {x y : Int64} (h : y = x) : some (Value.long x) = some (Value.long y) := by rw [h]
theorem own_valV {x y : Value} (h : y = x) : some x = some y := by rw [h]
theorem own_valR {x y : Addr} (h : y = x) : some (Value.ref x) = some (Value.ref y) := by rw [h]
theorem own_cat {v : Value} (h : v.isRef = true) : v.category = 1 := by rcases ref_cases h with rfl | ⟨z, rfl⟩ <;> rfl
theorem own_narR {v : Value} {C : String} (h : v.isRef = true) : narrow (.object C) v = v := by rcases ref_cases h with rfl | ⟨z, rfl⟩ <;> rfl
theorem own_fitR {v : Value} {C : String} (h : v.isRef = true) : fits (.object C) v = true := by rcases ref_cases h with rfl | ⟨z, rfl⟩ <;> rfl
theorem own_narA {v : Value} {t : FieldType} (h : v.isRef = true) : narrow (.array t) v = v := by rcases ref_cases h with rfl | ⟨z, rfl⟩ <;> rfl
theorem own_fitA {v : Value} {t : FieldType} (h : v.isRef = true) : fits (.array t) v = true := by rcases ref_cases h with rfl | ⟨z, rfl⟩ <;> rfl
theorem own_dne {p : Prop} (h : p) : ¬ ¬ p := fun q => q h
theorem d1_0 : decode jdk_29_method_69_code 0 = .ok (.iload_n 0, 1) := by decide +kernel
theorem d1_1 : decode jdk_29_method_69_code 1 = .ok (.iload_n 1, 1) := by decide +kernel
theorem d1_2 : decode jdk_29_method_69_code 2 = .ok (.if_icmp .gt 7, 3) := by decide +kernel
theorem d1_5 : decode jdk_29_method_69_code 5 = .ok (.iload_n 0, 1) := by decide +kernel
theorem d1_6 : decode jdk_29_method_69_code 6 = .ok (.goto 4, 3) := by decide +kernel
theorem d1_9 : decode jdk_29_method_69_code 9 = .ok (.iload_n 1, 1) := by decide +kernel
theorem d1_10 : decode jdk_29_method_69_code 10 = .ok (.ireturn, 1) := by decide +kernel
theorem ef_1 (m : MethodId) (p1 : Int32) (p2 : Int32) : entryFrame m #[(.int p1), (.int p2)] 2 = mkF m 0 #[.val (.int p1), .val (.int p2)] [] := by first | (simp [entryFrame, mkF, argsToLocals, Value.category]; done) | rfl
def own_f1 (p1 : Int32) (p2 : Int32) : Int32 :=
  if p2 < p1 then p2
  else p1
def Q1 (Z : State) (p1 : Int32) (p2 : Int32) (h0 : Heap) (n0 : Nat) (v : Option Value) (h : Heap) (L : List Loc) : Prop := v = some (.int (own_f1 p1 p2)) ∧ Fr n0 L ∧ h = h0
set_option maxRecDepth 65536 in
set_option maxHeartbeats 40000000 in
theorem rm1 (l : Launch) (Z : State) (a0 : Array Value) (hw : ∀ d ∈ tables_1, d.before a0 Z = true) (ws : List Jvm.Cond) (p1 : Int32) (p2 : Int32) (h0 : Heap) (n0 : Nat) (Z0 : n0 ≤ h0.size) :
    MetFree l (⟨"java/lang/Math", "min", "(II)I"⟩ : MethodName) (head1 (Jvm.Cond.code (⟨"java/lang/Math", "min", "(II)I"⟩ : MethodName) jdk_29_method_69_code 2 (some .int) :: ws) ({ frames := 0, cells := 0, slots := 0, locals := 0 } : Room)) (fun a U => a = #[(.int p1), (.int p2)] ∧ Z.Warmed39 U.vm ∧ U.heap = h0) (fun _ _ _ _ _ => True) (fun _ U o U' => ∃ v L, o = .returned v ∧ Q1 Z p1 p2 h0 n0 v U'.heap L ∧ FrameEnd U o U' L ({ frames := 0, cells := 0, slots := 0, locals := 0 } : Room).cells ({ frames := 0, cells := 0, slots := 0, locals := 0 } : Room).slots) := by
  refine MetFree.of_bodySF (Jvm.Free.JP.mathPlain rfl (by decide +kernel)) hisR ?_
  intro p e s m args below meth c s₁ Bd hml0 hP hK
  obtain ⟨rfl, hZ, hh⟩ := hP
  have hx := Bd.exec
  have hby := Bd.bytes
  have hml : c.maxLocals = 2 := hml0
  have hown : s.vm.findClass "java/lang/Math" = some m.cls := findClass_of_methodNamed Bd.named
  have hnm := (name_of_methodNamed Bd.named Bd.method).1
  have X0 : Stand p l e ({ frames := 0, cells := 0, slots := 0, locals := 0 } : Room) s m #[(.int p1), (.int p2)] below meth c s₁ [] 0 0 := Stand.of_body Bd
  have e0 : s₁.heap = h0 := by rw [← hh, Bd.state]; rfl
  have N0 := Fr.nil n0
  show own_Go p.tables e below (own_Fin below s (Q1 Z p1 p2 h0 n0) ({ frames := 0, cells := 0, slots := 0, locals := 0 } : Room).cells ({ frames := 0, cells := 0, slots := 0, locals := 0 } : Room).slots) (s₁.setTop (entryFrame m #[(.int p1), (.int p2)] 2))
  refine own_go (S' := s₁.setTop (mkF m 0 #[.val (.int p1), .val (.int p2)] [])) (fun t k => castTop (ef_1 m p1 p2) k) ?_
  show own_Go p.tables e below _ (s₁.setTop (mkF m 0 #[.val (.int p1), .val (.int p2)] []))
  refine own_go (fun _ => XS.iloadN X0.here hx rfl (hb hby d1_0) rfl) ?_
  show own_Go p.tables e below _ (s₁.setTop (mkF m 1 #[.val (.int p1), .val (.int p2)] [(.int p1)]))
  refine own_go (fun _ => XS.iloadN X0.here hx rfl (hb hby d1_1) rfl) ?_
  show own_Go p.tables e below _ (s₁.setTop (mkF m 2 #[.val (.int p1), .val (.int p2)] [(.int p2), (.int p1)]))
  by_cases hc3_2 : p2 < p1
  · skip
    refine own_go (fun _ => XS.icmpYes X0.here hx rfl (pc0 := 2) (pc' := 9) rfl (hb hby d1_2) rfl (tlt hc3_2).2.2.1 (by decide) (by decide)) ?_
    show own_Go p.tables e below _ (s₁.setTop (mkF m 9 #[.val (.int p1), .val (.int p2)] []))
    refine own_go (fun _ => XS.iloadN X0.here hx rfl (hb hby d1_9) rfl) ?_
    show own_Go p.tables e below _ (s₁.setTop (mkF m 10 #[.val (.int p1), .val (.int p2)] [(.int p2)]))
    refine own_retI X0 Bd.notSynchronized hx Bd.returns (hb hby d1_10) (show Q1 Z p1 p2 h0 n0 _ s₁.heap _ from by rw [e0]; exact ⟨(own_val ((if_pos hc3_2).trans rfl)), N0, rfl⟩) (by decide) (by decide)
  · skip
    refine own_go (fun _ => XS.icmpNo X0.here hx rfl (hb hby d1_2) rfl (flt hc3_2).2.2.1) ?_
    show own_Go p.tables e below _ (s₁.setTop (mkF m 5 #[.val (.int p1), .val (.int p2)] []))
    refine own_go (fun _ => XS.iloadN X0.here hx rfl (hb hby d1_5) rfl) ?_
    show own_Go p.tables e below _ (s₁.setTop (mkF m 6 #[.val (.int p1), .val (.int p2)] [(.int p1)]))
    refine own_go (fun _ => XS.goto X0.here hx rfl (pc0 := 6) (pc' := 10) rfl (hb hby d1_6) (by decide) (by decide)) ?_
    show own_Go p.tables e below _ (s₁.setTop (mkF m 10 #[.val (.int p1), .val (.int p2)] [(.int p1)]))
    refine own_retI X0 Bd.notSynchronized hx Bd.returns (hb hby d1_10) (show Q1 Z p1 p2 h0 n0 _ s₁.heap _ from by rw [e0]; exact ⟨(own_val ((if_neg hc3_2).trans rfl)), N0, rfl⟩) (by decide) (by decide)
theorem d2_0 : decode jdk_29_method_65_code 0 = .ok (.iload_n 0, 1) := by decide +kernel
theorem d2_1 : decode jdk_29_method_65_code 1 = .ok (.iload_n 1, 1) := by decide +kernel
theorem d2_2 : decode jdk_29_method_65_code 2 = .ok (.if_icmp .lt 7, 3) := by decide +kernel
theorem d2_5 : decode jdk_29_method_65_code 5 = .ok (.iload_n 0, 1) := by decide +kernel
theorem d2_6 : decode jdk_29_method_65_code 6 = .ok (.goto 4, 3) := by decide +kernel
theorem d2_9 : decode jdk_29_method_65_code 9 = .ok (.iload_n 1, 1) := by decide +kernel
theorem d2_10 : decode jdk_29_method_65_code 10 = .ok (.ireturn, 1) := by decide +kernel
theorem ef_2 (m : MethodId) (p1 : Int32) (p2 : Int32) : entryFrame m #[(.int p1), (.int p2)] 2 = mkF m 0 #[.val (.int p1), .val (.int p2)] [] := by first | (simp [entryFrame, mkF, argsToLocals, Value.category]; done) | rfl
def own_f2 (p1 : Int32) (p2 : Int32) : Int32 :=
  if p1 < p2 then p2
  else p1
def Q2 (Z : State) (p1 : Int32) (p2 : Int32) (h0 : Heap) (n0 : Nat) (v : Option Value) (h : Heap) (L : List Loc) : Prop := v = some (.int (own_f2 p1 p2)) ∧ Fr n0 L ∧ h = h0
set_option maxRecDepth 65536 in
set_option maxHeartbeats 40000000 in
theorem rm2 (l : Launch) (Z : State) (a0 : Array Value) (hw : ∀ d ∈ tables_1, d.before a0 Z = true) (ws : List Jvm.Cond) (p1 : Int32) (p2 : Int32) (h0 : Heap) (n0 : Nat) (Z0 : n0 ≤ h0.size) :
    MetFree l (⟨"java/lang/Math", "max", "(II)I"⟩ : MethodName) (head1 (Jvm.Cond.code (⟨"java/lang/Math", "max", "(II)I"⟩ : MethodName) jdk_29_method_65_code 2 (some .int) :: ws) ({ frames := 0, cells := 0, slots := 0, locals := 0 } : Room)) (fun a U => a = #[(.int p1), (.int p2)] ∧ Z.Warmed39 U.vm ∧ U.heap = h0) (fun _ _ _ _ _ => True) (fun _ U o U' => ∃ v L, o = .returned v ∧ Q2 Z p1 p2 h0 n0 v U'.heap L ∧ FrameEnd U o U' L ({ frames := 0, cells := 0, slots := 0, locals := 0 } : Room).cells ({ frames := 0, cells := 0, slots := 0, locals := 0 } : Room).slots) := by
  refine MetFree.of_bodySF (Jvm.Free.JP.mathPlain rfl (by decide +kernel)) hisR ?_
  intro p e s m args below meth c s₁ Bd hml0 hP hK
  obtain ⟨rfl, hZ, hh⟩ := hP
  have hx := Bd.exec
  have hby := Bd.bytes
  have hml : c.maxLocals = 2 := hml0
  have hown : s.vm.findClass "java/lang/Math" = some m.cls := findClass_of_methodNamed Bd.named
  have hnm := (name_of_methodNamed Bd.named Bd.method).1
  have X0 : Stand p l e ({ frames := 0, cells := 0, slots := 0, locals := 0 } : Room) s m #[(.int p1), (.int p2)] below meth c s₁ [] 0 0 := Stand.of_body Bd
  have e0 : s₁.heap = h0 := by rw [← hh, Bd.state]; rfl
  have N0 := Fr.nil n0
  show own_Go p.tables e below (own_Fin below s (Q2 Z p1 p2 h0 n0) ({ frames := 0, cells := 0, slots := 0, locals := 0 } : Room).cells ({ frames := 0, cells := 0, slots := 0, locals := 0 } : Room).slots) (s₁.setTop (entryFrame m #[(.int p1), (.int p2)] 2))
  refine own_go (S' := s₁.setTop (mkF m 0 #[.val (.int p1), .val (.int p2)] [])) (fun t k => castTop (ef_2 m p1 p2) k) ?_
  show own_Go p.tables e below _ (s₁.setTop (mkF m 0 #[.val (.int p1), .val (.int p2)] []))
  refine own_go (fun _ => XS.iloadN X0.here hx rfl (hb hby d2_0) rfl) ?_
  show own_Go p.tables e below _ (s₁.setTop (mkF m 1 #[.val (.int p1), .val (.int p2)] [(.int p1)]))
  refine own_go (fun _ => XS.iloadN X0.here hx rfl (hb hby d2_1) rfl) ?_
  show own_Go p.tables e below _ (s₁.setTop (mkF m 2 #[.val (.int p1), .val (.int p2)] [(.int p2), (.int p1)]))
  by_cases hc3_2 : p1 < p2
  · skip
    refine own_go (fun _ => XS.icmpYes X0.here hx rfl (pc0 := 2) (pc' := 9) rfl (hb hby d2_2) rfl (tlt hc3_2).1 (by decide) (by decide)) ?_
    show own_Go p.tables e below _ (s₁.setTop (mkF m 9 #[.val (.int p1), .val (.int p2)] []))
    refine own_go (fun _ => XS.iloadN X0.here hx rfl (hb hby d2_9) rfl) ?_
    show own_Go p.tables e below _ (s₁.setTop (mkF m 10 #[.val (.int p1), .val (.int p2)] [(.int p2)]))
    refine own_retI X0 Bd.notSynchronized hx Bd.returns (hb hby d2_10) (show Q2 Z p1 p2 h0 n0 _ s₁.heap _ from by rw [e0]; exact ⟨(own_val ((if_pos hc3_2).trans rfl)), N0, rfl⟩) (by decide) (by decide)
  · skip
    refine own_go (fun _ => XS.icmpNo X0.here hx rfl (hb hby d2_2) rfl (flt hc3_2).1) ?_
    show own_Go p.tables e below _ (s₁.setTop (mkF m 5 #[.val (.int p1), .val (.int p2)] []))
    refine own_go (fun _ => XS.iloadN X0.here hx rfl (hb hby d2_5) rfl) ?_
    show own_Go p.tables e below _ (s₁.setTop (mkF m 6 #[.val (.int p1), .val (.int p2)] [(.int p1)]))
    refine own_go (fun _ => XS.goto X0.here hx rfl (pc0 := 6) (pc' := 10) rfl (hb hby d2_6) (by decide) (by decide)) ?_
    show own_Go p.tables e below _ (s₁.setTop (mkF m 10 #[.val (.int p1), .val (.int p2)] [(.int p1)]))
    refine own_retI X0 Bd.notSynchronized hx Bd.returns (hb hby d2_10) (show Q2 Z p1 p2 h0 n0 _ s₁.heap _ from by rw [e0]; exact ⟨(own_val ((if_neg hc3_2).trans rfl)), N0, rfl⟩) (by decide) (by decide)
theorem d6_0 : decode method_2_code 0 = .ok (.lload_n 0, 1) := by decide +kernel
theorem d6_1 : decode method_2_code 1 = .ok (.l2i, 1) := by decide +kernel
theorem d6_2 : decode method_2_code 2 = .ok (.lload_n 0, 1) := by decide +kernel
theorem d6_3 : decode method_2_code 3 = .ok (.bipush 32, 2) := by decide +kernel
theorem d6_5 : decode method_2_code 5 = .ok (.lushr, 1) := by decide +kernel
theorem d6_6 : decode method_2_code 6 = .ok (.l2i, 1) := by decide +kernel
theorem d6_7 : decode method_2_code 7 = .ok (.ixor, 1) := by decide +kernel
theorem d6_8 : decode method_2_code 8 = .ok (.ireturn, 1) := by decide +kernel
theorem pn_6 : plainName "com/example/outis/outis/measures/RecordCountsHashOfRunPinLaw" = true := by first | (simp [plainName, overriddenIn]; done) | decide +kernel
theorem ef_6 (m : MethodId) (q1 : Int64) : entryFrame m #[(.long q1)] 2 = mkF m 0 #[.val (.long q1), .second] [] := by first | (simp [entryFrame, mkF, argsToLocals, Value.category]; done) | rfl
def own_f6 (q1 : Int64) : Int32 :=
  ((q1.toInt32) ^^^ (((q1.toUInt64 >>> ((32 : Int32) &&& 0x3f).toInt64.toUInt64).toInt64).toInt32))
def Q6 (Z : State) (q1 : Int64) (h0 : Heap) (n0 : Nat) (v : Option Value) (h : Heap) (L : List Loc) : Prop := v = some (.int (own_f6 q1)) ∧ Fr n0 L ∧ h = h0
set_option maxRecDepth 65536 in
set_option maxHeartbeats 40000000 in
theorem rm6 (l : Launch) (Z : State) (a0 : Array Value) (hw : ∀ d ∈ tables_1, d.before a0 Z = true) (ws : List Jvm.Cond) (q1 : Int64) (h0 : Heap) (n0 : Nat) (Z0 : n0 ≤ h0.size) :
    MetFree l (⟨"com/example/outis/outis/measures/RecordCountsHashOfRunPinLaw", "hc", "(J)I"⟩ : MethodName) (head1 (Jvm.Cond.code (⟨"com/example/outis/outis/measures/RecordCountsHashOfRunPinLaw", "hc", "(J)I"⟩ : MethodName) method_2_code 2 (some .int) :: ws) ({ frames := 0, cells := 0, slots := 0, locals := 0 } : Room)) (fun a U => a = #[(.long q1)] ∧ Z.Warmed39 U.vm ∧ U.heap = h0) (fun _ _ _ _ _ => True) (fun _ U o U' => ∃ v L, o = .returned v ∧ Q6 Z q1 h0 n0 v U'.heap L ∧ FrameEnd U o U' L ({ frames := 0, cells := 0, slots := 0, locals := 0 } : Room).cells ({ frames := 0, cells := 0, slots := 0, locals := 0 } : Room).slots) := by
  refine MetFree.of_bodySF (plainFor_of_name pn_6) hisR ?_
  intro p e s m args below meth c s₁ Bd hml0 hP hK
  obtain ⟨rfl, hZ, hh⟩ := hP
  have hx := Bd.exec
  have hby := Bd.bytes
  have hml : c.maxLocals = 2 := hml0
  have hown : s.vm.findClass "com/example/outis/outis/measures/RecordCountsHashOfRunPinLaw" = some m.cls := findClass_of_methodNamed Bd.named
  have hnm := (name_of_methodNamed Bd.named Bd.method).1
  have X0 : Stand p l e ({ frames := 0, cells := 0, slots := 0, locals := 0 } : Room) s m #[(.long q1)] below meth c s₁ [] 0 0 := Stand.of_body Bd
  have e0 : s₁.heap = h0 := by rw [← hh, Bd.state]; rfl
  have N0 := Fr.nil n0
  show own_Go p.tables e below (own_Fin below s (Q6 Z q1 h0 n0) ({ frames := 0, cells := 0, slots := 0, locals := 0 } : Room).cells ({ frames := 0, cells := 0, slots := 0, locals := 0 } : Room).slots) (s₁.setTop (entryFrame m #[(.long q1)] 2))
  refine own_go (S' := s₁.setTop (mkF m 0 #[.val (.long q1), .second] [])) (fun t k => castTop (ef_6 m q1) k) ?_
  show own_Go p.tables e below _ (s₁.setTop (mkF m 0 #[.val (.long q1), .second] []))
  refine own_go (fun _ => XS.lloadN X0.here hx rfl (hb hby d6_0) rfl) ?_
  show own_Go p.tables e below _ (s₁.setTop (mkF m 1 #[.val (.long q1), .second] [(.long q1)]))
  refine own_go (fun _ => XS.l2i X0.here hx rfl (hb hby d6_1) rfl) ?_
  show own_Go p.tables e below _ (s₁.setTop (mkF m 2 #[.val (.long q1), .second] [(.int (q1.toInt32))]))
  refine own_go (fun _ => XS.lloadN X0.here hx rfl (hb hby d6_2) rfl) ?_
  show own_Go p.tables e below _ (s₁.setTop (mkF m 3 #[.val (.long q1), .second] [(.long q1), (.int (q1.toInt32))]))
  refine own_go (fun _ => XS.bipush X0.here hx rfl (hb hby d6_3)) ?_
  show own_Go p.tables e below _ (s₁.setTop (mkF m 5 #[.val (.long q1), .second] [(.int (32 : Int32)), (.long q1), (.int (q1.toInt32))]))
  refine own_go (fun _ => XS.lushr X0.here hx rfl (hb hby d6_5) rfl) ?_
  show own_Go p.tables e below _ (s₁.setTop (mkF m 6 #[.val (.long q1), .second] [(.long ((q1.toUInt64 >>> ((32 : Int32) &&& 0x3f).toInt64.toUInt64).toInt64)), (.int (q1.toInt32))]))
  refine own_go (fun _ => XS.l2i X0.here hx rfl (hb hby d6_6) rfl) ?_
  show own_Go p.tables e below _ (s₁.setTop (mkF m 7 #[.val (.long q1), .second] [(.int (((q1.toUInt64 >>> ((32 : Int32) &&& 0x3f).toInt64.toUInt64).toInt64).toInt32)), (.int (q1.toInt32))]))
  refine own_go (fun _ => XS.ixor X0.here hx rfl (hb hby d6_7) rfl) ?_
  show own_Go p.tables e below _ (s₁.setTop (mkF m 8 #[.val (.long q1), .second] [(.int ((q1.toInt32) ^^^ (((q1.toUInt64 >>> ((32 : Int32) &&& 0x3f).toInt64.toUInt64).toInt64).toInt32)))]))
  refine own_retI X0 Bd.notSynchronized hx Bd.returns (hb hby d6_8) (show Q6 Z q1 h0 n0 _ s₁.heap _ from by rw [e0]; exact ⟨rfl, N0, rfl⟩) (by decide) (by decide)
theorem d8_0 : decode jdk_35_method_36_code 0 = .ok (.lload_n 0, 1) := by decide +kernel
theorem d8_1 : decode jdk_35_method_36_code 1 = .ok (.lload_n 0, 1) := by decide +kernel
theorem d8_2 : decode jdk_35_method_36_code 2 = .ok (.bipush 32, 2) := by decide +kernel
theorem d8_4 : decode jdk_35_method_36_code 4 = .ok (.lushr, 1) := by decide +kernel
theorem d8_5 : decode jdk_35_method_36_code 5 = .ok (.lxor, 1) := by decide +kernel
theorem d8_6 : decode jdk_35_method_36_code 6 = .ok (.l2i, 1) := by decide +kernel
theorem d8_7 : decode jdk_35_method_36_code 7 = .ok (.ireturn, 1) := by decide +kernel
theorem pn_8 : plainName "java/lang/Long" = true := by first | (simp [plainName, overriddenIn]; done) | decide +kernel
theorem ef_8 (m : MethodId) (q1 : Int64) : entryFrame m #[(.long q1)] 2 = mkF m 0 #[.val (.long q1), .second] [] := by first | (simp [entryFrame, mkF, argsToLocals, Value.category]; done) | rfl
def own_f8 (q1 : Int64) : Int32 :=
  ((q1 ^^^ ((q1.toUInt64 >>> ((32 : Int32) &&& 0x3f).toInt64.toUInt64).toInt64)).toInt32)
def Q8 (Z : State) (q1 : Int64) (h0 : Heap) (n0 : Nat) (v : Option Value) (h : Heap) (L : List Loc) : Prop := v = some (.int (own_f8 q1)) ∧ Fr n0 L ∧ h = h0
set_option maxRecDepth 65536 in
set_option maxHeartbeats 40000000 in
theorem rm8 (l : Launch) (Z : State) (a0 : Array Value) (hw : ∀ d ∈ tables_1, d.before a0 Z = true) (ws : List Jvm.Cond) (q1 : Int64) (h0 : Heap) (n0 : Nat) (Z0 : n0 ≤ h0.size) :
    MetFree l (⟨"java/lang/Long", "hashCode", "(J)I"⟩ : MethodName) (head1 (Jvm.Cond.code (⟨"java/lang/Long", "hashCode", "(J)I"⟩ : MethodName) jdk_35_method_36_code 2 (some .int) :: ws) ({ frames := 0, cells := 0, slots := 0, locals := 0 } : Room)) (fun a U => a = #[(.long q1)] ∧ Z.Warmed39 U.vm ∧ U.heap = h0) (fun _ _ _ _ _ => True) (fun _ U o U' => ∃ v L, o = .returned v ∧ Q8 Z q1 h0 n0 v U'.heap L ∧ FrameEnd U o U' L ({ frames := 0, cells := 0, slots := 0, locals := 0 } : Room).cells ({ frames := 0, cells := 0, slots := 0, locals := 0 } : Room).slots) := by
  refine MetFree.of_bodySF (plainFor_of_name pn_8) hisR ?_
  intro p e s m args below meth c s₁ Bd hml0 hP hK
  obtain ⟨rfl, hZ, hh⟩ := hP
  have hx := Bd.exec
  have hby := Bd.bytes
  have hml : c.maxLocals = 2 := hml0
  have hown : s.vm.findClass "java/lang/Long" = some m.cls := findClass_of_methodNamed Bd.named
  have hnm := (name_of_methodNamed Bd.named Bd.method).1
  have X0 : Stand p l e ({ frames := 0, cells := 0, slots := 0, locals := 0 } : Room) s m #[(.long q1)] below meth c s₁ [] 0 0 := Stand.of_body Bd
  have e0 : s₁.heap = h0 := by rw [← hh, Bd.state]; rfl
  have N0 := Fr.nil n0
  show own_Go p.tables e below (own_Fin below s (Q8 Z q1 h0 n0) ({ frames := 0, cells := 0, slots := 0, locals := 0 } : Room).cells ({ frames := 0, cells := 0, slots := 0, locals := 0 } : Room).slots) (s₁.setTop (entryFrame m #[(.long q1)] 2))
  refine own_go (S' := s₁.setTop (mkF m 0 #[.val (.long q1), .second] [])) (fun t k => castTop (ef_8 m q1) k) ?_
  show own_Go p.tables e below _ (s₁.setTop (mkF m 0 #[.val (.long q1), .second] []))
  refine own_go (fun _ => XS.lloadN X0.here hx rfl (hb hby d8_0) rfl) ?_
  show own_Go p.tables e below _ (s₁.setTop (mkF m 1 #[.val (.long q1), .second] [(.long q1)]))
  refine own_go (fun _ => XS.lloadN X0.here hx rfl (hb hby d8_1) rfl) ?_
  show own_Go p.tables e below _ (s₁.setTop (mkF m 2 #[.val (.long q1), .second] [(.long q1), (.long q1)]))
  refine own_go (fun _ => XS.bipush X0.here hx rfl (hb hby d8_2)) ?_
  show own_Go p.tables e below _ (s₁.setTop (mkF m 4 #[.val (.long q1), .second] [(.int (32 : Int32)), (.long q1), (.long q1)]))
  refine own_go (fun _ => XS.lushr X0.here hx rfl (hb hby d8_4) rfl) ?_
  show own_Go p.tables e below _ (s₁.setTop (mkF m 5 #[.val (.long q1), .second] [(.long ((q1.toUInt64 >>> ((32 : Int32) &&& 0x3f).toInt64.toUInt64).toInt64)), (.long q1)]))
  refine own_go (fun _ => XS.lxor X0.here hx rfl (hb hby d8_5) rfl) ?_
  show own_Go p.tables e below _ (s₁.setTop (mkF m 6 #[.val (.long q1), .second] [(.long (q1 ^^^ ((q1.toUInt64 >>> ((32 : Int32) &&& 0x3f).toInt64.toUInt64).toInt64)))]))
  refine own_go (fun _ => XS.l2i X0.here hx rfl (hb hby d8_6) rfl) ?_
  show own_Go p.tables e below _ (s₁.setTop (mkF m 7 #[.val (.long q1), .second] [(.int ((q1 ^^^ ((q1.toUInt64 >>> ((32 : Int32) &&& 0x3f).toInt64.toUInt64).toInt64)).toInt32))]))
  refine own_retI X0 Bd.notSynchronized hx Bd.returns (hb hby d8_7) (show Q8 Z q1 h0 n0 _ s₁.heap _ from by rw [e0]; exact ⟨rfl, N0, rfl⟩) (by decide) (by decide)
theorem d3_0 : decode prog_21_method_1_code 0 = .ok (.aload_n 0, 1) := by decide +kernel
theorem d3_1 : decode prog_21_method_1_code 1 = .ok (.invokespecial 1, 3) := by decide +kernel
theorem d3_4 : decode prog_21_method_1_code 4 = .ok (.aload_n 0, 1) := by decide +kernel
theorem d3_5 : decode prog_21_method_1_code 5 = .ok (.aload_n 1, 1) := by decide +kernel
theorem d3_6 : decode prog_21_method_1_code 6 = .ok (.invokevirtual 7, 3) := by decide +kernel
theorem d3_9 : decode prog_21_method_1_code 9 = .ok (.checkcast 8, 3) := by decide +kernel
theorem d3_12 : decode prog_21_method_1_code 12 = .ok (.putfield 13, 3) := by decide +kernel
theorem d3_15 : decode prog_21_method_1_code 15 = .ok (.return_, 1) := by decide +kernel
theorem pn_3 : plainName "com/example/outis/outis/measures/RecordCounts" = true := by first | (simp [plainName, overriddenIn]; done) | decide +kernel
theorem ef_3 (m : MethodId) (a1 : Addr) (a2 : Addr) : entryFrame m #[(.ref a1), (.ref a2)] 2 = mkF m 0 #[.val (.ref a1), .val (.ref a2)] [] := by first | (simp [entryFrame, mkF, argsToLocals, Value.category]; done) | rfl
def Q3 (Z : State) (a1 : Addr) (a2 : Addr) (x0 : Int64) (x1 : Int64) (x2 : Int64) (x3 : Int64) (kc : ClassId) (u_records_a1 : Value) (h0 : Heap) (n0 : Nat) (v : Option Value) (h : Heap) (L : List Loc) : Prop := v = none ∧ Fr n0 L ∧ Keep h0 h [a1] ∧ Exa Z h a1 "com/example/outis/outis/measures/RecordCounts" ∧ Fld Z h a1 "com/example/outis/outis/measures/RecordCounts" "records" "[J" (.ref h0.size) ∧ Exa Z h h0.size "[J" ∧ Arv Z h h0.size kc .long (4 : Int32) [(.long x0), (.long x1), (.long x2), (.long x3)] (.long (0 : Int64))
set_option maxRecDepth 65536 in
set_option maxHeartbeats 40000000 in
theorem rm3 (l : Launch) (Z : State) (a0 : Array Value) (hw : ∀ d ∈ tables_1, d.before a0 Z = true) (ws : List Jvm.Cond) (a1 : Addr) (a2 : Addr) (x0 : Int64) (x1 : Int64) (x2 : Int64) (x3 : Int64) (kc : ClassId) (u_records_a1 : Value) (h0 : Heap) (n0 : Nat) (Z0 : n0 ≤ h0.size) (V_a2 : Arv Z h0 a2 kc .long (4 : Int32) [(.long x0), (.long x1), (.long x2), (.long x3)] (.long (0 : Int64))) (E_a2 : Exa Z h0 a2 "[J") (E_a1 : Exa Z h0 a1 "com/example/outis/outis/measures/RecordCounts") (F_records_a1 : Fld Z h0 a1 "com/example/outis/outis/measures/RecordCounts" "records" "[J" u_records_a1) (g_a1 : n0 ≤ a1) :
    MetFree l (⟨"com/example/outis/outis/measures/RecordCounts", "<init>", "([J)V"⟩ : MethodName) (head1 (Jvm.Cond.code (⟨"com/example/outis/outis/measures/RecordCounts", "<init>", "([J)V"⟩ : MethodName) prog_21_method_1_code 2 none :: ws) ({ frames := 1, cells := 1, slots := 4, locals := 15 } : Room)) (fun a U => a = #[(.ref a1), (.ref a2)] ∧ Z.Warmed39 U.vm ∧ U.heap = h0) (fun _ _ _ _ _ => True) (fun _ U o U' => ∃ v L, o = .returned v ∧ Q3 Z a1 a2 x0 x1 x2 x3 kc u_records_a1 h0 n0 v U'.heap L ∧ FrameEnd U o U' L ({ frames := 1, cells := 1, slots := 4, locals := 15 } : Room).cells ({ frames := 1, cells := 1, slots := 4, locals := 15 } : Room).slots) := by
  refine MetFree.of_bodySF (plainFor_of_name pn_3) hisR ?_
  intro p e s m args below meth c s₁ Bd hml0 hP hK
  obtain ⟨rfl, hZ, hh⟩ := hP
  have hx := Bd.exec
  have hby := Bd.bytes
  have hml : c.maxLocals = 2 := hml0
  have hown : s.vm.findClass "com/example/outis/outis/measures/RecordCounts" = some m.cls := findClass_of_methodNamed Bd.named
  have hnm := (name_of_methodNamed Bd.named Bd.method).1
  have X0 : Stand p l e ({ frames := 1, cells := 1, slots := 4, locals := 15 } : Room) s m #[(.ref a1), (.ref a2)] below meth c s₁ [] 0 0 := Stand.of_body Bd
  have e0 : s₁.heap = h0 := by rw [← hh, Bd.state]; rfl
  have N0 := Fr.nil n0
  show own_Go p.tables e below (own_Fin below s (Q3 Z a1 a2 x0 x1 x2 x3 kc u_records_a1 h0 n0) ({ frames := 1, cells := 1, slots := 4, locals := 15 } : Room).cells ({ frames := 1, cells := 1, slots := 4, locals := 15 } : Room).slots) (s₁.setTop (entryFrame m #[(.ref a1), (.ref a2)] 2))
  refine own_go (S' := s₁.setTop (mkF m 0 #[.val (.ref a1), .val (.ref a2)] [])) (fun t k => castTop (ef_3 m a1 a2) k) ?_
  show own_Go p.tables e below _ (s₁.setTop (mkF m 0 #[.val (.ref a1), .val (.ref a2)] []))
  refine own_go (fun _ => XS.aloadN X0.here hx rfl (hb hby d3_0) rfl rfl) ?_
  show own_Go p.tables e below _ (s₁.setTop (mkF m 1 #[.val (.ref a1), .val (.ref a2)] [(.ref a1)]))
  obtain ⟨T3, X3, e3, st3⟩ := initO X0 hx hZ hown (hw _ (List.mem_of_getElem? (i := 15) rfl)) (hw _ (List.mem_of_getElem? (i := 16) rfl)) (hw _ (List.mem_of_getElem? (i := 17) rfl)) e0 (g := (mkF m 1 #[.val (.ref a1), .val (.ref a2)] [(.ref a1)])) rfl (by rw [hml]; rfl) rfl (hb hby d3_1) (by decide) (W := 0) (by show 2 * 0 + _ ≤ _; exact Nat.le_of_eq rfl) (by decide)
  refine own_go st3 ?_
  show own_Go p.tables e below _ (T3.setTop (mkF m 4 #[.val (.ref a1), .val (.ref a2)] []))
  refine own_go (fun _ => XS.aloadN X3.here hx rfl (hb hby d3_4) rfl rfl) ?_
  show own_Go p.tables e below _ (T3.setTop (mkF m 5 #[.val (.ref a1), .val (.ref a2)] [(.ref a1)]))
  refine own_go (fun _ => XS.aloadN X3.here hx rfl (hb hby d3_5) rfl rfl) ?_
  show own_Go p.tables e below _ (T3.setTop (mkF m 6 #[.val (.ref a1), .val (.ref a2)] [(.ref a2), (.ref a1)]))
  obtain ⟨T4, h4, X4, e4, E4, V4, B4, st4⟩ := cloneH X3 hx hZ hown (hw _ (List.mem_of_getElem? (i := 18) rfl)) (hw _ (List.mem_of_getElem? (i := 19) rfl)) (hw _ (List.mem_of_getElem? (i := 23) rfl)) (hw _ (List.mem_of_getElem? (i := 21) rfl)) (hw _ (List.mem_of_getElem? (i := 22) rfl)) (hw _ (List.mem_of_getElem? (i := 24) rfl)) e3 (V_a2).arh E_a2 (g := (mkF m 6 #[.val (.ref a1), .val (.ref a2)] [(.ref a2), (.ref a1)])) rfl (by rw [hml]; rfl) rfl (hb hby d3_6) (by decide) (W := 1) (cap := 4) (by show 2 * 0 + _ ≤ _; exact Nat.le_of_eq rfl) (by decide) (by decide) (by decide) (by decide)
  obtain ⟨b4, g4⟩ : ∃ z, z = h0.size := ⟨_, rfl⟩
  rw [← g4] at V4 B4 st4
  refine own_go st4 ?_
  have g_b4 : n0 ≤ b4 := Nat.le_trans Z0 (Nat.le_of_eq g4.symm)
  have sz_b4 : h0.size ≤ b4 := (Nat.le_trans (Keep.refl h0 [a1]).1 (Nat.le_of_eq g4.symm))
  have V4 : Arv Z h4 b4 kc .long (4 : Int32) [(.long x0), (.long x1), (.long x2), (.long x3)] (.long (0 : Int64)) := V4
  have K4 : Keep h0 h4 [a1] := (Keep.refl h0 [a1]).ext E4
  show own_Go p.tables e below _ (T4.setTop (mkF m 9 #[.val (.ref a1), .val (.ref a2)] [(.ref b4), (.ref a1)]))
  obtain ⟨T5, X5, e5, st5⟩ := castY X4 hx hZ hown (hw _ (List.mem_of_getElem? (i := 25) rfl)) e4 (Ins.self B4) (g := (mkF m 9 #[.val (.ref a1), .val (.ref a2)] [(.ref b4), (.ref a1)])) rfl rfl (hb hby d3_9)
  refine own_go st5 ?_
  show own_Go p.tables e below _ (T5.setTop (mkF m 12 #[.val (.ref a1), .val (.ref a2)] [(.ref b4), (.ref a1)]))
  obtain ⟨T6, h6, X6, e6, W6, st6⟩ := putF X5 hx hZ hown (host := "") (Or.inl (hw _ (List.mem_of_getElem? (i := 27) rfl))) Via.refl e5 (F_records_a1.ext E4) (E_a1.ext E4) (Or.inr ⟨(hw _ (List.mem_of_getElem? (i := 28) rfl)), rfl, hnm⟩) (hw _ (List.mem_of_getElem? (i := 10) rfl)) (ty := (.array .long)) (by decide) rfl rfl (g := (mkF m 12 #[.val (.ref a1), .val (.ref a2)] [(.ref b4), (.ref a1)])) rfl rfl (hb hby d3_12)
  refine own_go st6 ?_
  have Fw6 := (F_records_a1.ext E4).same W6
  have K6 : Keep h0 h6 [a1] := K4.wr W6 (Or.inl (List.mem_of_getElem? (i := 0) rfl))
  have N6 := Fr.snoc X6 N0 g_a1
  show own_Go p.tables e below _ (T6.setTop (mkF m 15 #[.val (.ref a1), .val (.ref a2)] []))
  refine own_ret0 X6 Bd.notSynchronized hx Bd.returns (hb hby d3_15) (show Q3 Z a1 a2 x0 x1 x2 x3 kc u_records_a1 h0 n0 _ T6.heap _ from by rw [e6]; exact ⟨rfl, N6, K6, ((E_a1.ext E4).wr W6), (g4 ▸ Fw6), (g4 ▸ (B4.wr W6)), (g4 ▸ (V4.other W6 (Ne.symm (Nat.ne_of_lt (Nat.lt_of_lt_of_le E_a1.lt (Nat.le_of_eq g4.symm))))))⟩) (by decide) (by decide)
theorem d5_0 : decode method_3_code 0 = .ok (.iload_n 1, 1) := by decide +kernel
theorem d5_1 : decode method_3_code 1 = .ok (.ifCond .eq 13, 3) := by decide +kernel
theorem d5_4 : decode method_3_code 4 = .ok (.bipush 31, 2) := by decide +kernel
theorem d5_6 : decode method_3_code 6 = .ok (.iload_n 0, 1) := by decide +kernel
theorem d5_7 : decode method_3_code 7 = .ok (.imul, 1) := by decide +kernel
theorem d5_8 : decode method_3_code 8 = .ok (.lload_n 2, 1) := by decide +kernel
theorem d5_9 : decode method_3_code 9 = .ok (.invokestatic 7, 3) := by decide +kernel
theorem d5_12 : decode method_3_code 12 = .ok (.iadd, 1) := by decide +kernel
theorem d5_13 : decode method_3_code 13 = .ok (.ireturn, 1) := by decide +kernel
theorem d5_14 : decode method_3_code 14 = .ok (.iload_n 0, 1) := by decide +kernel
theorem d5_15 : decode method_3_code 15 = .ok (.ireturn, 1) := by decide +kernel
theorem pn_5 : plainName "com/example/outis/outis/measures/RecordCountsHashOfRunPinLaw" = true := by first | (simp [plainName, overriddenIn]; done) | decide +kernel
theorem pd_5 : parseMethodDescriptor "(J)I" = some ⟨[.long], some .int⟩ := by decide +kernel
theorem ef_5 (m : MethodId) (p1 : Int32) (p2 : Int32) (q3 : Int64) : entryFrame m #[(.int p1), (.int p2), (.long q3)] 4 = mkF m 0 #[.val (.int p1), .val (.int p2), .val (.long q3), .second] [] := by first | (simp [entryFrame, mkF, argsToLocals, Value.category]; done) | rfl
def own_f5 (p1 : Int32) (p2 : Int32) (q3 : Int64) : Int32 :=
  if p2 = (0 : Int32) then p1
  else (((31 : Int32) * p1) + (own_f6 q3))
def Q5 (Z : State) (p1 : Int32) (p2 : Int32) (q3 : Int64) (h0 : Heap) (n0 : Nat) (v : Option Value) (h : Heap) (L : List Loc) : Prop := v = some (.int (own_f5 p1 p2 q3)) ∧ Fr n0 L ∧ h = h0
set_option maxRecDepth 65536 in
set_option maxHeartbeats 40000000 in
theorem rm5 (l : Launch) (Z : State) (a0 : Array Value) (hw : ∀ d ∈ tables_1, d.before a0 Z = true) (ws : List Jvm.Cond) (p1 : Int32) (p2 : Int32) (q3 : Int64) (h0 : Heap) (n0 : Nat) (Z0 : n0 ≤ h0.size) :
    MetFree l (⟨"com/example/outis/outis/measures/RecordCountsHashOfRunPinLaw", "step", "(IZJ)I"⟩ : MethodName) (head1 (Jvm.Cond.code (⟨"com/example/outis/outis/measures/RecordCountsHashOfRunPinLaw", "step", "(IZJ)I"⟩ : MethodName) method_3_code 4 (some .int) :: ws) ({ frames := 1, cells := 0, slots := 0, locals := 14 } : Room)) (fun a U => a = #[(.int p1), (.int p2), (.long q3)] ∧ Z.Warmed39 U.vm ∧ U.heap = h0) (fun _ _ _ _ _ => True) (fun _ U o U' => ∃ v L, o = .returned v ∧ Q5 Z p1 p2 q3 h0 n0 v U'.heap L ∧ FrameEnd U o U' L ({ frames := 1, cells := 0, slots := 0, locals := 14 } : Room).cells ({ frames := 1, cells := 0, slots := 0, locals := 14 } : Room).slots) := by
  refine MetFree.of_bodySF (plainFor_of_name pn_5) hisR ?_
  intro p e s m args below meth c s₁ Bd hml0 hP hK
  obtain ⟨rfl, hZ, hh⟩ := hP
  have hx := Bd.exec
  have hby := Bd.bytes
  have hml : c.maxLocals = 4 := hml0
  have hown : s.vm.findClass "com/example/outis/outis/measures/RecordCountsHashOfRunPinLaw" = some m.cls := findClass_of_methodNamed Bd.named
  have hnm := (name_of_methodNamed Bd.named Bd.method).1
  have X0 : Stand p l e ({ frames := 1, cells := 0, slots := 0, locals := 14 } : Room) s m #[(.int p1), (.int p2), (.long q3)] below meth c s₁ [] 0 0 := Stand.of_body Bd
  have e0 : s₁.heap = h0 := by rw [← hh, Bd.state]; rfl
  have N0 := Fr.nil n0
  show own_Go p.tables e below (own_Fin below s (Q5 Z p1 p2 q3 h0 n0) ({ frames := 1, cells := 0, slots := 0, locals := 14 } : Room).cells ({ frames := 1, cells := 0, slots := 0, locals := 14 } : Room).slots) (s₁.setTop (entryFrame m #[(.int p1), (.int p2), (.long q3)] 4))
  refine own_go (S' := s₁.setTop (mkF m 0 #[.val (.int p1), .val (.int p2), .val (.long q3), .second] [])) (fun t k => castTop (ef_5 m p1 p2 q3) k) ?_
  show own_Go p.tables e below _ (s₁.setTop (mkF m 0 #[.val (.int p1), .val (.int p2), .val (.long q3), .second] []))
  refine own_go (fun _ => XS.iloadN X0.here hx rfl (hb hby d5_0) rfl) ?_
  show own_Go p.tables e below _ (s₁.setTop (mkF m 1 #[.val (.int p1), .val (.int p2), .val (.long q3), .second] [(.int p2)]))
  by_cases hc4_1 : p2 = (0 : Int32)
  · skip
    refine own_go (fun _ => XS.ifYes X0.here hx rfl (pc0 := 1) (pc' := 14) rfl (hb hby d5_1) rfl ((if0 _ _).trans (teq hc4_1).1) (by decide) (by decide)) ?_
    show own_Go p.tables e below _ (s₁.setTop (mkF m 14 #[.val (.int p1), .val (.int p2), .val (.long q3), .second] []))
    refine own_go (fun _ => XS.iloadN X0.here hx rfl (hb hby d5_14) rfl) ?_
    show own_Go p.tables e below _ (s₁.setTop (mkF m 15 #[.val (.int p1), .val (.int p2), .val (.long q3), .second] [(.int p1)]))
    refine own_retI X0 Bd.notSynchronized hx Bd.returns (hb hby d5_15) (show Q5 Z p1 p2 q3 h0 n0 _ s₁.heap _ from by rw [e0]; exact ⟨(own_val ((if_pos hc4_1).trans rfl)), N0, rfl⟩) (by decide) (by decide)
  · skip
    refine own_go (fun _ => XS.ifNo X0.here hx rfl (hb hby d5_1) rfl ((if0 _ _).trans (feq hc4_1).1)) ?_
    show own_Go p.tables e below _ (s₁.setTop (mkF m 4 #[.val (.int p1), .val (.int p2), .val (.long q3), .second] []))
    refine own_go (fun _ => XS.bipush X0.here hx rfl (hb hby d5_4)) ?_
    show own_Go p.tables e below _ (s₁.setTop (mkF m 6 #[.val (.int p1), .val (.int p2), .val (.long q3), .second] [(.int (31 : Int32))]))
    refine own_go (fun _ => XS.iloadN X0.here hx rfl (hb hby d5_6) rfl) ?_
    show own_Go p.tables e below _ (s₁.setTop (mkF m 7 #[.val (.int p1), .val (.int p2), .val (.long q3), .second] [(.int p1), (.int (31 : Int32))]))
    refine own_go (fun _ => XS.imul X0.here hx rfl (hb hby d5_7) rfl) ?_
    show own_Go p.tables e below _ (s₁.setTop (mkF m 8 #[.val (.int p1), .val (.int p2), .val (.long q3), .second] [(.int ((31 : Int32) * p1))]))
    refine own_go (fun _ => XS.lloadN X0.here hx rfl (hb hby d5_8) rfl) ?_
    show own_Go p.tables e below _ (s₁.setTop (mkF m 9 #[.val (.int p1), .val (.int p2), .val (.long q3), .second] [(.long q3), (.int ((31 : Int32) * p1))]))
    obtain ⟨_, _, ⟨T5, L5, k5, n5⟩, -, X5, ⟨Lc5, hQ5, l5, y5, z5⟩, st5⟩ := Jvm.LawKit.callS X0 hx (y := (⟨"com/example/outis/outis/measures/RecordCountsHashOfRunPinLaw", "hc", "(J)I"⟩ : MethodName)) hown (mvT hZ (hw _ (List.mem_of_getElem? (i := 33) rfl))) (mvT hZ (hw _ (List.mem_of_getElem? (i := 34) rfl))) (mvT hZ (hw _ (List.mem_of_getElem? (i := 31) rfl))) (mvT hZ (hw _ (List.mem_of_getElem? (i := 35) rfl))) (by decide) (backOf (W := 1) (rm6 l Z a0 hw [] q3 h0 n0 Z0 ) hZ (hw _ (List.mem_of_getElem? (i := 35) rfl)) (hw _ (List.mem_of_getElem? (i := 31) rfl)) (by decide) (by decide)) (g := (mkF m 9 #[.val (.int p1), .val (.int p2), .val (.long q3), .second] [(.long q3), (.int ((31 : Int32) * p1))])) rfl (by rw [hml]; rfl) (argsL := [(.long q3)]) (rest := [(.int ((31 : Int32) * p1))]) (lenOf pd_5 rfl) rfl (by show 2 * 0 + _ ≤ _; exact Nat.le_of_eq rfl) (hb hby d5_9) (fun _ _ => ⟨rfl, e0, (by decide : 0 + 0 ≤ _), (by decide : 0 + 0 ≤ _)⟩)
    dsimp only [Pt.U, Pt.locs, Pt.cells, Pt.slots] at X5 l5 y5 z5 st5 hQ5
    subst l5 y5 z5
    obtain ⟨rfl, N5q, e5⟩ := hQ5
    have N5 := Fr.app N0 N5q
    refine own_go st5 ?_
    show own_Go p.tables e below _ (T5.setTop (mkF m 12 #[.val (.int p1), .val (.int p2), .val (.long q3), .second] [(.int (own_f6 q3)), (.int ((31 : Int32) * p1))]))
    refine own_go (fun _ => XS.iadd X5.here hx rfl (hb hby d5_12) rfl) ?_
    show own_Go p.tables e below _ (T5.setTop (mkF m 13 #[.val (.int p1), .val (.int p2), .val (.long q3), .second] [(.int (((31 : Int32) * p1) + (own_f6 q3)))]))
    refine own_retI X5 Bd.notSynchronized hx Bd.returns (hb hby d5_13) (show Q5 Z p1 p2 q3 h0 n0 _ T5.heap _ from by rw [e5]; exact ⟨(own_val ((if_neg hc4_1).trans rfl)), N5, rfl⟩) (by decide) (by decide)
def own_at (x0 x1 x2 x3 : Int64) : Nat → Int64
  | 0 => x0
  | 1 => x1
  | 2 => x2
  | _ => x3
/-- k turns from place i on, acc so far -/
def own_run (f : Nat → Int64) : Nat → Nat → Int32 → Int32
  | 0, _, acc => acc
  | k + 1, i, acc => own_run f k (i + 1) (((31 : Int32) * acc) + (own_f8 (f i)))
theorem own_of {n : Nat} (hn : n ≤ 5) : (Int32.ofNat n).toInt = n := Int32.toInt_ofNat_of_lt (by omega)
theorem own_lt {i n : Nat} (h : i < n) (hn : n ≤ 4) : Int32.ofNat i < Int32.ofNat n := by
  rw [Int32.lt_iff_toInt_lt, own_of (by omega), own_of (by omega)]
  omega
theorem own_in {i : Nat} (h : i < 4) : ¬ Int32.ofNat i < 0 ∧ Int32.ofNat i < 4 := by
  rw [Int32.lt_iff_toInt_lt, Int32.lt_iff_toInt_lt, own_of (by omega)]
  have e0 : (0 : Int32).toInt = 0 := rfl
  have e4 : (4 : Int32).toInt = 4 := rfl
  omega
theorem own_get {x0 x1 x2 x3 : Int64} {i : Nat} (h : i < 4) {d : Value} : [Value.long x0, .long x1, .long x2, .long x3].getD (Int32.ofNat i).toNatClampNeg d = .long (own_at x0 x1 x2 x3 i) := by
  have e : (Int32.ofNat i).toNatClampNeg = i := by rw [Int32.toNatClampNeg, own_of (by omega)]; rfl
  rw [e]
  rcases i with _ | _ | _ | _ | i
  · rfl
  · rfl
  · rfl
  · rfl
  · omega
theorem own_one (i : Nat) : Int32.ofNat i + (1 : Int32) = Int32.ofNat (i + 1) := (Int32.ofNat_add i 1).symm
theorem own_five (x : Int32) : 0 ≤ ((x &&& (2147483647 : Int32)) % (5 : Int32)).toInt ∧ ((x &&& (2147483647 : Int32)) % (5 : Int32)).toInt ≤ 4 := by
  have h1 := (c_and x 2147483647 (by decide)).1
  have h2 := (c_irem (x &&& 2147483647) 5 5 rfl).1 h1
  rw [h2]
  omega
theorem own_nat {x : Int32} {n : Nat} (h : x.toInt = n) (hn : n ≤ 5) : x = Int32.ofNat n := Int32.toInt_inj.mp (by rw [h, own_of hn])
theorem own_range (p5 p6 : Int32) : ∃ a k : Nat, a + k ≤ 4 ∧ own_f1 ((p5 &&& (2147483647 : Int32)) % (5 : Int32)) ((p6 &&& (2147483647 : Int32)) % (5 : Int32)) = Int32.ofNat a ∧ own_f2 ((p5 &&& (2147483647 : Int32)) % (5 : Int32)) ((p6 &&& (2147483647 : Int32)) % (5 : Int32)) = Int32.ofNat (a + k) := by
  have h1 := own_five p5
  have h2 := own_five p6
  generalize (p5 &&& (2147483647 : Int32)) % (5 : Int32) = x at *
  generalize (p6 &&& (2147483647 : Int32)) % (5 : Int32) = y at *
  by_cases q : x.toInt ≤ y.toInt
  · refine ⟨x.toInt.toNat, y.toInt.toNat - x.toInt.toNat, by omega, ?_, ?_⟩
    · unfold own_f1
      rw [if_neg (by rw [Int32.lt_iff_toInt_lt]; omega)]
      exact own_nat (by omega) (by omega)
    · unfold own_f2
      by_cases r : x < y
      · rw [if_pos r]; exact own_nat (by omega) (by omega)
      · rw [if_neg r]; rw [Int32.lt_iff_toInt_lt] at r; exact own_nat (by omega) (by omega)
  · refine ⟨y.toInt.toNat, x.toInt.toNat - y.toInt.toNat, by omega, ?_, ?_⟩
    · unfold own_f1
      rw [if_pos (by rw [Int32.lt_iff_toInt_lt]; omega)]
      exact own_nat (by omega) (by omega)
    · unfold own_f2
      rw [if_neg (by rw [Int32.lt_iff_toInt_lt]; omega)]
      exact own_nat (by omega) (by omega)
theorem d7_0 : decode prog_21_method_4_code 0 = .ok (.iconst 1, 1) := by decide +kernel
theorem d7_1 : decode prog_21_method_4_code 1 = .ok (.istore_n 3, 1) := by decide +kernel
theorem d7_2 : decode prog_21_method_4_code 2 = .ok (.iload_n 1, 1) := by decide +kernel
theorem d7_3 : decode prog_21_method_4_code 3 = .ok (.istore 4, 2) := by decide +kernel
theorem d7_5 : decode prog_21_method_4_code 5 = .ok (.iload 4, 2) := by decide +kernel
theorem d7_7 : decode prog_21_method_4_code 7 = .ok (.iload_n 2, 1) := by decide +kernel
theorem d7_8 : decode prog_21_method_4_code 8 = .ok (.if_icmp .ge 25, 3) := by decide +kernel
theorem d7_11 : decode prog_21_method_4_code 11 = .ok (.bipush 31, 2) := by decide +kernel
theorem d7_13 : decode prog_21_method_4_code 13 = .ok (.iload_n 3, 1) := by decide +kernel
theorem d7_14 : decode prog_21_method_4_code 14 = .ok (.imul, 1) := by decide +kernel
theorem d7_15 : decode prog_21_method_4_code 15 = .ok (.aload_n 0, 1) := by decide +kernel
theorem d7_16 : decode prog_21_method_4_code 16 = .ok (.getfield 13, 3) := by decide +kernel
theorem d7_19 : decode prog_21_method_4_code 19 = .ok (.iload 4, 2) := by decide +kernel
theorem d7_21 : decode prog_21_method_4_code 21 = .ok (.laload, 1) := by decide +kernel
theorem d7_22 : decode prog_21_method_4_code 22 = .ok (.invokestatic 54, 3) := by decide +kernel
theorem d7_25 : decode prog_21_method_4_code 25 = .ok (.iadd, 1) := by decide +kernel
theorem d7_26 : decode prog_21_method_4_code 26 = .ok (.istore_n 3, 1) := by decide +kernel
theorem d7_27 : decode prog_21_method_4_code 27 = .ok (.iinc 4 1, 3) := by decide +kernel
theorem d7_30 : decode prog_21_method_4_code 30 = .ok (.goto (-25), 3) := by decide +kernel
theorem d7_33 : decode prog_21_method_4_code 33 = .ok (.iload_n 3, 1) := by decide +kernel
theorem d7_34 : decode prog_21_method_4_code 34 = .ok (.ireturn, 1) := by decide +kernel
theorem pn_7 : plainName "com/example/outis/outis/measures/RecordCounts" = true := by first | (simp [plainName, overriddenIn]; done) | decide +kernel
theorem ef_7 (m : MethodId) (a1 : Addr) (p2 : Int32) (p3 : Int32) : entryFrame m #[(.ref a1), (.int p2), (.int p3)] 5 = mkF m 0 #[.val (.ref a1), .val (.int p2), .val (.int p3), .unset, .unset] [] := by first | (simp [entryFrame, mkF, argsToLocals, Value.category]; done) | rfl
def Q7 (Z : State) (a1 : Addr) (p2 : Int32) (p3 : Int32) (w : Addr) (x0 : Int64) (x1 : Int64) (x2 : Int64) (x3 : Int64) (kc : ClassId) (a : Nat) (k : Nat) (h0 : Heap) (n0 : Nat) (v : Option Value) (h : Heap) (L : List Loc) : Prop := v = some (.int (own_run (own_at x0 x1 x2 x3) k a 1)) ∧ Fr n0 L ∧ h = h0
set_option maxRecDepth 65536 in
set_option maxHeartbeats 40000000 in
theorem rm7 (l : Launch) (Z : State) (a0 : Array Value) (hw : ∀ d ∈ tables_1, d.before a0 Z = true) (ws : List Jvm.Cond) (a1 : Addr) (p2 : Int32) (p3 : Int32) (w : Addr) (x0 : Int64) (x1 : Int64) (x2 : Int64) (x3 : Int64) (kc : ClassId) (a : Nat) (k : Nat) (h0 : Heap) (n0 : Nat) (Z0 : n0 ≤ h0.size) (F_records_a1 : Fld Z h0 a1 "com/example/outis/outis/measures/RecordCounts" "records" "[J" (.ref w)) (V_w : Arv Z h0 w kc .long (4 : Int32) [(.long x0), (.long x1), (.long x2), (.long x3)] (.long (0 : Int64))) (hp2 : p2 = Int32.ofNat a) (hp3 : p3 = Int32.ofNat (a + k)) (hak : a + k ≤ 4) :
    MetFree l (⟨"com/example/outis/outis/measures/RecordCounts", "hashOfRun", "(II)I"⟩ : MethodName) (head1 (Jvm.Cond.code (⟨"com/example/outis/outis/measures/RecordCounts", "hashOfRun", "(II)I"⟩ : MethodName) prog_21_method_4_code 5 (some .int) :: ws) ({ frames := 1, cells := 0, slots := 0, locals := 14 } : Room)) (fun a U => a = #[(.ref a1), (.int p2), (.int p3)] ∧ Z.Warmed39 U.vm ∧ U.heap = h0) (fun _ _ _ _ _ => True) (fun _ U o U' => ∃ v L, o = .returned v ∧ Q7 Z a1 p2 p3 w x0 x1 x2 x3 kc a k h0 n0 v U'.heap L ∧ FrameEnd U o U' L ({ frames := 1, cells := 0, slots := 0, locals := 14 } : Room).cells ({ frames := 1, cells := 0, slots := 0, locals := 14 } : Room).slots) := by
  refine MetFree.of_bodySF (plainFor_of_name pn_7) hisR ?_
  intro p e s m args below meth c s₁ Bd hml0 hP hK
  obtain ⟨rfl, hZ, hh⟩ := hP
  have hx := Bd.exec
  have hby := Bd.bytes
  have hml : c.maxLocals = 5 := hml0
  have hown : s.vm.findClass "com/example/outis/outis/measures/RecordCounts" = some m.cls := findClass_of_methodNamed Bd.named
  have hnm := (name_of_methodNamed Bd.named Bd.method).1
  have X0 : Stand p l e ({ frames := 1, cells := 0, slots := 0, locals := 14 } : Room) s m #[(.ref a1), (.int p2), (.int p3)] below meth c s₁ [] 0 0 := Stand.of_body Bd
  have e0 : s₁.heap = h0 := by rw [← hh, Bd.state]; rfl
  have N0 := Fr.nil n0
  show own_Go p.tables e below (own_Fin below s (Q7 Z a1 p2 p3 w x0 x1 x2 x3 kc a k h0 n0) ({ frames := 1, cells := 0, slots := 0, locals := 14 } : Room).cells ({ frames := 1, cells := 0, slots := 0, locals := 14 } : Room).slots) (s₁.setTop (entryFrame m #[(.ref a1), (.int p2), (.int p3)] 5))
  refine own_go (S' := s₁.setTop (mkF m 0 #[.val (.ref a1), .val (.int p2), .val (.int p3), .unset, .unset] [])) (fun t k => castTop (ef_7 m a1 p2 p3) k) ?_
  show own_Go p.tables e below _ (s₁.setTop (mkF m 0 #[.val (.ref a1), .val (.int p2), .val (.int p3), .unset, .unset] []))
  refine own_go (fun _ => XS.iconst X0.here hx rfl (hb hby d7_0)) ?_
  show own_Go p.tables e below _ (s₁.setTop (mkF m 1 #[.val (.ref a1), .val (.int p2), .val (.int p3), .unset, .unset] [(.int (1 : Int32))]))
  refine own_go (fun _ => XS.istoreN X0.here hx rfl (hb hby d7_1) rfl (l' := #[.val (.ref a1), .val (.int p2), .val (.int p3), .val (.int (1 : Int32)), .unset]) rfl) ?_
  show own_Go p.tables e below _ (s₁.setTop (mkF m 2 #[.val (.ref a1), .val (.int p2), .val (.int p3), .val (.int (1 : Int32)), .unset] []))
  refine own_go (fun _ => XS.iloadN X0.here hx rfl (hb hby d7_2) rfl) ?_
  show own_Go p.tables e below _ (s₁.setTop (mkF m 3 #[.val (.ref a1), .val (.int p2), .val (.int p3), .val (.int (1 : Int32)), .unset] [(.int p2)]))
  refine own_go (fun _ => XS.istore X0.here hx rfl (hb hby d7_3) rfl (l' := #[.val (.ref a1), .val (.int p2), .val (.int p3), .val (.int (1 : Int32)), .val (.int p2)]) rfl) ?_
  show own_Go p.tables e below _ (s₁.setTop (mkF m 5 #[.val (.ref a1), .val (.int p2), .val (.int p3), .val (.int (1 : Int32)), .val (.int p2)] []))
  have LP : ∀ (k' i : Nat) (acc : Int32) (T' : State) (locs' : List Loc), i + k' = a + k → own_run (own_at x0 x1 x2 x3) k' i acc = own_run (own_at x0 x1 x2 x3) k a 1 → Stand p l e ({ frames := 1, cells := 0, slots := 0, locals := 14 } : Room) s m #[(.ref a1), (.int p2), (.int p3)] below meth c T' locs' 0 0 → Fr n0 locs' → T'.heap = h0 → own_Go p.tables e below (own_Fin below s (Q7 Z a1 p2 p3 w x0 x1 x2 x3 kc a k h0 n0) ({ frames := 1, cells := 0, slots := 0, locals := 14 } : Room).cells ({ frames := 1, cells := 0, slots := 0, locals := 14 } : Room).slots) (T'.setTop (mkF m 5 #[.val (.ref a1), .val (.int p2), .val (.int p3), .val (.int acc), .val (.int (Int32.ofNat i))] [])) := by
    intro k'
    induction k' with
    | zero =>
      intro i acc T' locs' hi hr X' N' e'
      have hlt : ¬ (Int32.ofNat i) < p3 := by rw [hp3, show i = a + k by omega]; exact Int32.lt_irrefl
      have hv : own_run (own_at x0 x1 x2 x3) k a 1 = acc := hr.symm
      show own_Go p.tables e below _ (T'.setTop (mkF m 5 #[.val (.ref a1), .val (.int p2), .val (.int p3), .val (.int acc), .val (.int (Int32.ofNat i))] []))
      refine own_go (fun _ => XS.iload X'.here hx rfl (hb hby d7_5) rfl) ?_
      show own_Go p.tables e below _ (T'.setTop (mkF m 7 #[.val (.ref a1), .val (.int p2), .val (.int p3), .val (.int acc), .val (.int (Int32.ofNat i))] [(.int (Int32.ofNat i))]))
      refine own_go (fun _ => XS.iloadN X'.here hx rfl (hb hby d7_7) rfl) ?_
      show own_Go p.tables e below _ (T'.setTop (mkF m 8 #[.val (.ref a1), .val (.int p2), .val (.int p3), .val (.int acc), .val (.int (Int32.ofNat i))] [(.int p3), (.int (Int32.ofNat i))]))
      refine own_go (fun _ => XS.icmpYes X'.here hx rfl (pc0 := 8) (pc' := 33) rfl (hb hby d7_8) rfl (flt hlt).2.1 (by decide) (by decide)) ?_
      show own_Go p.tables e below _ (T'.setTop (mkF m 33 #[.val (.ref a1), .val (.int p2), .val (.int p3), .val (.int acc), .val (.int (Int32.ofNat i))] []))
      refine own_go (fun _ => XS.iloadN X'.here hx rfl (hb hby d7_33) rfl) ?_
      show own_Go p.tables e below _ (T'.setTop (mkF m 34 #[.val (.ref a1), .val (.int p2), .val (.int p3), .val (.int acc), .val (.int (Int32.ofNat i))] [(.int acc)]))
      refine own_retI X' Bd.notSynchronized hx Bd.returns (hb hby d7_34) (show Q7 Z a1 p2 p3 w x0 x1 x2 x3 kc a k h0 n0 _ T'.heap _ from by rw [e']; exact ⟨(own_val hv), N', rfl⟩) (by decide) (by decide)
    | succ k' ih =>
      intro i acc T' locs' hi hr X' N' e'
      have hlt : (Int32.ofNat i) < p3 := by rw [hp3]; exact own_lt (by omega) (by omega)
      show own_Go p.tables e below _ (T'.setTop (mkF m 5 #[.val (.ref a1), .val (.int p2), .val (.int p3), .val (.int acc), .val (.int (Int32.ofNat i))] []))
      refine own_go (fun _ => XS.iload X'.here hx rfl (hb hby d7_5) rfl) ?_
      show own_Go p.tables e below _ (T'.setTop (mkF m 7 #[.val (.ref a1), .val (.int p2), .val (.int p3), .val (.int acc), .val (.int (Int32.ofNat i))] [(.int (Int32.ofNat i))]))
      refine own_go (fun _ => XS.iloadN X'.here hx rfl (hb hby d7_7) rfl) ?_
      show own_Go p.tables e below _ (T'.setTop (mkF m 8 #[.val (.ref a1), .val (.int p2), .val (.int p3), .val (.int acc), .val (.int (Int32.ofNat i))] [(.int p3), (.int (Int32.ofNat i))]))
      refine own_go (fun _ => XS.icmpNo X'.here hx rfl (hb hby d7_8) rfl (tlt hlt).2.1) ?_
      show own_Go p.tables e below _ (T'.setTop (mkF m 11 #[.val (.ref a1), .val (.int p2), .val (.int p3), .val (.int acc), .val (.int (Int32.ofNat i))] []))
      refine own_go (fun _ => XS.bipush X'.here hx rfl (hb hby d7_11)) ?_
      show own_Go p.tables e below _ (T'.setTop (mkF m 13 #[.val (.ref a1), .val (.int p2), .val (.int p3), .val (.int acc), .val (.int (Int32.ofNat i))] [(.int (31 : Int32))]))
      refine own_go (fun _ => XS.iloadN X'.here hx rfl (hb hby d7_13) rfl) ?_
      show own_Go p.tables e below _ (T'.setTop (mkF m 14 #[.val (.ref a1), .val (.int p2), .val (.int p3), .val (.int acc), .val (.int (Int32.ofNat i))] [(.int acc), (.int (31 : Int32))]))
      refine own_go (fun _ => XS.imul X'.here hx rfl (hb hby d7_14) rfl) ?_
      show own_Go p.tables e below _ (T'.setTop (mkF m 15 #[.val (.ref a1), .val (.int p2), .val (.int p3), .val (.int acc), .val (.int (Int32.ofNat i))] [(.int ((31 : Int32) * acc))]))
      refine own_go (fun _ => XS.aloadN X'.here hx rfl (hb hby d7_15) rfl rfl) ?_
      show own_Go p.tables e below _ (T'.setTop (mkF m 16 #[.val (.ref a1), .val (.int p2), .val (.int p3), .val (.int acc), .val (.int (Int32.ofNat i))] [(.ref a1), (.int ((31 : Int32) * acc))]))
      obtain ⟨T1, X1, e1, st1⟩ := getF X' hx hZ hown (host := "") (Or.inl (hw _ (List.mem_of_getElem? (i := 27) rfl))) Via.refl e' F_records_a1 (g := (mkF m 16 #[.val (.ref a1), .val (.int p2), .val (.int p3), .val (.int acc), .val (.int (Int32.ofNat i))] [(.ref a1), (.int ((31 : Int32) * acc))])) rfl rfl (hb hby d7_16)
      refine own_go st1 ?_
      show own_Go p.tables e below _ (T1.setTop (mkF m 19 #[.val (.ref a1), .val (.int p2), .val (.int p3), .val (.int acc), .val (.int (Int32.ofNat i))] [(.ref w), (.int ((31 : Int32) * acc))]))
      refine own_go (fun _ => XS.iload X1.here hx rfl (hb hby d7_19) rfl) ?_
      show own_Go p.tables e below _ (T1.setTop (mkF m 21 #[.val (.ref a1), .val (.int p2), .val (.int p3), .val (.int acc), .val (.int (Int32.ofNat i))] [(.int (Int32.ofNat i)), (.ref w), (.int ((31 : Int32) * acc))]))
      obtain ⟨cl2, Ar2, -, S2, -, Hh2, -⟩ := id V_w
      have hin2 : ¬ (Int32.ofNat i < 0 ∨ cl2.slots.size ≤ (Int32.ofNat i).toNatClampNeg) := inb_of S2 (own_in (by omega))
      have st2 := X1.laload hx (j := Int32.ofNat i) (v := .long (own_at x0 x1 x2 x3 i)) (by rw [e1]; exact Ar2.1) (State.isArrayOf_alike hZ.alike Ar2.2.1) Ar2.2.2 hin2 (Hh2.at hin2 (own_get (by omega))) (g := (mkF m 21 #[.val (.ref a1), .val (.int p2), .val (.int p3), .val (.int acc), .val (.int (Int32.ofNat i))] [(.int (Int32.ofNat i)), (.ref w), (.int ((31 : Int32) * acc))])) rfl rfl (hb hby d7_21)
      refine own_go st2 ?_
      show own_Go p.tables e below _ (T1.setTop (mkF m 22 #[.val (.ref a1), .val (.int p2), .val (.int p3), .val (.int acc), .val (.int (Int32.ofNat i))] [(.long (own_at x0 x1 x2 x3 i)), (.int ((31 : Int32) * acc))]))
      obtain ⟨_, _, ⟨T3, L3, k3, n3⟩, -, X3, ⟨Lc3, hQ3, l3, y3, z3⟩, st3⟩ := Jvm.LawKit.callS X1 hx (y := (⟨"java/lang/Long", "hashCode", "(J)I"⟩ : MethodName)) hown (mvT hZ (hw _ (List.mem_of_getElem? (i := 41) rfl))) (mvT hZ (hw _ (List.mem_of_getElem? (i := 42) rfl))) (mvT hZ (hw _ (List.mem_of_getElem? (i := 43) rfl))) (mvT hZ (hw _ (List.mem_of_getElem? (i := 44) rfl))) (by decide) (backOf (W := 1) (rm8 l Z a0 hw [] (own_at x0 x1 x2 x3 i) h0 n0 Z0 ) hZ (hw _ (List.mem_of_getElem? (i := 44) rfl)) (hw _ (List.mem_of_getElem? (i := 43) rfl)) (by decide) (by decide)) (g := (mkF m 22 #[.val (.ref a1), .val (.int p2), .val (.int p3), .val (.int acc), .val (.int (Int32.ofNat i))] [(.long (own_at x0 x1 x2 x3 i)), (.int ((31 : Int32) * acc))])) rfl (by rw [hml]; rfl) (argsL := [(.long (own_at x0 x1 x2 x3 i))]) (rest := [(.int ((31 : Int32) * acc))]) (lenOf pd_5 rfl) rfl (by show 2 * 0 + _ ≤ _; exact Nat.le_of_eq rfl) (hb hby d7_22) (fun _ _ => ⟨rfl, e1, (by decide : 0 + 0 ≤ _), (by decide : 0 + 0 ≤ _)⟩)
      dsimp only [Pt.U, Pt.locs, Pt.cells, Pt.slots] at X3 l3 y3 z3 st3 hQ3
      subst l3 y3 z3
      obtain ⟨rfl, N3q, e3⟩ := hQ3
      have N3 := Fr.app N' N3q
      refine own_go st3 ?_
      show own_Go p.tables e below _ (T3.setTop (mkF m 25 #[.val (.ref a1), .val (.int p2), .val (.int p3), .val (.int acc), .val (.int (Int32.ofNat i))] [(.int (own_f8 (own_at x0 x1 x2 x3 i))), (.int ((31 : Int32) * acc))]))
      refine own_go (fun _ => XS.iadd X3.here hx rfl (hb hby d7_25) rfl) ?_
      show own_Go p.tables e below _ (T3.setTop (mkF m 26 #[.val (.ref a1), .val (.int p2), .val (.int p3), .val (.int acc), .val (.int (Int32.ofNat i))] [(.int (((31 : Int32) * acc) + (own_f8 (own_at x0 x1 x2 x3 i))))]))
      refine own_go (fun _ => XS.istoreN X3.here hx rfl (hb hby d7_26) rfl (l' := #[.val (.ref a1), .val (.int p2), .val (.int p3), .val (.int (((31 : Int32) * acc) + (own_f8 (own_at x0 x1 x2 x3 i)))), .val (.int (Int32.ofNat i))]) rfl) ?_
      show own_Go p.tables e below _ (T3.setTop (mkF m 27 #[.val (.ref a1), .val (.int p2), .val (.int p3), .val (.int (((31 : Int32) * acc) + (own_f8 (own_at x0 x1 x2 x3 i)))), .val (.int (Int32.ofNat i))] []))
      refine own_go (fun _ => XS.iinc X3.here hx rfl (hb hby d7_27) rfl (l' := #[.val (.ref a1), .val (.int p2), .val (.int p3), .val (.int (((31 : Int32) * acc) + (own_f8 (own_at x0 x1 x2 x3 i)))), .val (.int (Int32.ofNat (i + 1)))]) (by rw [show Int32.ofNat i + Int32.ofInt 1 = Int32.ofNat (i + 1) from own_one i]; rfl)) ?_
      show own_Go p.tables e below _ (T3.setTop (mkF m 30 #[.val (.ref a1), .val (.int p2), .val (.int p3), .val (.int (((31 : Int32) * acc) + (own_f8 (own_at x0 x1 x2 x3 i)))), .val (.int (Int32.ofNat (i + 1)))] []))
      refine own_go (fun _ => XS.goto X3.here hx rfl (pc0 := 30) (pc' := 5) rfl (hb hby d7_30) (by decide) (by decide)) ?_
      show own_Go p.tables e below _ (T3.setTop (mkF m 5 #[.val (.ref a1), .val (.int p2), .val (.int p3), .val (.int (((31 : Int32) * acc) + (own_f8 (own_at x0 x1 x2 x3 i)))), .val (.int (Int32.ofNat (i + 1)))] []))
      refine ih (i + 1) _ _ _ (by omega) ?_ X3 N3 e3
      exact hr
  have LPa := LP k a 1 _ _ rfl rfl X0 N0 e0
  rw [← hp2] at LPa
  exact LPa
def own_v0_77 (p5 : Int32) (p6 : Int32) : Int32 := (if (0 : Int32) < (own_f1 ((p5 &&& (2147483647 : Int32)) % (5 : Int32)) ((p6 &&& (2147483647 : Int32)) % (5 : Int32))) then (0 : Int32) else (if (0 : Int32) < (own_f2 ((p5 &&& (2147483647 : Int32)) % (5 : Int32)) ((p6 &&& (2147483647 : Int32)) % (5 : Int32))) then (1 : Int32) else (0 : Int32)))
def own_v0_102 (p5 : Int32) (p6 : Int32) : Int32 := (if (1 : Int32) < (own_f1 ((p5 &&& (2147483647 : Int32)) % (5 : Int32)) ((p6 &&& (2147483647 : Int32)) % (5 : Int32))) then (0 : Int32) else (if (1 : Int32) < (own_f2 ((p5 &&& (2147483647 : Int32)) % (5 : Int32)) ((p6 &&& (2147483647 : Int32)) % (5 : Int32))) then (1 : Int32) else (0 : Int32)))
def own_v0_127 (p5 : Int32) (p6 : Int32) : Int32 := (if (2 : Int32) < (own_f1 ((p5 &&& (2147483647 : Int32)) % (5 : Int32)) ((p6 &&& (2147483647 : Int32)) % (5 : Int32))) then (0 : Int32) else (if (2 : Int32) < (own_f2 ((p5 &&& (2147483647 : Int32)) % (5 : Int32)) ((p6 &&& (2147483647 : Int32)) % (5 : Int32))) then (1 : Int32) else (0 : Int32)))
def own_v0_153 (p5 : Int32) (p6 : Int32) : Int32 := (if (3 : Int32) < (own_f1 ((p5 &&& (2147483647 : Int32)) % (5 : Int32)) ((p6 &&& (2147483647 : Int32)) % (5 : Int32))) then (0 : Int32) else (if (3 : Int32) < (own_f2 ((p5 &&& (2147483647 : Int32)) % (5 : Int32)) ((p6 &&& (2147483647 : Int32)) % (5 : Int32))) then (1 : Int32) else (0 : Int32)))
theorem own_hash (q : Int64) : own_f8 q = own_f6 q := by
  unfold own_f8 own_f6
  rw [Int64.toInt32_xor]
theorem own_law (q1 q2 q3 q4 : Int64) (p5 p6 : Int32) {a k : Nat} (hak : a + k ≤ 4) (h1 : own_f1 ((p5 &&& (2147483647 : Int32)) % (5 : Int32)) ((p6 &&& (2147483647 : Int32)) % (5 : Int32)) = Int32.ofNat a) (h2 : own_f2 ((p5 &&& (2147483647 : Int32)) % (5 : Int32)) ((p6 &&& (2147483647 : Int32)) % (5 : Int32)) = Int32.ofNat (a + k)) :
    (own_run (own_at q1 q2 q3 q4) k a 1) = (own_f5 (own_f5 (own_f5 (own_f5 (1 : Int32) (own_v0_77 p5 p6) q1) (own_v0_102 p5 p6) q2) (own_v0_127 p5 p6) q3) (own_v0_153 p5 p6) q4) := by
  unfold own_v0_77 own_v0_102 own_v0_127 own_v0_153
  rw [h1, h2]
  have ha : a = 0 ∨ a = 1 ∨ a = 2 ∨ a = 3 ∨ a = 4 := by omega
  have hk : k = 0 ∨ k = 1 ∨ k = 2 ∨ k = 3 ∨ k = 4 := by omega
  rcases ha with rfl | rfl | rfl | rfl | rfl <;> rcases hk with rfl | rfl | rfl | rfl | rfl <;> first | omega | (simp [own_run, own_at, own_hash, own_f5]; done) | (simp [own_run, own_at, own_hash, own_f5]; decide)
theorem pn_0 : plainName "com/example/outis/outis/measures/RecordCountsHashOfRunPinLaw" = true := by first | (simp [plainName, overriddenIn]; done) | decide +kernel
theorem pd_0 : parseMethodDescriptor "(II)I" = some ⟨[.int, .int], some .int⟩ := by decide +kernel
theorem pd_1 : parseMethodDescriptor "([J)V" = some ⟨[(.array .long)], none⟩ := by decide +kernel
theorem pd_4 : parseMethodDescriptor "(IZJ)I" = some ⟨[.int, .boolean, .long], some .int⟩ := by decide +kernel
theorem ef_0 (m : MethodId) (q1 : Int64) (q2 : Int64) (q3 : Int64) (q4 : Int64) (p5 : Int32) (p6 : Int32) : entryFrame m #[(.long q1), (.long q2), (.long q3), (.long q4), (.int p5), (.int p6)] maxLocals = mkF m 0 #[.val (.long q1), .second, .val (.long q2), .second, .val (.long q3), .second, .val (.long q4), .second, .val (.int p5), .val (.int p6), .unset, .unset, .unset, .unset, .unset, .unset, .unset] [] := by first | (simp [entryFrame, mkF, argsToLocals, Value.category, maxLocals]; done) | rfl
def Q0 (Z : State) (q1 : Int64) (q2 : Int64) (q3 : Int64) (q4 : Int64) (p5 : Int32) (p6 : Int32) (h0 : Heap) (n0 : Nat) (v : Option Value) (h : Heap) (L : List Loc) : Prop := v = some (.int (1 : Int32)) ∧ Fr n0 L
set_option maxRecDepth 65536 in
set_option maxHeartbeats 40000000 in
theorem rm0 (l : Launch) (Z : State) (a0 : Array Value) (hw : ∀ d ∈ tables_1, d.before a0 Z = true) (ws : List Jvm.Cond) (q1 : Int64) (q2 : Int64) (q3 : Int64) (q4 : Int64) (p5 : Int32) (p6 : Int32) (h0 : Heap) (n0 : Nat) (Z0 : n0 ≤ h0.size) :
    MetFree l x (head1 (Jvm.Cond.code x code maxLocals ret :: ws) room_1) (fun a U => a = #[(.long q1), (.long q2), (.long q3), (.long q4), (.int p5), (.int p6)] ∧ Z.Warmed39 U.vm ∧ U.heap = h0) (fun _ _ _ _ _ => True) (fun _ U o U' => ∃ v L, o = .returned v ∧ Q0 Z q1 q2 q3 q4 p5 p6 h0 n0 v U'.heap L ∧ FrameEnd U o U' L 16 128) := by
  refine MetFree.of_bodySF (plainFor_of_name pn_0) hisR ?_
  intro p e s m args below meth c s₁ Bd hml0 hP hK
  obtain ⟨rfl, hZ, hh⟩ := hP
  have hx := Bd.exec
  have hby := Bd.bytes
  have hml : c.maxLocals = 17 := hml0
  have hown : s.vm.findClass "com/example/outis/outis/measures/RecordCountsHashOfRunPinLaw" = some m.cls := findClass_of_methodNamed Bd.named
  have hnm := (name_of_methodNamed Bd.named Bd.method).1
  have X0 : Stand p l e room_1 s m #[(.long q1), (.long q2), (.long q3), (.long q4), (.int p5), (.int p6)] below meth c s₁ [] 0 0 := Stand.of_body Bd
  have e0 : s₁.heap = h0 := by rw [← hh, Bd.state]; rfl
  have N0 := Fr.nil n0
  show own_Go p.tables e below (own_Fin below s (Q0 Z q1 q2 q3 q4 p5 p6 h0 n0) 16 128) (s₁.setTop (entryFrame m #[(.long q1), (.long q2), (.long q3), (.long q4), (.int p5), (.int p6)] maxLocals))
  refine own_go (S' := s₁.setTop (mkF m 0 #[.val (.long q1), .second, .val (.long q2), .second, .val (.long q3), .second, .val (.long q4), .second, .val (.int p5), .val (.int p6), .unset, .unset, .unset, .unset, .unset, .unset, .unset] [])) (fun t k => castTop (ef_0 m q1 q2 q3 q4 p5 p6) k) ?_
  show own_Go p.tables e below _ (s₁.setTop (mkF m 0 #[.val (.long q1), .second, .val (.long q2), .second, .val (.long q3), .second, .val (.long q4), .second, .val (.int p5), .val (.int p6), .unset, .unset, .unset, .unset, .unset, .unset, .unset] []))
  refine own_go (fun _ => XS.iload X0.here hx rfl (hb hby at_0) rfl) ?_
  show own_Go p.tables e below _ (s₁.setTop (mkF m 2 #[.val (.long q1), .second, .val (.long q2), .second, .val (.long q3), .second, .val (.long q4), .second, .val (.int p5), .val (.int p6), .unset, .unset, .unset, .unset, .unset, .unset, .unset] [(.int p5)]))
  refine own_go (X0.ldcInt hx hown (mvT hZ (hw _ (List.mem_of_getElem? (i := 0) rfl))) (g := (mkF m 2 #[.val (.long q1), .second, .val (.long q2), .second, .val (.long q3), .second, .val (.long q4), .second, .val (.int p5), .val (.int p6), .unset, .unset, .unset, .unset, .unset, .unset, .unset] [(.int p5)])) rfl (hb hby at_2)) ?_
  show own_Go p.tables e below _ (s₁.setTop (mkF m 4 #[.val (.long q1), .second, .val (.long q2), .second, .val (.long q3), .second, .val (.long q4), .second, .val (.int p5), .val (.int p6), .unset, .unset, .unset, .unset, .unset, .unset, .unset] [(.int (2147483647 : Int32)), (.int p5)]))
  refine own_go (fun _ => XS.iand X0.here hx rfl (hb hby at_4) rfl) ?_
  show own_Go p.tables e below _ (s₁.setTop (mkF m 5 #[.val (.long q1), .second, .val (.long q2), .second, .val (.long q3), .second, .val (.long q4), .second, .val (.int p5), .val (.int p6), .unset, .unset, .unset, .unset, .unset, .unset, .unset] [(.int (p5 &&& (2147483647 : Int32)))]))
  refine own_go (fun _ => XS.iconst X0.here hx rfl (hb hby at_5)) ?_
  show own_Go p.tables e below _ (s₁.setTop (mkF m 6 #[.val (.long q1), .second, .val (.long q2), .second, .val (.long q3), .second, .val (.long q4), .second, .val (.int p5), .val (.int p6), .unset, .unset, .unset, .unset, .unset, .unset, .unset] [(.int (5 : Int32)), (.int (p5 &&& (2147483647 : Int32)))]))
  refine own_go (fun _ => iremM X0 hx rfl (hb hby at_6) rfl (by decide)) ?_
  show own_Go p.tables e below _ (s₁.setTop (mkF m 7 #[.val (.long q1), .second, .val (.long q2), .second, .val (.long q3), .second, .val (.long q4), .second, .val (.int p5), .val (.int p6), .unset, .unset, .unset, .unset, .unset, .unset, .unset] [(.int ((p5 &&& (2147483647 : Int32)) % (5 : Int32)))]))
  refine own_go (fun _ => XS.istore X0.here hx rfl (hb hby at_7) rfl (l' := #[.val (.long q1), .second, .val (.long q2), .second, .val (.long q3), .second, .val (.long q4), .second, .val (.int p5), .val (.int p6), .val (.int ((p5 &&& (2147483647 : Int32)) % (5 : Int32))), .unset, .unset, .unset, .unset, .unset, .unset]) rfl) ?_
  show own_Go p.tables e below _ (s₁.setTop (mkF m 9 #[.val (.long q1), .second, .val (.long q2), .second, .val (.long q3), .second, .val (.long q4), .second, .val (.int p5), .val (.int p6), .val (.int ((p5 &&& (2147483647 : Int32)) % (5 : Int32))), .unset, .unset, .unset, .unset, .unset, .unset] []))
  refine own_go (fun _ => XS.iload X0.here hx rfl (hb hby at_9) rfl) ?_
  show own_Go p.tables e below _ (s₁.setTop (mkF m 11 #[.val (.long q1), .second, .val (.long q2), .second, .val (.long q3), .second, .val (.long q4), .second, .val (.int p5), .val (.int p6), .val (.int ((p5 &&& (2147483647 : Int32)) % (5 : Int32))), .unset, .unset, .unset, .unset, .unset, .unset] [(.int p6)]))
  refine own_go (X0.ldcInt hx hown (mvT hZ (hw _ (List.mem_of_getElem? (i := 0) rfl))) (g := (mkF m 11 #[.val (.long q1), .second, .val (.long q2), .second, .val (.long q3), .second, .val (.long q4), .second, .val (.int p5), .val (.int p6), .val (.int ((p5 &&& (2147483647 : Int32)) % (5 : Int32))), .unset, .unset, .unset, .unset, .unset, .unset] [(.int p6)])) rfl (hb hby at_11)) ?_
  show own_Go p.tables e below _ (s₁.setTop (mkF m 13 #[.val (.long q1), .second, .val (.long q2), .second, .val (.long q3), .second, .val (.long q4), .second, .val (.int p5), .val (.int p6), .val (.int ((p5 &&& (2147483647 : Int32)) % (5 : Int32))), .unset, .unset, .unset, .unset, .unset, .unset] [(.int (2147483647 : Int32)), (.int p6)]))
  refine own_go (fun _ => XS.iand X0.here hx rfl (hb hby at_13) rfl) ?_
  show own_Go p.tables e below _ (s₁.setTop (mkF m 14 #[.val (.long q1), .second, .val (.long q2), .second, .val (.long q3), .second, .val (.long q4), .second, .val (.int p5), .val (.int p6), .val (.int ((p5 &&& (2147483647 : Int32)) % (5 : Int32))), .unset, .unset, .unset, .unset, .unset, .unset] [(.int (p6 &&& (2147483647 : Int32)))]))
  refine own_go (fun _ => XS.iconst X0.here hx rfl (hb hby at_14)) ?_
  show own_Go p.tables e below _ (s₁.setTop (mkF m 15 #[.val (.long q1), .second, .val (.long q2), .second, .val (.long q3), .second, .val (.long q4), .second, .val (.int p5), .val (.int p6), .val (.int ((p5 &&& (2147483647 : Int32)) % (5 : Int32))), .unset, .unset, .unset, .unset, .unset, .unset] [(.int (5 : Int32)), (.int (p6 &&& (2147483647 : Int32)))]))
  refine own_go (fun _ => iremM X0 hx rfl (hb hby at_15) rfl (by decide)) ?_
  show own_Go p.tables e below _ (s₁.setTop (mkF m 16 #[.val (.long q1), .second, .val (.long q2), .second, .val (.long q3), .second, .val (.long q4), .second, .val (.int p5), .val (.int p6), .val (.int ((p5 &&& (2147483647 : Int32)) % (5 : Int32))), .unset, .unset, .unset, .unset, .unset, .unset] [(.int ((p6 &&& (2147483647 : Int32)) % (5 : Int32)))]))
  refine own_go (fun _ => XS.istore X0.here hx rfl (hb hby at_16) rfl (l' := #[.val (.long q1), .second, .val (.long q2), .second, .val (.long q3), .second, .val (.long q4), .second, .val (.int p5), .val (.int p6), .val (.int ((p5 &&& (2147483647 : Int32)) % (5 : Int32))), .val (.int ((p6 &&& (2147483647 : Int32)) % (5 : Int32))), .unset, .unset, .unset, .unset, .unset]) rfl) ?_
  show own_Go p.tables e below _ (s₁.setTop (mkF m 18 #[.val (.long q1), .second, .val (.long q2), .second, .val (.long q3), .second, .val (.long q4), .second, .val (.int p5), .val (.int p6), .val (.int ((p5 &&& (2147483647 : Int32)) % (5 : Int32))), .val (.int ((p6 &&& (2147483647 : Int32)) % (5 : Int32))), .unset, .unset, .unset, .unset, .unset] []))
  refine own_go (fun _ => XS.iload X0.here hx rfl (hb hby at_18) rfl) ?_
  show own_Go p.tables e below _ (s₁.setTop (mkF m 20 #[.val (.long q1), .second, .val (.long q2), .second, .val (.long q3), .second, .val (.long q4), .second, .val (.int p5), .val (.int p6), .val (.int ((p5 &&& (2147483647 : Int32)) % (5 : Int32))), .val (.int ((p6 &&& (2147483647 : Int32)) % (5 : Int32))), .unset, .unset, .unset, .unset, .unset] [(.int ((p5 &&& (2147483647 : Int32)) % (5 : Int32)))]))
  refine own_go (fun _ => XS.iload X0.here hx rfl (hb hby at_20) rfl) ?_
  show own_Go p.tables e below _ (s₁.setTop (mkF m 22 #[.val (.long q1), .second, .val (.long q2), .second, .val (.long q3), .second, .val (.long q4), .second, .val (.int p5), .val (.int p6), .val (.int ((p5 &&& (2147483647 : Int32)) % (5 : Int32))), .val (.int ((p6 &&& (2147483647 : Int32)) % (5 : Int32))), .unset, .unset, .unset, .unset, .unset] [(.int ((p6 &&& (2147483647 : Int32)) % (5 : Int32))), (.int ((p5 &&& (2147483647 : Int32)) % (5 : Int32)))]))
  obtain ⟨_, _, ⟨T7, L7, k7, n7⟩, -, X7, ⟨Lc7, hQ7, l7, y7, z7⟩, st7⟩ := Jvm.LawKit.callS X0 hx (y := (⟨"java/lang/Math", "min", "(II)I"⟩ : MethodName)) hown (mvT hZ (hw _ (List.mem_of_getElem? (i := 1) rfl))) (mvT hZ (hw _ (List.mem_of_getElem? (i := 2) rfl))) (mvT hZ (hw _ (List.mem_of_getElem? (i := 3) rfl))) (mvT hZ (hw _ (List.mem_of_getElem? (i := 4) rfl))) (by decide) (backOf (W := 0) (rm1 l Z a0 hw [] ((p5 &&& (2147483647 : Int32)) % (5 : Int32)) ((p6 &&& (2147483647 : Int32)) % (5 : Int32)) h0 n0 Z0 ) hZ (hw _ (List.mem_of_getElem? (i := 4) rfl)) (hw _ (List.mem_of_getElem? (i := 3) rfl)) (by decide) (by decide)) (g := (mkF m 22 #[.val (.long q1), .second, .val (.long q2), .second, .val (.long q3), .second, .val (.long q4), .second, .val (.int p5), .val (.int p6), .val (.int ((p5 &&& (2147483647 : Int32)) % (5 : Int32))), .val (.int ((p6 &&& (2147483647 : Int32)) % (5 : Int32))), .unset, .unset, .unset, .unset, .unset] [(.int ((p6 &&& (2147483647 : Int32)) % (5 : Int32))), (.int ((p5 &&& (2147483647 : Int32)) % (5 : Int32)))])) rfl (by rw [hml]; rfl) (argsL := [(.int ((p5 &&& (2147483647 : Int32)) % (5 : Int32))), (.int ((p6 &&& (2147483647 : Int32)) % (5 : Int32)))]) (rest := []) (lenOf pd_0 rfl) rfl (by show 2 * 0 + _ ≤ _; exact Nat.le_of_eq rfl) (hb hby at_22) (fun _ _ => ⟨rfl, e0, (by decide : 0 + 0 ≤ _), (by decide : 0 + 0 ≤ _)⟩)
  dsimp only [Pt.U, Pt.locs, Pt.cells, Pt.slots] at X7 l7 y7 z7 st7 hQ7
  subst l7 y7 z7
  obtain ⟨rfl, N7q, e7⟩ := hQ7
  have N7 := Fr.app N0 N7q
  refine own_go st7 ?_
  show own_Go p.tables e below _ (T7.setTop (mkF m 25 #[.val (.long q1), .second, .val (.long q2), .second, .val (.long q3), .second, .val (.long q4), .second, .val (.int p5), .val (.int p6), .val (.int ((p5 &&& (2147483647 : Int32)) % (5 : Int32))), .val (.int ((p6 &&& (2147483647 : Int32)) % (5 : Int32))), .unset, .unset, .unset, .unset, .unset] [(.int (own_f1 ((p5 &&& (2147483647 : Int32)) % (5 : Int32)) ((p6 &&& (2147483647 : Int32)) % (5 : Int32))))]))
  refine own_go (fun _ => XS.istore X7.here hx rfl (hb hby at_25) rfl (l' := #[.val (.long q1), .second, .val (.long q2), .second, .val (.long q3), .second, .val (.long q4), .second, .val (.int p5), .val (.int p6), .val (.int ((p5 &&& (2147483647 : Int32)) % (5 : Int32))), .val (.int ((p6 &&& (2147483647 : Int32)) % (5 : Int32))), .val (.int (own_f1 ((p5 &&& (2147483647 : Int32)) % (5 : Int32)) ((p6 &&& (2147483647 : Int32)) % (5 : Int32)))), .unset, .unset, .unset, .unset]) rfl) ?_
  show own_Go p.tables e below _ (T7.setTop (mkF m 27 #[.val (.long q1), .second, .val (.long q2), .second, .val (.long q3), .second, .val (.long q4), .second, .val (.int p5), .val (.int p6), .val (.int ((p5 &&& (2147483647 : Int32)) % (5 : Int32))), .val (.int ((p6 &&& (2147483647 : Int32)) % (5 : Int32))), .val (.int (own_f1 ((p5 &&& (2147483647 : Int32)) % (5 : Int32)) ((p6 &&& (2147483647 : Int32)) % (5 : Int32)))), .unset, .unset, .unset, .unset] []))
  refine own_go (fun _ => XS.iload X7.here hx rfl (hb hby at_27) rfl) ?_
  show own_Go p.tables e below _ (T7.setTop (mkF m 29 #[.val (.long q1), .second, .val (.long q2), .second, .val (.long q3), .second, .val (.long q4), .second, .val (.int p5), .val (.int p6), .val (.int ((p5 &&& (2147483647 : Int32)) % (5 : Int32))), .val (.int ((p6 &&& (2147483647 : Int32)) % (5 : Int32))), .val (.int (own_f1 ((p5 &&& (2147483647 : Int32)) % (5 : Int32)) ((p6 &&& (2147483647 : Int32)) % (5 : Int32)))), .unset, .unset, .unset, .unset] [(.int ((p5 &&& (2147483647 : Int32)) % (5 : Int32)))]))
  refine own_go (fun _ => XS.iload X7.here hx rfl (hb hby at_29) rfl) ?_
  show own_Go p.tables e below _ (T7.setTop (mkF m 31 #[.val (.long q1), .second, .val (.long q2), .second, .val (.long q3), .second, .val (.long q4), .second, .val (.int p5), .val (.int p6), .val (.int ((p5 &&& (2147483647 : Int32)) % (5 : Int32))), .val (.int ((p6 &&& (2147483647 : Int32)) % (5 : Int32))), .val (.int (own_f1 ((p5 &&& (2147483647 : Int32)) % (5 : Int32)) ((p6 &&& (2147483647 : Int32)) % (5 : Int32)))), .unset, .unset, .unset, .unset] [(.int ((p6 &&& (2147483647 : Int32)) % (5 : Int32))), (.int ((p5 &&& (2147483647 : Int32)) % (5 : Int32)))]))
  obtain ⟨_, _, ⟨T8, L8, k8, n8⟩, -, X8, ⟨Lc8, hQ8, l8, y8, z8⟩, st8⟩ := Jvm.LawKit.callS X7 hx (y := (⟨"java/lang/Math", "max", "(II)I"⟩ : MethodName)) hown (mvT hZ (hw _ (List.mem_of_getElem? (i := 5) rfl))) (mvT hZ (hw _ (List.mem_of_getElem? (i := 6) rfl))) (mvT hZ (hw _ (List.mem_of_getElem? (i := 3) rfl))) (mvT hZ (hw _ (List.mem_of_getElem? (i := 7) rfl))) (by decide) (backOf (W := 0) (rm2 l Z a0 hw [] ((p5 &&& (2147483647 : Int32)) % (5 : Int32)) ((p6 &&& (2147483647 : Int32)) % (5 : Int32)) h0 n0 Z0 ) hZ (hw _ (List.mem_of_getElem? (i := 7) rfl)) (hw _ (List.mem_of_getElem? (i := 3) rfl)) (by decide) (by decide)) (g := (mkF m 31 #[.val (.long q1), .second, .val (.long q2), .second, .val (.long q3), .second, .val (.long q4), .second, .val (.int p5), .val (.int p6), .val (.int ((p5 &&& (2147483647 : Int32)) % (5 : Int32))), .val (.int ((p6 &&& (2147483647 : Int32)) % (5 : Int32))), .val (.int (own_f1 ((p5 &&& (2147483647 : Int32)) % (5 : Int32)) ((p6 &&& (2147483647 : Int32)) % (5 : Int32)))), .unset, .unset, .unset, .unset] [(.int ((p6 &&& (2147483647 : Int32)) % (5 : Int32))), (.int ((p5 &&& (2147483647 : Int32)) % (5 : Int32)))])) rfl (by rw [hml]; rfl) (argsL := [(.int ((p5 &&& (2147483647 : Int32)) % (5 : Int32))), (.int ((p6 &&& (2147483647 : Int32)) % (5 : Int32)))]) (rest := []) (lenOf pd_0 rfl) rfl (by show 2 * 0 + _ ≤ _; exact Nat.le_of_eq rfl) (hb hby at_31) (fun _ _ => ⟨rfl, e7, (by decide : 0 + 0 ≤ _), (by decide : 0 + 0 ≤ _)⟩)
  dsimp only [Pt.U, Pt.locs, Pt.cells, Pt.slots] at X8 l8 y8 z8 st8 hQ8
  subst l8 y8 z8
  obtain ⟨rfl, N8q, e8⟩ := hQ8
  have N8 := Fr.app N7 N8q
  refine own_go st8 ?_
  show own_Go p.tables e below _ (T8.setTop (mkF m 34 #[.val (.long q1), .second, .val (.long q2), .second, .val (.long q3), .second, .val (.long q4), .second, .val (.int p5), .val (.int p6), .val (.int ((p5 &&& (2147483647 : Int32)) % (5 : Int32))), .val (.int ((p6 &&& (2147483647 : Int32)) % (5 : Int32))), .val (.int (own_f1 ((p5 &&& (2147483647 : Int32)) % (5 : Int32)) ((p6 &&& (2147483647 : Int32)) % (5 : Int32)))), .unset, .unset, .unset, .unset] [(.int (own_f2 ((p5 &&& (2147483647 : Int32)) % (5 : Int32)) ((p6 &&& (2147483647 : Int32)) % (5 : Int32))))]))
  refine own_go (fun _ => XS.istore X8.here hx rfl (hb hby at_34) rfl (l' := #[.val (.long q1), .second, .val (.long q2), .second, .val (.long q3), .second, .val (.long q4), .second, .val (.int p5), .val (.int p6), .val (.int ((p5 &&& (2147483647 : Int32)) % (5 : Int32))), .val (.int ((p6 &&& (2147483647 : Int32)) % (5 : Int32))), .val (.int (own_f1 ((p5 &&& (2147483647 : Int32)) % (5 : Int32)) ((p6 &&& (2147483647 : Int32)) % (5 : Int32)))), .val (.int (own_f2 ((p5 &&& (2147483647 : Int32)) % (5 : Int32)) ((p6 &&& (2147483647 : Int32)) % (5 : Int32)))), .unset, .unset, .unset]) rfl) ?_
  show own_Go p.tables e below _ (T8.setTop (mkF m 36 #[.val (.long q1), .second, .val (.long q2), .second, .val (.long q3), .second, .val (.long q4), .second, .val (.int p5), .val (.int p6), .val (.int ((p5 &&& (2147483647 : Int32)) % (5 : Int32))), .val (.int ((p6 &&& (2147483647 : Int32)) % (5 : Int32))), .val (.int (own_f1 ((p5 &&& (2147483647 : Int32)) % (5 : Int32)) ((p6 &&& (2147483647 : Int32)) % (5 : Int32)))), .val (.int (own_f2 ((p5 &&& (2147483647 : Int32)) % (5 : Int32)) ((p6 &&& (2147483647 : Int32)) % (5 : Int32)))), .unset, .unset, .unset] []))
  refine own_go (fun _ => XS.iconst X8.here hx rfl (hb hby at_36)) ?_
  show own_Go p.tables e below _ (T8.setTop (mkF m 37 #[.val (.long q1), .second, .val (.long q2), .second, .val (.long q3), .second, .val (.long q4), .second, .val (.int p5), .val (.int p6), .val (.int ((p5 &&& (2147483647 : Int32)) % (5 : Int32))), .val (.int ((p6 &&& (2147483647 : Int32)) % (5 : Int32))), .val (.int (own_f1 ((p5 &&& (2147483647 : Int32)) % (5 : Int32)) ((p6 &&& (2147483647 : Int32)) % (5 : Int32)))), .val (.int (own_f2 ((p5 &&& (2147483647 : Int32)) % (5 : Int32)) ((p6 &&& (2147483647 : Int32)) % (5 : Int32)))), .unset, .unset, .unset] [(.int (4 : Int32))]))
  obtain ⟨T9, h9, k9, X9, e9, E9, A9, B9, st9⟩ := newPE X8 hx hZ (hw _ (List.mem_of_getElem? (i := 8) rfl)) e8 (g := (mkF m 37 #[.val (.long q1), .second, .val (.long q2), .second, .val (.long q3), .second, .val (.long q4), .second, .val (.int p5), .val (.int p6), .val (.int ((p5 &&& (2147483647 : Int32)) % (5 : Int32))), .val (.int ((p6 &&& (2147483647 : Int32)) % (5 : Int32))), .val (.int (own_f1 ((p5 &&& (2147483647 : Int32)) % (5 : Int32)) ((p6 &&& (2147483647 : Int32)) % (5 : Int32)))), .val (.int (own_f2 ((p5 &&& (2147483647 : Int32)) % (5 : Int32)) ((p6 &&& (2147483647 : Int32)) % (5 : Int32)))), .unset, .unset, .unset] [(.int (4 : Int32))])) rfl (hb hby at_37) rfl (by decide) (cap := 4) (by decide) (by decide) (by decide) (by decide) (ad := "[J") (by decide)
  obtain ⟨b9, g9⟩ : ∃ z, z = h0.size := ⟨_, rfl⟩
  rw [← g9] at A9 B9 st9
  refine own_go st9 ?_
  have g_b9 : n0 ≤ b9 := Nat.le_trans Z0 (Nat.le_of_eq g9.symm)
  have sz_b9 : h0.size ≤ b9 := (Nat.le_trans (Keep.refl h0 []).1 (Nat.le_of_eq g9.symm))
  have K9 : Keep h0 h9 [] := (Keep.refl h0 []).ext E9
  have V9 : Arv Z h9 b9 k9 .long (4 : Int32) [(.long (0 : Int64)), (.long (0 : Int64)), (.long (0 : Int64)), (.long (0 : Int64))] (.long (0 : Int64)) := (Arv.new A9 (by decide)).pad (pad_rep [] (.long (0 : Int64)) 4)
  show own_Go p.tables e below _ (T9.setTop (mkF m 39 #[.val (.long q1), .second, .val (.long q2), .second, .val (.long q3), .second, .val (.long q4), .second, .val (.int p5), .val (.int p6), .val (.int ((p5 &&& (2147483647 : Int32)) % (5 : Int32))), .val (.int ((p6 &&& (2147483647 : Int32)) % (5 : Int32))), .val (.int (own_f1 ((p5 &&& (2147483647 : Int32)) % (5 : Int32)) ((p6 &&& (2147483647 : Int32)) % (5 : Int32)))), .val (.int (own_f2 ((p5 &&& (2147483647 : Int32)) % (5 : Int32)) ((p6 &&& (2147483647 : Int32)) % (5 : Int32)))), .unset, .unset, .unset] [(.ref b9)]))
  refine own_go (fun _ => XS.dup X9.here hx rfl (hb hby at_39) rfl rfl) ?_
  show own_Go p.tables e below _ (T9.setTop (mkF m 40 #[.val (.long q1), .second, .val (.long q2), .second, .val (.long q3), .second, .val (.long q4), .second, .val (.int p5), .val (.int p6), .val (.int ((p5 &&& (2147483647 : Int32)) % (5 : Int32))), .val (.int ((p6 &&& (2147483647 : Int32)) % (5 : Int32))), .val (.int (own_f1 ((p5 &&& (2147483647 : Int32)) % (5 : Int32)) ((p6 &&& (2147483647 : Int32)) % (5 : Int32)))), .val (.int (own_f2 ((p5 &&& (2147483647 : Int32)) % (5 : Int32)) ((p6 &&& (2147483647 : Int32)) % (5 : Int32)))), .unset, .unset, .unset] [(.ref b9), (.ref b9)]))
  refine own_go (fun _ => XS.iconst X9.here hx rfl (hb hby at_40)) ?_
  show own_Go p.tables e below _ (T9.setTop (mkF m 41 #[.val (.long q1), .second, .val (.long q2), .second, .val (.long q3), .second, .val (.long q4), .second, .val (.int p5), .val (.int p6), .val (.int ((p5 &&& (2147483647 : Int32)) % (5 : Int32))), .val (.int ((p6 &&& (2147483647 : Int32)) % (5 : Int32))), .val (.int (own_f1 ((p5 &&& (2147483647 : Int32)) % (5 : Int32)) ((p6 &&& (2147483647 : Int32)) % (5 : Int32)))), .val (.int (own_f2 ((p5 &&& (2147483647 : Int32)) % (5 : Int32)) ((p6 &&& (2147483647 : Int32)) % (5 : Int32)))), .unset, .unset, .unset] [(.int (0 : Int32)), (.ref b9), (.ref b9)]))
  refine own_go (fun _ => XS.lloadN X9.here hx rfl (hb hby at_41) rfl) ?_
  show own_Go p.tables e below _ (T9.setTop (mkF m 42 #[.val (.long q1), .second, .val (.long q2), .second, .val (.long q3), .second, .val (.long q4), .second, .val (.int p5), .val (.int p6), .val (.int ((p5 &&& (2147483647 : Int32)) % (5 : Int32))), .val (.int ((p6 &&& (2147483647 : Int32)) % (5 : Int32))), .val (.int (own_f1 ((p5 &&& (2147483647 : Int32)) % (5 : Int32)) ((p6 &&& (2147483647 : Int32)) % (5 : Int32)))), .val (.int (own_f2 ((p5 &&& (2147483647 : Int32)) % (5 : Int32)) ((p6 &&& (2147483647 : Int32)) % (5 : Int32)))), .unset, .unset, .unset] [(.long q1), (.int (0 : Int32)), (.ref b9), (.ref b9)]))
  obtain ⟨cl10, Ar10, q10, S10, M10, Hh10, G10⟩ := id V9
  have hin10 : ¬ ((0 : Int32) < 0 ∨ cl10.slots.size ≤ ((0 : Int32)).toNatClampNeg) := inb_of S10 ⟨by decide, by decide⟩
  obtain ⟨T10, h10, X10, e10, W10, st10⟩ := stJ X9 hx hZ e9 Ar10 (j := (0 : Int32)) hin10 (g := (mkF m 42 #[.val (.long q1), .second, .val (.long q2), .second, .val (.long q3), .second, .val (.long q4), .second, .val (.int p5), .val (.int p6), .val (.int ((p5 &&& (2147483647 : Int32)) % (5 : Int32))), .val (.int ((p6 &&& (2147483647 : Int32)) % (5 : Int32))), .val (.int (own_f1 ((p5 &&& (2147483647 : Int32)) % (5 : Int32)) ((p6 &&& (2147483647 : Int32)) % (5 : Int32)))), .val (.int (own_f2 ((p5 &&& (2147483647 : Int32)) % (5 : Int32)) ((p6 &&& (2147483647 : Int32)) % (5 : Int32)))), .unset, .unset, .unset] [(.long q1), (.int (0 : Int32)), (.ref b9), (.ref b9)])) rfl rfl (hb hby at_42)
  refine own_go st10 ?_
  have V10 : Arv Z h10 b9 k9 .long (4 : Int32) [(.long q1), (.long (0 : Int64)), (.long (0 : Int64)), (.long (0 : Int64))] (.long (0 : Int64)) := Arv.set Ar10 q10 S10 M10 Hh10 G10 rfl W10 0 rfl (Nat.le_of_ble_eq_true rfl)
  have K10 : Keep h0 h10 [] := K9.wr W10 (Or.inr sz_b9)
  have N10 := Fr.snoc X10 N8 g_b9
  show own_Go p.tables e below _ (T10.setTop (mkF m 43 #[.val (.long q1), .second, .val (.long q2), .second, .val (.long q3), .second, .val (.long q4), .second, .val (.int p5), .val (.int p6), .val (.int ((p5 &&& (2147483647 : Int32)) % (5 : Int32))), .val (.int ((p6 &&& (2147483647 : Int32)) % (5 : Int32))), .val (.int (own_f1 ((p5 &&& (2147483647 : Int32)) % (5 : Int32)) ((p6 &&& (2147483647 : Int32)) % (5 : Int32)))), .val (.int (own_f2 ((p5 &&& (2147483647 : Int32)) % (5 : Int32)) ((p6 &&& (2147483647 : Int32)) % (5 : Int32)))), .unset, .unset, .unset] [(.ref b9)]))
  refine own_go (fun _ => XS.dup X10.here hx rfl (hb hby at_43) rfl rfl) ?_
  show own_Go p.tables e below _ (T10.setTop (mkF m 44 #[.val (.long q1), .second, .val (.long q2), .second, .val (.long q3), .second, .val (.long q4), .second, .val (.int p5), .val (.int p6), .val (.int ((p5 &&& (2147483647 : Int32)) % (5 : Int32))), .val (.int ((p6 &&& (2147483647 : Int32)) % (5 : Int32))), .val (.int (own_f1 ((p5 &&& (2147483647 : Int32)) % (5 : Int32)) ((p6 &&& (2147483647 : Int32)) % (5 : Int32)))), .val (.int (own_f2 ((p5 &&& (2147483647 : Int32)) % (5 : Int32)) ((p6 &&& (2147483647 : Int32)) % (5 : Int32)))), .unset, .unset, .unset] [(.ref b9), (.ref b9)]))
  refine own_go (fun _ => XS.iconst X10.here hx rfl (hb hby at_44)) ?_
  show own_Go p.tables e below _ (T10.setTop (mkF m 45 #[.val (.long q1), .second, .val (.long q2), .second, .val (.long q3), .second, .val (.long q4), .second, .val (.int p5), .val (.int p6), .val (.int ((p5 &&& (2147483647 : Int32)) % (5 : Int32))), .val (.int ((p6 &&& (2147483647 : Int32)) % (5 : Int32))), .val (.int (own_f1 ((p5 &&& (2147483647 : Int32)) % (5 : Int32)) ((p6 &&& (2147483647 : Int32)) % (5 : Int32)))), .val (.int (own_f2 ((p5 &&& (2147483647 : Int32)) % (5 : Int32)) ((p6 &&& (2147483647 : Int32)) % (5 : Int32)))), .unset, .unset, .unset] [(.int (1 : Int32)), (.ref b9), (.ref b9)]))
  refine own_go (fun _ => XS.lloadN X10.here hx rfl (hb hby at_45) rfl) ?_
  show own_Go p.tables e below _ (T10.setTop (mkF m 46 #[.val (.long q1), .second, .val (.long q2), .second, .val (.long q3), .second, .val (.long q4), .second, .val (.int p5), .val (.int p6), .val (.int ((p5 &&& (2147483647 : Int32)) % (5 : Int32))), .val (.int ((p6 &&& (2147483647 : Int32)) % (5 : Int32))), .val (.int (own_f1 ((p5 &&& (2147483647 : Int32)) % (5 : Int32)) ((p6 &&& (2147483647 : Int32)) % (5 : Int32)))), .val (.int (own_f2 ((p5 &&& (2147483647 : Int32)) % (5 : Int32)) ((p6 &&& (2147483647 : Int32)) % (5 : Int32)))), .unset, .unset, .unset] [(.long q2), (.int (1 : Int32)), (.ref b9), (.ref b9)]))
  obtain ⟨cl11, Ar11, q11, S11, M11, Hh11, G11⟩ := id V10
  have hin11 : ¬ ((1 : Int32) < 0 ∨ cl11.slots.size ≤ ((1 : Int32)).toNatClampNeg) := inb_of S11 ⟨by decide, by decide⟩
  obtain ⟨T11, h11, X11, e11, W11, st11⟩ := stJ X10 hx hZ e10 Ar11 (j := (1 : Int32)) hin11 (g := (mkF m 46 #[.val (.long q1), .second, .val (.long q2), .second, .val (.long q3), .second, .val (.long q4), .second, .val (.int p5), .val (.int p6), .val (.int ((p5 &&& (2147483647 : Int32)) % (5 : Int32))), .val (.int ((p6 &&& (2147483647 : Int32)) % (5 : Int32))), .val (.int (own_f1 ((p5 &&& (2147483647 : Int32)) % (5 : Int32)) ((p6 &&& (2147483647 : Int32)) % (5 : Int32)))), .val (.int (own_f2 ((p5 &&& (2147483647 : Int32)) % (5 : Int32)) ((p6 &&& (2147483647 : Int32)) % (5 : Int32)))), .unset, .unset, .unset] [(.long q2), (.int (1 : Int32)), (.ref b9), (.ref b9)])) rfl rfl (hb hby at_46)
  refine own_go st11 ?_
  have V11 : Arv Z h11 b9 k9 .long (4 : Int32) [(.long q1), (.long q2), (.long (0 : Int64)), (.long (0 : Int64))] (.long (0 : Int64)) := Arv.set Ar11 q11 S11 M11 Hh11 G11 rfl W11 1 rfl (Nat.le_of_ble_eq_true rfl)
  have K11 : Keep h0 h11 [] := K10.wr W11 (Or.inr sz_b9)
  have N11 := Fr.snoc X11 N10 g_b9
  show own_Go p.tables e below _ (T11.setTop (mkF m 47 #[.val (.long q1), .second, .val (.long q2), .second, .val (.long q3), .second, .val (.long q4), .second, .val (.int p5), .val (.int p6), .val (.int ((p5 &&& (2147483647 : Int32)) % (5 : Int32))), .val (.int ((p6 &&& (2147483647 : Int32)) % (5 : Int32))), .val (.int (own_f1 ((p5 &&& (2147483647 : Int32)) % (5 : Int32)) ((p6 &&& (2147483647 : Int32)) % (5 : Int32)))), .val (.int (own_f2 ((p5 &&& (2147483647 : Int32)) % (5 : Int32)) ((p6 &&& (2147483647 : Int32)) % (5 : Int32)))), .unset, .unset, .unset] [(.ref b9)]))
  refine own_go (fun _ => XS.dup X11.here hx rfl (hb hby at_47) rfl rfl) ?_
  show own_Go p.tables e below _ (T11.setTop (mkF m 48 #[.val (.long q1), .second, .val (.long q2), .second, .val (.long q3), .second, .val (.long q4), .second, .val (.int p5), .val (.int p6), .val (.int ((p5 &&& (2147483647 : Int32)) % (5 : Int32))), .val (.int ((p6 &&& (2147483647 : Int32)) % (5 : Int32))), .val (.int (own_f1 ((p5 &&& (2147483647 : Int32)) % (5 : Int32)) ((p6 &&& (2147483647 : Int32)) % (5 : Int32)))), .val (.int (own_f2 ((p5 &&& (2147483647 : Int32)) % (5 : Int32)) ((p6 &&& (2147483647 : Int32)) % (5 : Int32)))), .unset, .unset, .unset] [(.ref b9), (.ref b9)]))
  refine own_go (fun _ => XS.iconst X11.here hx rfl (hb hby at_48)) ?_
  show own_Go p.tables e below _ (T11.setTop (mkF m 49 #[.val (.long q1), .second, .val (.long q2), .second, .val (.long q3), .second, .val (.long q4), .second, .val (.int p5), .val (.int p6), .val (.int ((p5 &&& (2147483647 : Int32)) % (5 : Int32))), .val (.int ((p6 &&& (2147483647 : Int32)) % (5 : Int32))), .val (.int (own_f1 ((p5 &&& (2147483647 : Int32)) % (5 : Int32)) ((p6 &&& (2147483647 : Int32)) % (5 : Int32)))), .val (.int (own_f2 ((p5 &&& (2147483647 : Int32)) % (5 : Int32)) ((p6 &&& (2147483647 : Int32)) % (5 : Int32)))), .unset, .unset, .unset] [(.int (2 : Int32)), (.ref b9), (.ref b9)]))
  refine own_go (fun _ => XS.lload X11.here hx rfl (hb hby at_49) rfl) ?_
  show own_Go p.tables e below _ (T11.setTop (mkF m 51 #[.val (.long q1), .second, .val (.long q2), .second, .val (.long q3), .second, .val (.long q4), .second, .val (.int p5), .val (.int p6), .val (.int ((p5 &&& (2147483647 : Int32)) % (5 : Int32))), .val (.int ((p6 &&& (2147483647 : Int32)) % (5 : Int32))), .val (.int (own_f1 ((p5 &&& (2147483647 : Int32)) % (5 : Int32)) ((p6 &&& (2147483647 : Int32)) % (5 : Int32)))), .val (.int (own_f2 ((p5 &&& (2147483647 : Int32)) % (5 : Int32)) ((p6 &&& (2147483647 : Int32)) % (5 : Int32)))), .unset, .unset, .unset] [(.long q3), (.int (2 : Int32)), (.ref b9), (.ref b9)]))
  obtain ⟨cl12, Ar12, q12, S12, M12, Hh12, G12⟩ := id V11
  have hin12 : ¬ ((2 : Int32) < 0 ∨ cl12.slots.size ≤ ((2 : Int32)).toNatClampNeg) := inb_of S12 ⟨by decide, by decide⟩
  obtain ⟨T12, h12, X12, e12, W12, st12⟩ := stJ X11 hx hZ e11 Ar12 (j := (2 : Int32)) hin12 (g := (mkF m 51 #[.val (.long q1), .second, .val (.long q2), .second, .val (.long q3), .second, .val (.long q4), .second, .val (.int p5), .val (.int p6), .val (.int ((p5 &&& (2147483647 : Int32)) % (5 : Int32))), .val (.int ((p6 &&& (2147483647 : Int32)) % (5 : Int32))), .val (.int (own_f1 ((p5 &&& (2147483647 : Int32)) % (5 : Int32)) ((p6 &&& (2147483647 : Int32)) % (5 : Int32)))), .val (.int (own_f2 ((p5 &&& (2147483647 : Int32)) % (5 : Int32)) ((p6 &&& (2147483647 : Int32)) % (5 : Int32)))), .unset, .unset, .unset] [(.long q3), (.int (2 : Int32)), (.ref b9), (.ref b9)])) rfl rfl (hb hby at_51)
  refine own_go st12 ?_
  have V12 : Arv Z h12 b9 k9 .long (4 : Int32) [(.long q1), (.long q2), (.long q3), (.long (0 : Int64))] (.long (0 : Int64)) := Arv.set Ar12 q12 S12 M12 Hh12 G12 rfl W12 2 rfl (Nat.le_of_ble_eq_true rfl)
  have K12 : Keep h0 h12 [] := K11.wr W12 (Or.inr sz_b9)
  have N12 := Fr.snoc X12 N11 g_b9
  show own_Go p.tables e below _ (T12.setTop (mkF m 52 #[.val (.long q1), .second, .val (.long q2), .second, .val (.long q3), .second, .val (.long q4), .second, .val (.int p5), .val (.int p6), .val (.int ((p5 &&& (2147483647 : Int32)) % (5 : Int32))), .val (.int ((p6 &&& (2147483647 : Int32)) % (5 : Int32))), .val (.int (own_f1 ((p5 &&& (2147483647 : Int32)) % (5 : Int32)) ((p6 &&& (2147483647 : Int32)) % (5 : Int32)))), .val (.int (own_f2 ((p5 &&& (2147483647 : Int32)) % (5 : Int32)) ((p6 &&& (2147483647 : Int32)) % (5 : Int32)))), .unset, .unset, .unset] [(.ref b9)]))
  refine own_go (fun _ => XS.dup X12.here hx rfl (hb hby at_52) rfl rfl) ?_
  show own_Go p.tables e below _ (T12.setTop (mkF m 53 #[.val (.long q1), .second, .val (.long q2), .second, .val (.long q3), .second, .val (.long q4), .second, .val (.int p5), .val (.int p6), .val (.int ((p5 &&& (2147483647 : Int32)) % (5 : Int32))), .val (.int ((p6 &&& (2147483647 : Int32)) % (5 : Int32))), .val (.int (own_f1 ((p5 &&& (2147483647 : Int32)) % (5 : Int32)) ((p6 &&& (2147483647 : Int32)) % (5 : Int32)))), .val (.int (own_f2 ((p5 &&& (2147483647 : Int32)) % (5 : Int32)) ((p6 &&& (2147483647 : Int32)) % (5 : Int32)))), .unset, .unset, .unset] [(.ref b9), (.ref b9)]))
  refine own_go (fun _ => XS.iconst X12.here hx rfl (hb hby at_53)) ?_
  show own_Go p.tables e below _ (T12.setTop (mkF m 54 #[.val (.long q1), .second, .val (.long q2), .second, .val (.long q3), .second, .val (.long q4), .second, .val (.int p5), .val (.int p6), .val (.int ((p5 &&& (2147483647 : Int32)) % (5 : Int32))), .val (.int ((p6 &&& (2147483647 : Int32)) % (5 : Int32))), .val (.int (own_f1 ((p5 &&& (2147483647 : Int32)) % (5 : Int32)) ((p6 &&& (2147483647 : Int32)) % (5 : Int32)))), .val (.int (own_f2 ((p5 &&& (2147483647 : Int32)) % (5 : Int32)) ((p6 &&& (2147483647 : Int32)) % (5 : Int32)))), .unset, .unset, .unset] [(.int (3 : Int32)), (.ref b9), (.ref b9)]))
  refine own_go (fun _ => XS.lload X12.here hx rfl (hb hby at_54) rfl) ?_
  show own_Go p.tables e below _ (T12.setTop (mkF m 56 #[.val (.long q1), .second, .val (.long q2), .second, .val (.long q3), .second, .val (.long q4), .second, .val (.int p5), .val (.int p6), .val (.int ((p5 &&& (2147483647 : Int32)) % (5 : Int32))), .val (.int ((p6 &&& (2147483647 : Int32)) % (5 : Int32))), .val (.int (own_f1 ((p5 &&& (2147483647 : Int32)) % (5 : Int32)) ((p6 &&& (2147483647 : Int32)) % (5 : Int32)))), .val (.int (own_f2 ((p5 &&& (2147483647 : Int32)) % (5 : Int32)) ((p6 &&& (2147483647 : Int32)) % (5 : Int32)))), .unset, .unset, .unset] [(.long q4), (.int (3 : Int32)), (.ref b9), (.ref b9)]))
  obtain ⟨cl13, Ar13, q13, S13, M13, Hh13, G13⟩ := id V12
  have hin13 : ¬ ((3 : Int32) < 0 ∨ cl13.slots.size ≤ ((3 : Int32)).toNatClampNeg) := inb_of S13 ⟨by decide, by decide⟩
  obtain ⟨T13, h13, X13, e13, W13, st13⟩ := stJ X12 hx hZ e12 Ar13 (j := (3 : Int32)) hin13 (g := (mkF m 56 #[.val (.long q1), .second, .val (.long q2), .second, .val (.long q3), .second, .val (.long q4), .second, .val (.int p5), .val (.int p6), .val (.int ((p5 &&& (2147483647 : Int32)) % (5 : Int32))), .val (.int ((p6 &&& (2147483647 : Int32)) % (5 : Int32))), .val (.int (own_f1 ((p5 &&& (2147483647 : Int32)) % (5 : Int32)) ((p6 &&& (2147483647 : Int32)) % (5 : Int32)))), .val (.int (own_f2 ((p5 &&& (2147483647 : Int32)) % (5 : Int32)) ((p6 &&& (2147483647 : Int32)) % (5 : Int32)))), .unset, .unset, .unset] [(.long q4), (.int (3 : Int32)), (.ref b9), (.ref b9)])) rfl rfl (hb hby at_56)
  refine own_go st13 ?_
  have V13 : Arv Z h13 b9 k9 .long (4 : Int32) [(.long q1), (.long q2), (.long q3), (.long q4)] (.long (0 : Int64)) := Arv.set Ar13 q13 S13 M13 Hh13 G13 rfl W13 3 rfl (Nat.le_of_ble_eq_true rfl)
  have K13 : Keep h0 h13 [] := K12.wr W13 (Or.inr sz_b9)
  have N13 := Fr.snoc X13 N12 g_b9
  show own_Go p.tables e below _ (T13.setTop (mkF m 57 #[.val (.long q1), .second, .val (.long q2), .second, .val (.long q3), .second, .val (.long q4), .second, .val (.int p5), .val (.int p6), .val (.int ((p5 &&& (2147483647 : Int32)) % (5 : Int32))), .val (.int ((p6 &&& (2147483647 : Int32)) % (5 : Int32))), .val (.int (own_f1 ((p5 &&& (2147483647 : Int32)) % (5 : Int32)) ((p6 &&& (2147483647 : Int32)) % (5 : Int32)))), .val (.int (own_f2 ((p5 &&& (2147483647 : Int32)) % (5 : Int32)) ((p6 &&& (2147483647 : Int32)) % (5 : Int32)))), .unset, .unset, .unset] [(.ref b9)]))
  refine own_go (fun _ => XS.astore X13.here hx rfl (hb hby at_57) rfl rfl (l' := #[.val (.long q1), .second, .val (.long q2), .second, .val (.long q3), .second, .val (.long q4), .second, .val (.int p5), .val (.int p6), .val (.int ((p5 &&& (2147483647 : Int32)) % (5 : Int32))), .val (.int ((p6 &&& (2147483647 : Int32)) % (5 : Int32))), .val (.int (own_f1 ((p5 &&& (2147483647 : Int32)) % (5 : Int32)) ((p6 &&& (2147483647 : Int32)) % (5 : Int32)))), .val (.int (own_f2 ((p5 &&& (2147483647 : Int32)) % (5 : Int32)) ((p6 &&& (2147483647 : Int32)) % (5 : Int32)))), .val (.ref b9), .unset, .unset]) rfl) ?_
  show own_Go p.tables e below _ (T13.setTop (mkF m 59 #[.val (.long q1), .second, .val (.long q2), .second, .val (.long q3), .second, .val (.long q4), .second, .val (.int p5), .val (.int p6), .val (.int ((p5 &&& (2147483647 : Int32)) % (5 : Int32))), .val (.int ((p6 &&& (2147483647 : Int32)) % (5 : Int32))), .val (.int (own_f1 ((p5 &&& (2147483647 : Int32)) % (5 : Int32)) ((p6 &&& (2147483647 : Int32)) % (5 : Int32)))), .val (.int (own_f2 ((p5 &&& (2147483647 : Int32)) % (5 : Int32)) ((p6 &&& (2147483647 : Int32)) % (5 : Int32)))), .val (.ref b9), .unset, .unset] []))
  obtain ⟨T14, h14, X14, e14, E14, A14, D14, -, st14⟩ := newO X13 hx hZ hown (hw _ (List.mem_of_getElem? (i := 9) rfl)) (hw _ (List.mem_of_getElem? (i := 10) rfl)) (hw _ (List.mem_of_getElem? (i := 11) rfl)) e13 (g := (mkF m 59 #[.val (.long q1), .second, .val (.long q2), .second, .val (.long q3), .second, .val (.long q4), .second, .val (.int p5), .val (.int p6), .val (.int ((p5 &&& (2147483647 : Int32)) % (5 : Int32))), .val (.int ((p6 &&& (2147483647 : Int32)) % (5 : Int32))), .val (.int (own_f1 ((p5 &&& (2147483647 : Int32)) % (5 : Int32)) ((p6 &&& (2147483647 : Int32)) % (5 : Int32)))), .val (.int (own_f2 ((p5 &&& (2147483647 : Int32)) % (5 : Int32)) ((p6 &&& (2147483647 : Int32)) % (5 : Int32)))), .val (.ref b9), .unset, .unset] [])) rfl (hb hby at_59) (by decide) (by decide)
  obtain ⟨b14, g14⟩ : ∃ z, z = h13.size := ⟨_, rfl⟩
  rw [← g14] at A14 D14 st14
  refine own_go st14 ?_
  have g_b14 : n0 ≤ b14 := Nat.le_trans (Nat.le_trans (Nat.le_trans (Nat.le_trans (Nat.le_trans (Nat.le_trans Z0 E9.1) (Keep.of_wr W10).1) (Keep.of_wr W11).1) (Keep.of_wr W12).1) (Keep.of_wr W13).1) (Nat.le_of_eq g14.symm)
  have sz_b14 : h0.size ≤ b14 := (Nat.le_trans K13.1 (Nat.le_of_eq g14.symm))
  have K14 : Keep h0 h14 [] := K13.ext E14
  have F_records_b14 : Fld Z h14 b14 "com/example/outis/outis/measures/RecordCounts" "records" "[J" .null := D14 (Or.inr (hw _ (List.mem_of_getElem? (i := 28) rfl))) (ty := (.array .long)) (by decide)
  show own_Go p.tables e below _ (T14.setTop (mkF m 62 #[.val (.long q1), .second, .val (.long q2), .second, .val (.long q3), .second, .val (.long q4), .second, .val (.int p5), .val (.int p6), .val (.int ((p5 &&& (2147483647 : Int32)) % (5 : Int32))), .val (.int ((p6 &&& (2147483647 : Int32)) % (5 : Int32))), .val (.int (own_f1 ((p5 &&& (2147483647 : Int32)) % (5 : Int32)) ((p6 &&& (2147483647 : Int32)) % (5 : Int32)))), .val (.int (own_f2 ((p5 &&& (2147483647 : Int32)) % (5 : Int32)) ((p6 &&& (2147483647 : Int32)) % (5 : Int32)))), .val (.ref b9), .unset, .unset] [(.ref b14)]))
  refine own_go (fun _ => XS.dup X14.here hx rfl (hb hby at_62) rfl rfl) ?_
  show own_Go p.tables e below _ (T14.setTop (mkF m 63 #[.val (.long q1), .second, .val (.long q2), .second, .val (.long q3), .second, .val (.long q4), .second, .val (.int p5), .val (.int p6), .val (.int ((p5 &&& (2147483647 : Int32)) % (5 : Int32))), .val (.int ((p6 &&& (2147483647 : Int32)) % (5 : Int32))), .val (.int (own_f1 ((p5 &&& (2147483647 : Int32)) % (5 : Int32)) ((p6 &&& (2147483647 : Int32)) % (5 : Int32)))), .val (.int (own_f2 ((p5 &&& (2147483647 : Int32)) % (5 : Int32)) ((p6 &&& (2147483647 : Int32)) % (5 : Int32)))), .val (.ref b9), .unset, .unset] [(.ref b14), (.ref b14)]))
  refine own_go (fun _ => XS.aload X14.here hx rfl (hb hby at_63) rfl rfl) ?_
  show own_Go p.tables e below _ (T14.setTop (mkF m 65 #[.val (.long q1), .second, .val (.long q2), .second, .val (.long q3), .second, .val (.long q4), .second, .val (.int p5), .val (.int p6), .val (.int ((p5 &&& (2147483647 : Int32)) % (5 : Int32))), .val (.int ((p6 &&& (2147483647 : Int32)) % (5 : Int32))), .val (.int (own_f1 ((p5 &&& (2147483647 : Int32)) % (5 : Int32)) ((p6 &&& (2147483647 : Int32)) % (5 : Int32)))), .val (.int (own_f2 ((p5 &&& (2147483647 : Int32)) % (5 : Int32)) ((p6 &&& (2147483647 : Int32)) % (5 : Int32)))), .val (.ref b9), .unset, .unset] [(.ref b9), (.ref b14), (.ref b14)]))
  obtain ⟨_, _, ⟨T15, L15, k15, n15⟩, -, X15, ⟨Lc15, hQ15, l15, y15, z15⟩, st15⟩ := X14.specialBack hx (y := (⟨"com/example/outis/outis/measures/RecordCounts", "<init>", "([J)V"⟩ : MethodName)) rfl hown (mvT hZ (hw _ (List.mem_of_getElem? (i := 12) rfl))) (mvT hZ (hw _ (List.mem_of_getElem? (i := 13) rfl))) (mvT hZ (hw _ (List.mem_of_getElem? (i := 14) rfl))) (by decide) (backOf (W := 1) (rm3 l Z a0 hw [] b14 b9 q1 q2 q3 q4 k9 .null h14 n0 (Nat.le_trans (Nat.le_trans (Nat.le_trans (Nat.le_trans (Nat.le_trans (Nat.le_trans Z0 E9.1) (Keep.of_wr W10).1) (Keep.of_wr W11).1) (Keep.of_wr W12).1) (Keep.of_wr W13).1) E14.1) (V13.ext E14) (((((B9.wr W10).wr W11).wr W12).wr W13).ext E14) A14 F_records_b14 g_b14) hZ (hw _ (List.mem_of_getElem? (i := 14) rfl)) (hw _ (List.mem_of_getElem? (i := 11) rfl)) (by decide) (by decide)) (g := (mkF m 65 #[.val (.long q1), .second, .val (.long q2), .second, .val (.long q3), .second, .val (.long q4), .second, .val (.int p5), .val (.int p6), .val (.int ((p5 &&& (2147483647 : Int32)) % (5 : Int32))), .val (.int ((p6 &&& (2147483647 : Int32)) % (5 : Int32))), .val (.int (own_f1 ((p5 &&& (2147483647 : Int32)) % (5 : Int32)) ((p6 &&& (2147483647 : Int32)) % (5 : Int32)))), .val (.int (own_f2 ((p5 &&& (2147483647 : Int32)) % (5 : Int32)) ((p6 &&& (2147483647 : Int32)) % (5 : Int32)))), .val (.ref b9), .unset, .unset] [(.ref b9), (.ref b14), (.ref b14)])) rfl (by rw [hml]; rfl) (Steps.refl _) (a := b14) (argsL := [(.ref b9)]) (rest := [(.ref b14)]) (lenOf pd_1 rfl) rfl (by show 2 * 0 + _ ≤ _; exact Nat.le_of_eq rfl) (hb hby at_65) (fun _ _ => ⟨rfl, e14, (by decide : 2 + 1 ≤ _), (by decide : 9 + 4 ≤ _)⟩)
  dsimp only [Pt.U, Pt.locs, Pt.cells, Pt.slots] at X15 l15 y15 z15 st15 hQ15
  subst l15 y15 z15
  obtain ⟨rfl, N15q, Kc15, F15_0, F15_1, F15_2, F15_3⟩ := hQ15
  have N15 := Fr.app N13 N15q
  refine own_via st15 ?_
  have K15 : Keep h0 T15.heap [] := K14.trans Kc15 (allS (Or.inr sz_b14) all0)
  obtain ⟨b15, g15⟩ : ∃ z, z = h14.size := ⟨_, rfl⟩
  rw [← g15] at F15_1 F15_2 F15_3
  have g_b15 : n0 ≤ b15 := Nat.le_trans (Nat.le_trans (Nat.le_trans (Nat.le_trans (Nat.le_trans (Nat.le_trans (Nat.le_trans Z0 E9.1) (Keep.of_wr W10).1) (Keep.of_wr W11).1) (Keep.of_wr W12).1) (Keep.of_wr W13).1) E14.1) (Nat.le_of_eq g15.symm)
  have sz_b15 : h0.size ≤ b15 := (Nat.le_trans K14.1 (Nat.le_of_eq g15.symm))
  show own_Go p.tables e below _ (T15.setTop (mkF m 68 #[.val (.long q1), .second, .val (.long q2), .second, .val (.long q3), .second, .val (.long q4), .second, .val (.int p5), .val (.int p6), .val (.int ((p5 &&& (2147483647 : Int32)) % (5 : Int32))), .val (.int ((p6 &&& (2147483647 : Int32)) % (5 : Int32))), .val (.int (own_f1 ((p5 &&& (2147483647 : Int32)) % (5 : Int32)) ((p6 &&& (2147483647 : Int32)) % (5 : Int32)))), .val (.int (own_f2 ((p5 &&& (2147483647 : Int32)) % (5 : Int32)) ((p6 &&& (2147483647 : Int32)) % (5 : Int32)))), .val (.ref b9), .unset, .unset] [(.ref b14)]))
  refine own_go (fun _ => XS.astore X15.here hx rfl (hb hby at_68) rfl rfl (l' := #[.val (.long q1), .second, .val (.long q2), .second, .val (.long q3), .second, .val (.long q4), .second, .val (.int p5), .val (.int p6), .val (.int ((p5 &&& (2147483647 : Int32)) % (5 : Int32))), .val (.int ((p6 &&& (2147483647 : Int32)) % (5 : Int32))), .val (.int (own_f1 ((p5 &&& (2147483647 : Int32)) % (5 : Int32)) ((p6 &&& (2147483647 : Int32)) % (5 : Int32)))), .val (.int (own_f2 ((p5 &&& (2147483647 : Int32)) % (5 : Int32)) ((p6 &&& (2147483647 : Int32)) % (5 : Int32)))), .val (.ref b9), .val (.ref b14), .unset]) rfl) ?_
  show own_Go p.tables e below _ (T15.setTop (mkF m 70 #[.val (.long q1), .second, .val (.long q2), .second, .val (.long q3), .second, .val (.long q4), .second, .val (.int p5), .val (.int p6), .val (.int ((p5 &&& (2147483647 : Int32)) % (5 : Int32))), .val (.int ((p6 &&& (2147483647 : Int32)) % (5 : Int32))), .val (.int (own_f1 ((p5 &&& (2147483647 : Int32)) % (5 : Int32)) ((p6 &&& (2147483647 : Int32)) % (5 : Int32)))), .val (.int (own_f2 ((p5 &&& (2147483647 : Int32)) % (5 : Int32)) ((p6 &&& (2147483647 : Int32)) % (5 : Int32)))), .val (.ref b9), .val (.ref b14), .unset] []))
  refine own_go (fun _ => XS.iconst X15.here hx rfl (hb hby at_70)) ?_
  show own_Go p.tables e below _ (T15.setTop (mkF m 71 #[.val (.long q1), .second, .val (.long q2), .second, .val (.long q3), .second, .val (.long q4), .second, .val (.int p5), .val (.int p6), .val (.int ((p5 &&& (2147483647 : Int32)) % (5 : Int32))), .val (.int ((p6 &&& (2147483647 : Int32)) % (5 : Int32))), .val (.int (own_f1 ((p5 &&& (2147483647 : Int32)) % (5 : Int32)) ((p6 &&& (2147483647 : Int32)) % (5 : Int32)))), .val (.int (own_f2 ((p5 &&& (2147483647 : Int32)) % (5 : Int32)) ((p6 &&& (2147483647 : Int32)) % (5 : Int32)))), .val (.ref b9), .val (.ref b14), .unset] [(.int (1 : Int32))]))
  refine own_go (fun _ => XS.istore X15.here hx rfl (hb hby at_71) rfl (l' := #[.val (.long q1), .second, .val (.long q2), .second, .val (.long q3), .second, .val (.long q4), .second, .val (.int p5), .val (.int p6), .val (.int ((p5 &&& (2147483647 : Int32)) % (5 : Int32))), .val (.int ((p6 &&& (2147483647 : Int32)) % (5 : Int32))), .val (.int (own_f1 ((p5 &&& (2147483647 : Int32)) % (5 : Int32)) ((p6 &&& (2147483647 : Int32)) % (5 : Int32)))), .val (.int (own_f2 ((p5 &&& (2147483647 : Int32)) % (5 : Int32)) ((p6 &&& (2147483647 : Int32)) % (5 : Int32)))), .val (.ref b9), .val (.ref b14), .val (.int (1 : Int32))]) rfl) ?_
  show own_Go p.tables e below _ (T15.setTop (mkF m 73 #[.val (.long q1), .second, .val (.long q2), .second, .val (.long q3), .second, .val (.long q4), .second, .val (.int p5), .val (.int p6), .val (.int ((p5 &&& (2147483647 : Int32)) % (5 : Int32))), .val (.int ((p6 &&& (2147483647 : Int32)) % (5 : Int32))), .val (.int (own_f1 ((p5 &&& (2147483647 : Int32)) % (5 : Int32)) ((p6 &&& (2147483647 : Int32)) % (5 : Int32)))), .val (.int (own_f2 ((p5 &&& (2147483647 : Int32)) % (5 : Int32)) ((p6 &&& (2147483647 : Int32)) % (5 : Int32)))), .val (.ref b9), .val (.ref b14), .val (.int (1 : Int32))] []))
  refine own_go (fun _ => XS.iload X15.here hx rfl (hb hby at_73) rfl) ?_
  show own_Go p.tables e below _ (T15.setTop (mkF m 75 #[.val (.long q1), .second, .val (.long q2), .second, .val (.long q3), .second, .val (.long q4), .second, .val (.int p5), .val (.int p6), .val (.int ((p5 &&& (2147483647 : Int32)) % (5 : Int32))), .val (.int ((p6 &&& (2147483647 : Int32)) % (5 : Int32))), .val (.int (own_f1 ((p5 &&& (2147483647 : Int32)) % (5 : Int32)) ((p6 &&& (2147483647 : Int32)) % (5 : Int32)))), .val (.int (own_f2 ((p5 &&& (2147483647 : Int32)) % (5 : Int32)) ((p6 &&& (2147483647 : Int32)) % (5 : Int32)))), .val (.ref b9), .val (.ref b14), .val (.int (1 : Int32))] [(.int (1 : Int32))]))
  refine own_go (fun _ => XS.iload X15.here hx rfl (hb hby at_75) rfl) ?_
  refine own_go (S' := T15.setTop (mkF m 91 #[.val (.long q1), .second, .val (.long q2), .second, .val (.long q3), .second, .val (.long q4), .second, .val (.int p5), .val (.int p6), .val (.int ((p5 &&& (2147483647 : Int32)) % (5 : Int32))), .val (.int ((p6 &&& (2147483647 : Int32)) % (5 : Int32))), .val (.int (own_f1 ((p5 &&& (2147483647 : Int32)) % (5 : Int32)) ((p6 &&& (2147483647 : Int32)) % (5 : Int32)))), .val (.int (own_f2 ((p5 &&& (2147483647 : Int32)) % (5 : Int32)) ((p6 &&& (2147483647 : Int32)) % (5 : Int32)))), .val (.ref b9), .val (.ref b14), .val (.int (1 : Int32))] [(.int (own_v0_77 p5 p6)), (.int (1 : Int32))])) (fun t kt => ?_) ?_
  · skip
    show Steps p.tables e below (T15.setTop (mkF m 77 #[.val (.long q1), .second, .val (.long q2), .second, .val (.long q3), .second, .val (.long q4), .second, .val (.int p5), .val (.int p6), .val (.int ((p5 &&& (2147483647 : Int32)) % (5 : Int32))), .val (.int ((p6 &&& (2147483647 : Int32)) % (5 : Int32))), .val (.int (own_f1 ((p5 &&& (2147483647 : Int32)) % (5 : Int32)) ((p6 &&& (2147483647 : Int32)) % (5 : Int32)))), .val (.int (own_f2 ((p5 &&& (2147483647 : Int32)) % (5 : Int32)) ((p6 &&& (2147483647 : Int32)) % (5 : Int32)))), .val (.ref b9), .val (.ref b14), .val (.int (1 : Int32))] [(.int (own_f1 ((p5 &&& (2147483647 : Int32)) % (5 : Int32)) ((p6 &&& (2147483647 : Int32)) % (5 : Int32)))), (.int (1 : Int32))])) _
    by_cases hc16_77 : (0 : Int32) < (own_f1 ((p5 &&& (2147483647 : Int32)) % (5 : Int32)) ((p6 &&& (2147483647 : Int32)) % (5 : Int32)))
    · skip
      refine XS.ifYes X15.here hx rfl (pc0 := 77) (pc' := 90) rfl (hb hby at_77) rfl ((if0 _ _).trans (tlt hc16_77).2.2.1) (by decide) (by decide) ?_
      show Steps p.tables e below (T15.setTop (mkF m 90 #[.val (.long q1), .second, .val (.long q2), .second, .val (.long q3), .second, .val (.long q4), .second, .val (.int p5), .val (.int p6), .val (.int ((p5 &&& (2147483647 : Int32)) % (5 : Int32))), .val (.int ((p6 &&& (2147483647 : Int32)) % (5 : Int32))), .val (.int (own_f1 ((p5 &&& (2147483647 : Int32)) % (5 : Int32)) ((p6 &&& (2147483647 : Int32)) % (5 : Int32)))), .val (.int (own_f2 ((p5 &&& (2147483647 : Int32)) % (5 : Int32)) ((p6 &&& (2147483647 : Int32)) % (5 : Int32)))), .val (.ref b9), .val (.ref b14), .val (.int (1 : Int32))] [(.int (1 : Int32))])) _
      refine XS.iconst X15.here hx rfl (hb hby at_90) ?_
      show Steps p.tables e below (T15.setTop (mkF m 91 #[.val (.long q1), .second, .val (.long q2), .second, .val (.long q3), .second, .val (.long q4), .second, .val (.int p5), .val (.int p6), .val (.int ((p5 &&& (2147483647 : Int32)) % (5 : Int32))), .val (.int ((p6 &&& (2147483647 : Int32)) % (5 : Int32))), .val (.int (own_f1 ((p5 &&& (2147483647 : Int32)) % (5 : Int32)) ((p6 &&& (2147483647 : Int32)) % (5 : Int32)))), .val (.int (own_f2 ((p5 &&& (2147483647 : Int32)) % (5 : Int32)) ((p6 &&& (2147483647 : Int32)) % (5 : Int32)))), .val (.ref b9), .val (.ref b14), .val (.int (1 : Int32))] [(.int (0 : Int32)), (.int (1 : Int32))])) _
      rw [show (own_v0_77 p5 p6) = (0 : Int32) from ((if_pos hc16_77).trans rfl)] at kt
      exact kt
    · skip
      refine XS.ifNo X15.here hx rfl (hb hby at_77) rfl ((if0 _ _).trans (flt hc16_77).2.2.1) ?_
      show Steps p.tables e below (T15.setTop (mkF m 80 #[.val (.long q1), .second, .val (.long q2), .second, .val (.long q3), .second, .val (.long q4), .second, .val (.int p5), .val (.int p6), .val (.int ((p5 &&& (2147483647 : Int32)) % (5 : Int32))), .val (.int ((p6 &&& (2147483647 : Int32)) % (5 : Int32))), .val (.int (own_f1 ((p5 &&& (2147483647 : Int32)) % (5 : Int32)) ((p6 &&& (2147483647 : Int32)) % (5 : Int32)))), .val (.int (own_f2 ((p5 &&& (2147483647 : Int32)) % (5 : Int32)) ((p6 &&& (2147483647 : Int32)) % (5 : Int32)))), .val (.ref b9), .val (.ref b14), .val (.int (1 : Int32))] [(.int (1 : Int32))])) _
      refine XS.iconst X15.here hx rfl (hb hby at_80) ?_
      show Steps p.tables e below (T15.setTop (mkF m 81 #[.val (.long q1), .second, .val (.long q2), .second, .val (.long q3), .second, .val (.long q4), .second, .val (.int p5), .val (.int p6), .val (.int ((p5 &&& (2147483647 : Int32)) % (5 : Int32))), .val (.int ((p6 &&& (2147483647 : Int32)) % (5 : Int32))), .val (.int (own_f1 ((p5 &&& (2147483647 : Int32)) % (5 : Int32)) ((p6 &&& (2147483647 : Int32)) % (5 : Int32)))), .val (.int (own_f2 ((p5 &&& (2147483647 : Int32)) % (5 : Int32)) ((p6 &&& (2147483647 : Int32)) % (5 : Int32)))), .val (.ref b9), .val (.ref b14), .val (.int (1 : Int32))] [(.int (0 : Int32)), (.int (1 : Int32))])) _
      refine XS.iload X15.here hx rfl (hb hby at_81) rfl ?_
      show Steps p.tables e below (T15.setTop (mkF m 83 #[.val (.long q1), .second, .val (.long q2), .second, .val (.long q3), .second, .val (.long q4), .second, .val (.int p5), .val (.int p6), .val (.int ((p5 &&& (2147483647 : Int32)) % (5 : Int32))), .val (.int ((p6 &&& (2147483647 : Int32)) % (5 : Int32))), .val (.int (own_f1 ((p5 &&& (2147483647 : Int32)) % (5 : Int32)) ((p6 &&& (2147483647 : Int32)) % (5 : Int32)))), .val (.int (own_f2 ((p5 &&& (2147483647 : Int32)) % (5 : Int32)) ((p6 &&& (2147483647 : Int32)) % (5 : Int32)))), .val (.ref b9), .val (.ref b14), .val (.int (1 : Int32))] [(.int (own_f2 ((p5 &&& (2147483647 : Int32)) % (5 : Int32)) ((p6 &&& (2147483647 : Int32)) % (5 : Int32)))), (.int (0 : Int32)), (.int (1 : Int32))])) _
      by_cases hc17_83 : (0 : Int32) < (own_f2 ((p5 &&& (2147483647 : Int32)) % (5 : Int32)) ((p6 &&& (2147483647 : Int32)) % (5 : Int32)))
      · skip
        refine XS.icmpNo X15.here hx rfl (hb hby at_83) rfl (tlt hc17_83).2.1 ?_
        show Steps p.tables e below (T15.setTop (mkF m 86 #[.val (.long q1), .second, .val (.long q2), .second, .val (.long q3), .second, .val (.long q4), .second, .val (.int p5), .val (.int p6), .val (.int ((p5 &&& (2147483647 : Int32)) % (5 : Int32))), .val (.int ((p6 &&& (2147483647 : Int32)) % (5 : Int32))), .val (.int (own_f1 ((p5 &&& (2147483647 : Int32)) % (5 : Int32)) ((p6 &&& (2147483647 : Int32)) % (5 : Int32)))), .val (.int (own_f2 ((p5 &&& (2147483647 : Int32)) % (5 : Int32)) ((p6 &&& (2147483647 : Int32)) % (5 : Int32)))), .val (.ref b9), .val (.ref b14), .val (.int (1 : Int32))] [(.int (1 : Int32))])) _
        refine XS.iconst X15.here hx rfl (hb hby at_86) ?_
        show Steps p.tables e below (T15.setTop (mkF m 87 #[.val (.long q1), .second, .val (.long q2), .second, .val (.long q3), .second, .val (.long q4), .second, .val (.int p5), .val (.int p6), .val (.int ((p5 &&& (2147483647 : Int32)) % (5 : Int32))), .val (.int ((p6 &&& (2147483647 : Int32)) % (5 : Int32))), .val (.int (own_f1 ((p5 &&& (2147483647 : Int32)) % (5 : Int32)) ((p6 &&& (2147483647 : Int32)) % (5 : Int32)))), .val (.int (own_f2 ((p5 &&& (2147483647 : Int32)) % (5 : Int32)) ((p6 &&& (2147483647 : Int32)) % (5 : Int32)))), .val (.ref b9), .val (.ref b14), .val (.int (1 : Int32))] [(.int (1 : Int32)), (.int (1 : Int32))])) _
        refine XS.goto X15.here hx rfl (pc0 := 87) (pc' := 91) rfl (hb hby at_87) (by decide) (by decide) ?_
        show Steps p.tables e below (T15.setTop (mkF m 91 #[.val (.long q1), .second, .val (.long q2), .second, .val (.long q3), .second, .val (.long q4), .second, .val (.int p5), .val (.int p6), .val (.int ((p5 &&& (2147483647 : Int32)) % (5 : Int32))), .val (.int ((p6 &&& (2147483647 : Int32)) % (5 : Int32))), .val (.int (own_f1 ((p5 &&& (2147483647 : Int32)) % (5 : Int32)) ((p6 &&& (2147483647 : Int32)) % (5 : Int32)))), .val (.int (own_f2 ((p5 &&& (2147483647 : Int32)) % (5 : Int32)) ((p6 &&& (2147483647 : Int32)) % (5 : Int32)))), .val (.ref b9), .val (.ref b14), .val (.int (1 : Int32))] [(.int (1 : Int32)), (.int (1 : Int32))])) _
        rw [show (own_v0_77 p5 p6) = (1 : Int32) from ((if_neg hc16_77).trans ((if_pos hc17_83).trans rfl))] at kt
        exact kt
      · skip
        refine XS.icmpYes X15.here hx rfl (pc0 := 83) (pc' := 90) rfl (hb hby at_83) rfl (flt hc17_83).2.1 (by decide) (by decide) ?_
        show Steps p.tables e below (T15.setTop (mkF m 90 #[.val (.long q1), .second, .val (.long q2), .second, .val (.long q3), .second, .val (.long q4), .second, .val (.int p5), .val (.int p6), .val (.int ((p5 &&& (2147483647 : Int32)) % (5 : Int32))), .val (.int ((p6 &&& (2147483647 : Int32)) % (5 : Int32))), .val (.int (own_f1 ((p5 &&& (2147483647 : Int32)) % (5 : Int32)) ((p6 &&& (2147483647 : Int32)) % (5 : Int32)))), .val (.int (own_f2 ((p5 &&& (2147483647 : Int32)) % (5 : Int32)) ((p6 &&& (2147483647 : Int32)) % (5 : Int32)))), .val (.ref b9), .val (.ref b14), .val (.int (1 : Int32))] [(.int (1 : Int32))])) _
        refine XS.iconst X15.here hx rfl (hb hby at_90) ?_
        show Steps p.tables e below (T15.setTop (mkF m 91 #[.val (.long q1), .second, .val (.long q2), .second, .val (.long q3), .second, .val (.long q4), .second, .val (.int p5), .val (.int p6), .val (.int ((p5 &&& (2147483647 : Int32)) % (5 : Int32))), .val (.int ((p6 &&& (2147483647 : Int32)) % (5 : Int32))), .val (.int (own_f1 ((p5 &&& (2147483647 : Int32)) % (5 : Int32)) ((p6 &&& (2147483647 : Int32)) % (5 : Int32)))), .val (.int (own_f2 ((p5 &&& (2147483647 : Int32)) % (5 : Int32)) ((p6 &&& (2147483647 : Int32)) % (5 : Int32)))), .val (.ref b9), .val (.ref b14), .val (.int (1 : Int32))] [(.int (0 : Int32)), (.int (1 : Int32))])) _
        rw [show (own_v0_77 p5 p6) = (0 : Int32) from ((if_neg hc16_77).trans ((if_neg hc17_83).trans rfl))] at kt
        exact kt
  show own_Go p.tables e below _ (T15.setTop (mkF m 91 #[.val (.long q1), .second, .val (.long q2), .second, .val (.long q3), .second, .val (.long q4), .second, .val (.int p5), .val (.int p6), .val (.int ((p5 &&& (2147483647 : Int32)) % (5 : Int32))), .val (.int ((p6 &&& (2147483647 : Int32)) % (5 : Int32))), .val (.int (own_f1 ((p5 &&& (2147483647 : Int32)) % (5 : Int32)) ((p6 &&& (2147483647 : Int32)) % (5 : Int32)))), .val (.int (own_f2 ((p5 &&& (2147483647 : Int32)) % (5 : Int32)) ((p6 &&& (2147483647 : Int32)) % (5 : Int32)))), .val (.ref b9), .val (.ref b14), .val (.int (1 : Int32))] [(.int (own_v0_77 p5 p6)), (.int (1 : Int32))]))
  refine own_go (fun _ => XS.lloadN X15.here hx rfl (hb hby at_91) rfl) ?_
  show own_Go p.tables e below _ (T15.setTop (mkF m 92 #[.val (.long q1), .second, .val (.long q2), .second, .val (.long q3), .second, .val (.long q4), .second, .val (.int p5), .val (.int p6), .val (.int ((p5 &&& (2147483647 : Int32)) % (5 : Int32))), .val (.int ((p6 &&& (2147483647 : Int32)) % (5 : Int32))), .val (.int (own_f1 ((p5 &&& (2147483647 : Int32)) % (5 : Int32)) ((p6 &&& (2147483647 : Int32)) % (5 : Int32)))), .val (.int (own_f2 ((p5 &&& (2147483647 : Int32)) % (5 : Int32)) ((p6 &&& (2147483647 : Int32)) % (5 : Int32)))), .val (.ref b9), .val (.ref b14), .val (.int (1 : Int32))] [(.long q1), (.int (own_v0_77 p5 p6)), (.int (1 : Int32))]))
  obtain ⟨_, _, ⟨T18, L18, k18, n18⟩, -, X18, ⟨Lc18, hQ18, l18, y18, z18⟩, st18⟩ := Jvm.LawKit.callS X15 hx (y := (⟨"com/example/outis/outis/measures/RecordCountsHashOfRunPinLaw", "step", "(IZJ)I"⟩ : MethodName)) hown (mvT hZ (hw _ (List.mem_of_getElem? (i := 29) rfl))) (mvT hZ (hw _ (List.mem_of_getElem? (i := 30) rfl))) (mvT hZ (hw _ (List.mem_of_getElem? (i := 31) rfl))) (mvT hZ (hw _ (List.mem_of_getElem? (i := 32) rfl))) (by decide) (backOf (W := 0) (rm5 l Z a0 hw [] (1 : Int32) (own_v0_77 p5 p6) q1 T15.heap n0 (Nat.le_trans (Nat.le_trans (Nat.le_trans (Nat.le_trans (Nat.le_trans (Nat.le_trans (Nat.le_trans Z0 E9.1) (Keep.of_wr W10).1) (Keep.of_wr W11).1) (Keep.of_wr W12).1) (Keep.of_wr W13).1) E14.1) Kc15.1) ) hZ (hw _ (List.mem_of_getElem? (i := 32) rfl)) (hw _ (List.mem_of_getElem? (i := 31) rfl)) (by decide) (by decide)) (g := (mkF m 92 #[.val (.long q1), .second, .val (.long q2), .second, .val (.long q3), .second, .val (.long q4), .second, .val (.int p5), .val (.int p6), .val (.int ((p5 &&& (2147483647 : Int32)) % (5 : Int32))), .val (.int ((p6 &&& (2147483647 : Int32)) % (5 : Int32))), .val (.int (own_f1 ((p5 &&& (2147483647 : Int32)) % (5 : Int32)) ((p6 &&& (2147483647 : Int32)) % (5 : Int32)))), .val (.int (own_f2 ((p5 &&& (2147483647 : Int32)) % (5 : Int32)) ((p6 &&& (2147483647 : Int32)) % (5 : Int32)))), .val (.ref b9), .val (.ref b14), .val (.int (1 : Int32))] [(.long q1), (.int (own_v0_77 p5 p6)), (.int (1 : Int32))])) rfl (by rw [hml]; rfl) (argsL := [(.int (1 : Int32)), (.int (own_v0_77 p5 p6)), (.long q1)]) (rest := []) (lenOf pd_4 rfl) rfl (by show 2 * 0 + _ ≤ _; exact Nat.le_of_eq rfl) (hb hby at_92) (fun _ _ => ⟨rfl, rfl, (by decide : 3 + 0 ≤ _), (by decide : 13 + 0 ≤ _)⟩)
  dsimp only [Pt.U, Pt.locs, Pt.cells, Pt.slots] at X18 l18 y18 z18 st18 hQ18
  subst l18 y18 z18
  obtain ⟨rfl, N18q, e18⟩ := hQ18
  have N18 := Fr.app N15 N18q
  refine own_go st18 ?_
  show own_Go p.tables e below _ (T18.setTop (mkF m 95 #[.val (.long q1), .second, .val (.long q2), .second, .val (.long q3), .second, .val (.long q4), .second, .val (.int p5), .val (.int p6), .val (.int ((p5 &&& (2147483647 : Int32)) % (5 : Int32))), .val (.int ((p6 &&& (2147483647 : Int32)) % (5 : Int32))), .val (.int (own_f1 ((p5 &&& (2147483647 : Int32)) % (5 : Int32)) ((p6 &&& (2147483647 : Int32)) % (5 : Int32)))), .val (.int (own_f2 ((p5 &&& (2147483647 : Int32)) % (5 : Int32)) ((p6 &&& (2147483647 : Int32)) % (5 : Int32)))), .val (.ref b9), .val (.ref b14), .val (.int (1 : Int32))] [(.int (own_f5 (1 : Int32) (own_v0_77 p5 p6) q1))]))
  refine own_go (fun _ => XS.istore X18.here hx rfl (hb hby at_95) rfl (l' := #[.val (.long q1), .second, .val (.long q2), .second, .val (.long q3), .second, .val (.long q4), .second, .val (.int p5), .val (.int p6), .val (.int ((p5 &&& (2147483647 : Int32)) % (5 : Int32))), .val (.int ((p6 &&& (2147483647 : Int32)) % (5 : Int32))), .val (.int (own_f1 ((p5 &&& (2147483647 : Int32)) % (5 : Int32)) ((p6 &&& (2147483647 : Int32)) % (5 : Int32)))), .val (.int (own_f2 ((p5 &&& (2147483647 : Int32)) % (5 : Int32)) ((p6 &&& (2147483647 : Int32)) % (5 : Int32)))), .val (.ref b9), .val (.ref b14), .val (.int (own_f5 (1 : Int32) (own_v0_77 p5 p6) q1))]) rfl) ?_
  show own_Go p.tables e below _ (T18.setTop (mkF m 97 #[.val (.long q1), .second, .val (.long q2), .second, .val (.long q3), .second, .val (.long q4), .second, .val (.int p5), .val (.int p6), .val (.int ((p5 &&& (2147483647 : Int32)) % (5 : Int32))), .val (.int ((p6 &&& (2147483647 : Int32)) % (5 : Int32))), .val (.int (own_f1 ((p5 &&& (2147483647 : Int32)) % (5 : Int32)) ((p6 &&& (2147483647 : Int32)) % (5 : Int32)))), .val (.int (own_f2 ((p5 &&& (2147483647 : Int32)) % (5 : Int32)) ((p6 &&& (2147483647 : Int32)) % (5 : Int32)))), .val (.ref b9), .val (.ref b14), .val (.int (own_f5 (1 : Int32) (own_v0_77 p5 p6) q1))] []))
  refine own_go (fun _ => XS.iload X18.here hx rfl (hb hby at_97) rfl) ?_
  show own_Go p.tables e below _ (T18.setTop (mkF m 99 #[.val (.long q1), .second, .val (.long q2), .second, .val (.long q3), .second, .val (.long q4), .second, .val (.int p5), .val (.int p6), .val (.int ((p5 &&& (2147483647 : Int32)) % (5 : Int32))), .val (.int ((p6 &&& (2147483647 : Int32)) % (5 : Int32))), .val (.int (own_f1 ((p5 &&& (2147483647 : Int32)) % (5 : Int32)) ((p6 &&& (2147483647 : Int32)) % (5 : Int32)))), .val (.int (own_f2 ((p5 &&& (2147483647 : Int32)) % (5 : Int32)) ((p6 &&& (2147483647 : Int32)) % (5 : Int32)))), .val (.ref b9), .val (.ref b14), .val (.int (own_f5 (1 : Int32) (own_v0_77 p5 p6) q1))] [(.int (own_f5 (1 : Int32) (own_v0_77 p5 p6) q1))]))
  refine own_go (fun _ => XS.iload X18.here hx rfl (hb hby at_99) rfl) ?_
  show own_Go p.tables e below _ (T18.setTop (mkF m 101 #[.val (.long q1), .second, .val (.long q2), .second, .val (.long q3), .second, .val (.long q4), .second, .val (.int p5), .val (.int p6), .val (.int ((p5 &&& (2147483647 : Int32)) % (5 : Int32))), .val (.int ((p6 &&& (2147483647 : Int32)) % (5 : Int32))), .val (.int (own_f1 ((p5 &&& (2147483647 : Int32)) % (5 : Int32)) ((p6 &&& (2147483647 : Int32)) % (5 : Int32)))), .val (.int (own_f2 ((p5 &&& (2147483647 : Int32)) % (5 : Int32)) ((p6 &&& (2147483647 : Int32)) % (5 : Int32)))), .val (.ref b9), .val (.ref b14), .val (.int (own_f5 (1 : Int32) (own_v0_77 p5 p6) q1))] [(.int (own_f1 ((p5 &&& (2147483647 : Int32)) % (5 : Int32)) ((p6 &&& (2147483647 : Int32)) % (5 : Int32)))), (.int (own_f5 (1 : Int32) (own_v0_77 p5 p6) q1))]))
  refine own_go (fun _ => XS.iconst X18.here hx rfl (hb hby at_101)) ?_
  refine own_go (S' := T18.setTop (mkF m 116 #[.val (.long q1), .second, .val (.long q2), .second, .val (.long q3), .second, .val (.long q4), .second, .val (.int p5), .val (.int p6), .val (.int ((p5 &&& (2147483647 : Int32)) % (5 : Int32))), .val (.int ((p6 &&& (2147483647 : Int32)) % (5 : Int32))), .val (.int (own_f1 ((p5 &&& (2147483647 : Int32)) % (5 : Int32)) ((p6 &&& (2147483647 : Int32)) % (5 : Int32)))), .val (.int (own_f2 ((p5 &&& (2147483647 : Int32)) % (5 : Int32)) ((p6 &&& (2147483647 : Int32)) % (5 : Int32)))), .val (.ref b9), .val (.ref b14), .val (.int (own_f5 (1 : Int32) (own_v0_77 p5 p6) q1))] [(.int (own_v0_102 p5 p6)), (.int (own_f5 (1 : Int32) (own_v0_77 p5 p6) q1))])) (fun t kt => ?_) ?_
  · skip
    show Steps p.tables e below (T18.setTop (mkF m 102 #[.val (.long q1), .second, .val (.long q2), .second, .val (.long q3), .second, .val (.long q4), .second, .val (.int p5), .val (.int p6), .val (.int ((p5 &&& (2147483647 : Int32)) % (5 : Int32))), .val (.int ((p6 &&& (2147483647 : Int32)) % (5 : Int32))), .val (.int (own_f1 ((p5 &&& (2147483647 : Int32)) % (5 : Int32)) ((p6 &&& (2147483647 : Int32)) % (5 : Int32)))), .val (.int (own_f2 ((p5 &&& (2147483647 : Int32)) % (5 : Int32)) ((p6 &&& (2147483647 : Int32)) % (5 : Int32)))), .val (.ref b9), .val (.ref b14), .val (.int (own_f5 (1 : Int32) (own_v0_77 p5 p6) q1))] [(.int (1 : Int32)), (.int (own_f1 ((p5 &&& (2147483647 : Int32)) % (5 : Int32)) ((p6 &&& (2147483647 : Int32)) % (5 : Int32)))), (.int (own_f5 (1 : Int32) (own_v0_77 p5 p6) q1))])) _
    by_cases hc19_102 : (1 : Int32) < (own_f1 ((p5 &&& (2147483647 : Int32)) % (5 : Int32)) ((p6 &&& (2147483647 : Int32)) % (5 : Int32)))
    · skip
      refine XS.icmpYes X18.here hx rfl (pc0 := 102) (pc' := 115) rfl (hb hby at_102) rfl (tlt hc19_102).2.2.1 (by decide) (by decide) ?_
      show Steps p.tables e below (T18.setTop (mkF m 115 #[.val (.long q1), .second, .val (.long q2), .second, .val (.long q3), .second, .val (.long q4), .second, .val (.int p5), .val (.int p6), .val (.int ((p5 &&& (2147483647 : Int32)) % (5 : Int32))), .val (.int ((p6 &&& (2147483647 : Int32)) % (5 : Int32))), .val (.int (own_f1 ((p5 &&& (2147483647 : Int32)) % (5 : Int32)) ((p6 &&& (2147483647 : Int32)) % (5 : Int32)))), .val (.int (own_f2 ((p5 &&& (2147483647 : Int32)) % (5 : Int32)) ((p6 &&& (2147483647 : Int32)) % (5 : Int32)))), .val (.ref b9), .val (.ref b14), .val (.int (own_f5 (1 : Int32) (own_v0_77 p5 p6) q1))] [(.int (own_f5 (1 : Int32) (own_v0_77 p5 p6) q1))])) _
      refine XS.iconst X18.here hx rfl (hb hby at_115) ?_
      show Steps p.tables e below (T18.setTop (mkF m 116 #[.val (.long q1), .second, .val (.long q2), .second, .val (.long q3), .second, .val (.long q4), .second, .val (.int p5), .val (.int p6), .val (.int ((p5 &&& (2147483647 : Int32)) % (5 : Int32))), .val (.int ((p6 &&& (2147483647 : Int32)) % (5 : Int32))), .val (.int (own_f1 ((p5 &&& (2147483647 : Int32)) % (5 : Int32)) ((p6 &&& (2147483647 : Int32)) % (5 : Int32)))), .val (.int (own_f2 ((p5 &&& (2147483647 : Int32)) % (5 : Int32)) ((p6 &&& (2147483647 : Int32)) % (5 : Int32)))), .val (.ref b9), .val (.ref b14), .val (.int (own_f5 (1 : Int32) (own_v0_77 p5 p6) q1))] [(.int (0 : Int32)), (.int (own_f5 (1 : Int32) (own_v0_77 p5 p6) q1))])) _
      rw [show (own_v0_102 p5 p6) = (0 : Int32) from ((if_pos hc19_102).trans rfl)] at kt
      exact kt
    · skip
      refine XS.icmpNo X18.here hx rfl (hb hby at_102) rfl (flt hc19_102).2.2.1 ?_
      show Steps p.tables e below (T18.setTop (mkF m 105 #[.val (.long q1), .second, .val (.long q2), .second, .val (.long q3), .second, .val (.long q4), .second, .val (.int p5), .val (.int p6), .val (.int ((p5 &&& (2147483647 : Int32)) % (5 : Int32))), .val (.int ((p6 &&& (2147483647 : Int32)) % (5 : Int32))), .val (.int (own_f1 ((p5 &&& (2147483647 : Int32)) % (5 : Int32)) ((p6 &&& (2147483647 : Int32)) % (5 : Int32)))), .val (.int (own_f2 ((p5 &&& (2147483647 : Int32)) % (5 : Int32)) ((p6 &&& (2147483647 : Int32)) % (5 : Int32)))), .val (.ref b9), .val (.ref b14), .val (.int (own_f5 (1 : Int32) (own_v0_77 p5 p6) q1))] [(.int (own_f5 (1 : Int32) (own_v0_77 p5 p6) q1))])) _
      refine XS.iconst X18.here hx rfl (hb hby at_105) ?_
      show Steps p.tables e below (T18.setTop (mkF m 106 #[.val (.long q1), .second, .val (.long q2), .second, .val (.long q3), .second, .val (.long q4), .second, .val (.int p5), .val (.int p6), .val (.int ((p5 &&& (2147483647 : Int32)) % (5 : Int32))), .val (.int ((p6 &&& (2147483647 : Int32)) % (5 : Int32))), .val (.int (own_f1 ((p5 &&& (2147483647 : Int32)) % (5 : Int32)) ((p6 &&& (2147483647 : Int32)) % (5 : Int32)))), .val (.int (own_f2 ((p5 &&& (2147483647 : Int32)) % (5 : Int32)) ((p6 &&& (2147483647 : Int32)) % (5 : Int32)))), .val (.ref b9), .val (.ref b14), .val (.int (own_f5 (1 : Int32) (own_v0_77 p5 p6) q1))] [(.int (1 : Int32)), (.int (own_f5 (1 : Int32) (own_v0_77 p5 p6) q1))])) _
      refine XS.iload X18.here hx rfl (hb hby at_106) rfl ?_
      show Steps p.tables e below (T18.setTop (mkF m 108 #[.val (.long q1), .second, .val (.long q2), .second, .val (.long q3), .second, .val (.long q4), .second, .val (.int p5), .val (.int p6), .val (.int ((p5 &&& (2147483647 : Int32)) % (5 : Int32))), .val (.int ((p6 &&& (2147483647 : Int32)) % (5 : Int32))), .val (.int (own_f1 ((p5 &&& (2147483647 : Int32)) % (5 : Int32)) ((p6 &&& (2147483647 : Int32)) % (5 : Int32)))), .val (.int (own_f2 ((p5 &&& (2147483647 : Int32)) % (5 : Int32)) ((p6 &&& (2147483647 : Int32)) % (5 : Int32)))), .val (.ref b9), .val (.ref b14), .val (.int (own_f5 (1 : Int32) (own_v0_77 p5 p6) q1))] [(.int (own_f2 ((p5 &&& (2147483647 : Int32)) % (5 : Int32)) ((p6 &&& (2147483647 : Int32)) % (5 : Int32)))), (.int (1 : Int32)), (.int (own_f5 (1 : Int32) (own_v0_77 p5 p6) q1))])) _
      by_cases hc20_108 : (1 : Int32) < (own_f2 ((p5 &&& (2147483647 : Int32)) % (5 : Int32)) ((p6 &&& (2147483647 : Int32)) % (5 : Int32)))
      · skip
        refine XS.icmpNo X18.here hx rfl (hb hby at_108) rfl (tlt hc20_108).2.1 ?_
        show Steps p.tables e below (T18.setTop (mkF m 111 #[.val (.long q1), .second, .val (.long q2), .second, .val (.long q3), .second, .val (.long q4), .second, .val (.int p5), .val (.int p6), .val (.int ((p5 &&& (2147483647 : Int32)) % (5 : Int32))), .val (.int ((p6 &&& (2147483647 : Int32)) % (5 : Int32))), .val (.int (own_f1 ((p5 &&& (2147483647 : Int32)) % (5 : Int32)) ((p6 &&& (2147483647 : Int32)) % (5 : Int32)))), .val (.int (own_f2 ((p5 &&& (2147483647 : Int32)) % (5 : Int32)) ((p6 &&& (2147483647 : Int32)) % (5 : Int32)))), .val (.ref b9), .val (.ref b14), .val (.int (own_f5 (1 : Int32) (own_v0_77 p5 p6) q1))] [(.int (own_f5 (1 : Int32) (own_v0_77 p5 p6) q1))])) _
        refine XS.iconst X18.here hx rfl (hb hby at_111) ?_
        show Steps p.tables e below (T18.setTop (mkF m 112 #[.val (.long q1), .second, .val (.long q2), .second, .val (.long q3), .second, .val (.long q4), .second, .val (.int p5), .val (.int p6), .val (.int ((p5 &&& (2147483647 : Int32)) % (5 : Int32))), .val (.int ((p6 &&& (2147483647 : Int32)) % (5 : Int32))), .val (.int (own_f1 ((p5 &&& (2147483647 : Int32)) % (5 : Int32)) ((p6 &&& (2147483647 : Int32)) % (5 : Int32)))), .val (.int (own_f2 ((p5 &&& (2147483647 : Int32)) % (5 : Int32)) ((p6 &&& (2147483647 : Int32)) % (5 : Int32)))), .val (.ref b9), .val (.ref b14), .val (.int (own_f5 (1 : Int32) (own_v0_77 p5 p6) q1))] [(.int (1 : Int32)), (.int (own_f5 (1 : Int32) (own_v0_77 p5 p6) q1))])) _
        refine XS.goto X18.here hx rfl (pc0 := 112) (pc' := 116) rfl (hb hby at_112) (by decide) (by decide) ?_
        show Steps p.tables e below (T18.setTop (mkF m 116 #[.val (.long q1), .second, .val (.long q2), .second, .val (.long q3), .second, .val (.long q4), .second, .val (.int p5), .val (.int p6), .val (.int ((p5 &&& (2147483647 : Int32)) % (5 : Int32))), .val (.int ((p6 &&& (2147483647 : Int32)) % (5 : Int32))), .val (.int (own_f1 ((p5 &&& (2147483647 : Int32)) % (5 : Int32)) ((p6 &&& (2147483647 : Int32)) % (5 : Int32)))), .val (.int (own_f2 ((p5 &&& (2147483647 : Int32)) % (5 : Int32)) ((p6 &&& (2147483647 : Int32)) % (5 : Int32)))), .val (.ref b9), .val (.ref b14), .val (.int (own_f5 (1 : Int32) (own_v0_77 p5 p6) q1))] [(.int (1 : Int32)), (.int (own_f5 (1 : Int32) (own_v0_77 p5 p6) q1))])) _
        rw [show (own_v0_102 p5 p6) = (1 : Int32) from ((if_neg hc19_102).trans ((if_pos hc20_108).trans rfl))] at kt
        exact kt
      · skip
        refine XS.icmpYes X18.here hx rfl (pc0 := 108) (pc' := 115) rfl (hb hby at_108) rfl (flt hc20_108).2.1 (by decide) (by decide) ?_
        show Steps p.tables e below (T18.setTop (mkF m 115 #[.val (.long q1), .second, .val (.long q2), .second, .val (.long q3), .second, .val (.long q4), .second, .val (.int p5), .val (.int p6), .val (.int ((p5 &&& (2147483647 : Int32)) % (5 : Int32))), .val (.int ((p6 &&& (2147483647 : Int32)) % (5 : Int32))), .val (.int (own_f1 ((p5 &&& (2147483647 : Int32)) % (5 : Int32)) ((p6 &&& (2147483647 : Int32)) % (5 : Int32)))), .val (.int (own_f2 ((p5 &&& (2147483647 : Int32)) % (5 : Int32)) ((p6 &&& (2147483647 : Int32)) % (5 : Int32)))), .val (.ref b9), .val (.ref b14), .val (.int (own_f5 (1 : Int32) (own_v0_77 p5 p6) q1))] [(.int (own_f5 (1 : Int32) (own_v0_77 p5 p6) q1))])) _
        refine XS.iconst X18.here hx rfl (hb hby at_115) ?_
        show Steps p.tables e below (T18.setTop (mkF m 116 #[.val (.long q1), .second, .val (.long q2), .second, .val (.long q3), .second, .val (.long q4), .second, .val (.int p5), .val (.int p6), .val (.int ((p5 &&& (2147483647 : Int32)) % (5 : Int32))), .val (.int ((p6 &&& (2147483647 : Int32)) % (5 : Int32))), .val (.int (own_f1 ((p5 &&& (2147483647 : Int32)) % (5 : Int32)) ((p6 &&& (2147483647 : Int32)) % (5 : Int32)))), .val (.int (own_f2 ((p5 &&& (2147483647 : Int32)) % (5 : Int32)) ((p6 &&& (2147483647 : Int32)) % (5 : Int32)))), .val (.ref b9), .val (.ref b14), .val (.int (own_f5 (1 : Int32) (own_v0_77 p5 p6) q1))] [(.int (0 : Int32)), (.int (own_f5 (1 : Int32) (own_v0_77 p5 p6) q1))])) _
        rw [show (own_v0_102 p5 p6) = (0 : Int32) from ((if_neg hc19_102).trans ((if_neg hc20_108).trans rfl))] at kt
        exact kt
  show own_Go p.tables e below _ (T18.setTop (mkF m 116 #[.val (.long q1), .second, .val (.long q2), .second, .val (.long q3), .second, .val (.long q4), .second, .val (.int p5), .val (.int p6), .val (.int ((p5 &&& (2147483647 : Int32)) % (5 : Int32))), .val (.int ((p6 &&& (2147483647 : Int32)) % (5 : Int32))), .val (.int (own_f1 ((p5 &&& (2147483647 : Int32)) % (5 : Int32)) ((p6 &&& (2147483647 : Int32)) % (5 : Int32)))), .val (.int (own_f2 ((p5 &&& (2147483647 : Int32)) % (5 : Int32)) ((p6 &&& (2147483647 : Int32)) % (5 : Int32)))), .val (.ref b9), .val (.ref b14), .val (.int (own_f5 (1 : Int32) (own_v0_77 p5 p6) q1))] [(.int (own_v0_102 p5 p6)), (.int (own_f5 (1 : Int32) (own_v0_77 p5 p6) q1))]))
  refine own_go (fun _ => XS.lloadN X18.here hx rfl (hb hby at_116) rfl) ?_
  show own_Go p.tables e below _ (T18.setTop (mkF m 117 #[.val (.long q1), .second, .val (.long q2), .second, .val (.long q3), .second, .val (.long q4), .second, .val (.int p5), .val (.int p6), .val (.int ((p5 &&& (2147483647 : Int32)) % (5 : Int32))), .val (.int ((p6 &&& (2147483647 : Int32)) % (5 : Int32))), .val (.int (own_f1 ((p5 &&& (2147483647 : Int32)) % (5 : Int32)) ((p6 &&& (2147483647 : Int32)) % (5 : Int32)))), .val (.int (own_f2 ((p5 &&& (2147483647 : Int32)) % (5 : Int32)) ((p6 &&& (2147483647 : Int32)) % (5 : Int32)))), .val (.ref b9), .val (.ref b14), .val (.int (own_f5 (1 : Int32) (own_v0_77 p5 p6) q1))] [(.long q2), (.int (own_v0_102 p5 p6)), (.int (own_f5 (1 : Int32) (own_v0_77 p5 p6) q1))]))
  obtain ⟨_, _, ⟨T21, L21, k21, n21⟩, -, X21, ⟨Lc21, hQ21, l21, y21, z21⟩, st21⟩ := Jvm.LawKit.callS X18 hx (y := (⟨"com/example/outis/outis/measures/RecordCountsHashOfRunPinLaw", "step", "(IZJ)I"⟩ : MethodName)) hown (mvT hZ (hw _ (List.mem_of_getElem? (i := 29) rfl))) (mvT hZ (hw _ (List.mem_of_getElem? (i := 30) rfl))) (mvT hZ (hw _ (List.mem_of_getElem? (i := 31) rfl))) (mvT hZ (hw _ (List.mem_of_getElem? (i := 32) rfl))) (by decide) (backOf (W := 0) (rm5 l Z a0 hw [] (own_f5 (1 : Int32) (own_v0_77 p5 p6) q1) (own_v0_102 p5 p6) q2 T15.heap n0 (Nat.le_trans (Nat.le_trans (Nat.le_trans (Nat.le_trans (Nat.le_trans (Nat.le_trans (Nat.le_trans Z0 E9.1) (Keep.of_wr W10).1) (Keep.of_wr W11).1) (Keep.of_wr W12).1) (Keep.of_wr W13).1) E14.1) Kc15.1) ) hZ (hw _ (List.mem_of_getElem? (i := 32) rfl)) (hw _ (List.mem_of_getElem? (i := 31) rfl)) (by decide) (by decide)) (g := (mkF m 117 #[.val (.long q1), .second, .val (.long q2), .second, .val (.long q3), .second, .val (.long q4), .second, .val (.int p5), .val (.int p6), .val (.int ((p5 &&& (2147483647 : Int32)) % (5 : Int32))), .val (.int ((p6 &&& (2147483647 : Int32)) % (5 : Int32))), .val (.int (own_f1 ((p5 &&& (2147483647 : Int32)) % (5 : Int32)) ((p6 &&& (2147483647 : Int32)) % (5 : Int32)))), .val (.int (own_f2 ((p5 &&& (2147483647 : Int32)) % (5 : Int32)) ((p6 &&& (2147483647 : Int32)) % (5 : Int32)))), .val (.ref b9), .val (.ref b14), .val (.int (own_f5 (1 : Int32) (own_v0_77 p5 p6) q1))] [(.long q2), (.int (own_v0_102 p5 p6)), (.int (own_f5 (1 : Int32) (own_v0_77 p5 p6) q1))])) rfl (by rw [hml]; rfl) (argsL := [(.int (own_f5 (1 : Int32) (own_v0_77 p5 p6) q1)), (.int (own_v0_102 p5 p6)), (.long q2)]) (rest := []) (lenOf pd_4 rfl) rfl (by show 2 * 0 + _ ≤ _; exact Nat.le_of_eq rfl) (hb hby at_117) (fun _ _ => ⟨rfl, e18, (by decide : 3 + 0 ≤ _), (by decide : 13 + 0 ≤ _)⟩)
  dsimp only [Pt.U, Pt.locs, Pt.cells, Pt.slots] at X21 l21 y21 z21 st21 hQ21
  subst l21 y21 z21
  obtain ⟨rfl, N21q, e21⟩ := hQ21
  have N21 := Fr.app N18 N21q
  refine own_go st21 ?_
  show own_Go p.tables e below _ (T21.setTop (mkF m 120 #[.val (.long q1), .second, .val (.long q2), .second, .val (.long q3), .second, .val (.long q4), .second, .val (.int p5), .val (.int p6), .val (.int ((p5 &&& (2147483647 : Int32)) % (5 : Int32))), .val (.int ((p6 &&& (2147483647 : Int32)) % (5 : Int32))), .val (.int (own_f1 ((p5 &&& (2147483647 : Int32)) % (5 : Int32)) ((p6 &&& (2147483647 : Int32)) % (5 : Int32)))), .val (.int (own_f2 ((p5 &&& (2147483647 : Int32)) % (5 : Int32)) ((p6 &&& (2147483647 : Int32)) % (5 : Int32)))), .val (.ref b9), .val (.ref b14), .val (.int (own_f5 (1 : Int32) (own_v0_77 p5 p6) q1))] [(.int (own_f5 (own_f5 (1 : Int32) (own_v0_77 p5 p6) q1) (own_v0_102 p5 p6) q2))]))
  refine own_go (fun _ => XS.istore X21.here hx rfl (hb hby at_120) rfl (l' := #[.val (.long q1), .second, .val (.long q2), .second, .val (.long q3), .second, .val (.long q4), .second, .val (.int p5), .val (.int p6), .val (.int ((p5 &&& (2147483647 : Int32)) % (5 : Int32))), .val (.int ((p6 &&& (2147483647 : Int32)) % (5 : Int32))), .val (.int (own_f1 ((p5 &&& (2147483647 : Int32)) % (5 : Int32)) ((p6 &&& (2147483647 : Int32)) % (5 : Int32)))), .val (.int (own_f2 ((p5 &&& (2147483647 : Int32)) % (5 : Int32)) ((p6 &&& (2147483647 : Int32)) % (5 : Int32)))), .val (.ref b9), .val (.ref b14), .val (.int (own_f5 (own_f5 (1 : Int32) (own_v0_77 p5 p6) q1) (own_v0_102 p5 p6) q2))]) rfl) ?_
  show own_Go p.tables e below _ (T21.setTop (mkF m 122 #[.val (.long q1), .second, .val (.long q2), .second, .val (.long q3), .second, .val (.long q4), .second, .val (.int p5), .val (.int p6), .val (.int ((p5 &&& (2147483647 : Int32)) % (5 : Int32))), .val (.int ((p6 &&& (2147483647 : Int32)) % (5 : Int32))), .val (.int (own_f1 ((p5 &&& (2147483647 : Int32)) % (5 : Int32)) ((p6 &&& (2147483647 : Int32)) % (5 : Int32)))), .val (.int (own_f2 ((p5 &&& (2147483647 : Int32)) % (5 : Int32)) ((p6 &&& (2147483647 : Int32)) % (5 : Int32)))), .val (.ref b9), .val (.ref b14), .val (.int (own_f5 (own_f5 (1 : Int32) (own_v0_77 p5 p6) q1) (own_v0_102 p5 p6) q2))] []))
  refine own_go (fun _ => XS.iload X21.here hx rfl (hb hby at_122) rfl) ?_
  show own_Go p.tables e below _ (T21.setTop (mkF m 124 #[.val (.long q1), .second, .val (.long q2), .second, .val (.long q3), .second, .val (.long q4), .second, .val (.int p5), .val (.int p6), .val (.int ((p5 &&& (2147483647 : Int32)) % (5 : Int32))), .val (.int ((p6 &&& (2147483647 : Int32)) % (5 : Int32))), .val (.int (own_f1 ((p5 &&& (2147483647 : Int32)) % (5 : Int32)) ((p6 &&& (2147483647 : Int32)) % (5 : Int32)))), .val (.int (own_f2 ((p5 &&& (2147483647 : Int32)) % (5 : Int32)) ((p6 &&& (2147483647 : Int32)) % (5 : Int32)))), .val (.ref b9), .val (.ref b14), .val (.int (own_f5 (own_f5 (1 : Int32) (own_v0_77 p5 p6) q1) (own_v0_102 p5 p6) q2))] [(.int (own_f5 (own_f5 (1 : Int32) (own_v0_77 p5 p6) q1) (own_v0_102 p5 p6) q2))]))
  refine own_go (fun _ => XS.iload X21.here hx rfl (hb hby at_124) rfl) ?_
  show own_Go p.tables e below _ (T21.setTop (mkF m 126 #[.val (.long q1), .second, .val (.long q2), .second, .val (.long q3), .second, .val (.long q4), .second, .val (.int p5), .val (.int p6), .val (.int ((p5 &&& (2147483647 : Int32)) % (5 : Int32))), .val (.int ((p6 &&& (2147483647 : Int32)) % (5 : Int32))), .val (.int (own_f1 ((p5 &&& (2147483647 : Int32)) % (5 : Int32)) ((p6 &&& (2147483647 : Int32)) % (5 : Int32)))), .val (.int (own_f2 ((p5 &&& (2147483647 : Int32)) % (5 : Int32)) ((p6 &&& (2147483647 : Int32)) % (5 : Int32)))), .val (.ref b9), .val (.ref b14), .val (.int (own_f5 (own_f5 (1 : Int32) (own_v0_77 p5 p6) q1) (own_v0_102 p5 p6) q2))] [(.int (own_f1 ((p5 &&& (2147483647 : Int32)) % (5 : Int32)) ((p6 &&& (2147483647 : Int32)) % (5 : Int32)))), (.int (own_f5 (own_f5 (1 : Int32) (own_v0_77 p5 p6) q1) (own_v0_102 p5 p6) q2))]))
  refine own_go (fun _ => XS.iconst X21.here hx rfl (hb hby at_126)) ?_
  refine own_go (S' := T21.setTop (mkF m 141 #[.val (.long q1), .second, .val (.long q2), .second, .val (.long q3), .second, .val (.long q4), .second, .val (.int p5), .val (.int p6), .val (.int ((p5 &&& (2147483647 : Int32)) % (5 : Int32))), .val (.int ((p6 &&& (2147483647 : Int32)) % (5 : Int32))), .val (.int (own_f1 ((p5 &&& (2147483647 : Int32)) % (5 : Int32)) ((p6 &&& (2147483647 : Int32)) % (5 : Int32)))), .val (.int (own_f2 ((p5 &&& (2147483647 : Int32)) % (5 : Int32)) ((p6 &&& (2147483647 : Int32)) % (5 : Int32)))), .val (.ref b9), .val (.ref b14), .val (.int (own_f5 (own_f5 (1 : Int32) (own_v0_77 p5 p6) q1) (own_v0_102 p5 p6) q2))] [(.int (own_v0_127 p5 p6)), (.int (own_f5 (own_f5 (1 : Int32) (own_v0_77 p5 p6) q1) (own_v0_102 p5 p6) q2))])) (fun t kt => ?_) ?_
  · skip
    show Steps p.tables e below (T21.setTop (mkF m 127 #[.val (.long q1), .second, .val (.long q2), .second, .val (.long q3), .second, .val (.long q4), .second, .val (.int p5), .val (.int p6), .val (.int ((p5 &&& (2147483647 : Int32)) % (5 : Int32))), .val (.int ((p6 &&& (2147483647 : Int32)) % (5 : Int32))), .val (.int (own_f1 ((p5 &&& (2147483647 : Int32)) % (5 : Int32)) ((p6 &&& (2147483647 : Int32)) % (5 : Int32)))), .val (.int (own_f2 ((p5 &&& (2147483647 : Int32)) % (5 : Int32)) ((p6 &&& (2147483647 : Int32)) % (5 : Int32)))), .val (.ref b9), .val (.ref b14), .val (.int (own_f5 (own_f5 (1 : Int32) (own_v0_77 p5 p6) q1) (own_v0_102 p5 p6) q2))] [(.int (2 : Int32)), (.int (own_f1 ((p5 &&& (2147483647 : Int32)) % (5 : Int32)) ((p6 &&& (2147483647 : Int32)) % (5 : Int32)))), (.int (own_f5 (own_f5 (1 : Int32) (own_v0_77 p5 p6) q1) (own_v0_102 p5 p6) q2))])) _
    by_cases hc22_127 : (2 : Int32) < (own_f1 ((p5 &&& (2147483647 : Int32)) % (5 : Int32)) ((p6 &&& (2147483647 : Int32)) % (5 : Int32)))
    · skip
      refine XS.icmpYes X21.here hx rfl (pc0 := 127) (pc' := 140) rfl (hb hby at_127) rfl (tlt hc22_127).2.2.1 (by decide) (by decide) ?_
      show Steps p.tables e below (T21.setTop (mkF m 140 #[.val (.long q1), .second, .val (.long q2), .second, .val (.long q3), .second, .val (.long q4), .second, .val (.int p5), .val (.int p6), .val (.int ((p5 &&& (2147483647 : Int32)) % (5 : Int32))), .val (.int ((p6 &&& (2147483647 : Int32)) % (5 : Int32))), .val (.int (own_f1 ((p5 &&& (2147483647 : Int32)) % (5 : Int32)) ((p6 &&& (2147483647 : Int32)) % (5 : Int32)))), .val (.int (own_f2 ((p5 &&& (2147483647 : Int32)) % (5 : Int32)) ((p6 &&& (2147483647 : Int32)) % (5 : Int32)))), .val (.ref b9), .val (.ref b14), .val (.int (own_f5 (own_f5 (1 : Int32) (own_v0_77 p5 p6) q1) (own_v0_102 p5 p6) q2))] [(.int (own_f5 (own_f5 (1 : Int32) (own_v0_77 p5 p6) q1) (own_v0_102 p5 p6) q2))])) _
      refine XS.iconst X21.here hx rfl (hb hby at_140) ?_
      show Steps p.tables e below (T21.setTop (mkF m 141 #[.val (.long q1), .second, .val (.long q2), .second, .val (.long q3), .second, .val (.long q4), .second, .val (.int p5), .val (.int p6), .val (.int ((p5 &&& (2147483647 : Int32)) % (5 : Int32))), .val (.int ((p6 &&& (2147483647 : Int32)) % (5 : Int32))), .val (.int (own_f1 ((p5 &&& (2147483647 : Int32)) % (5 : Int32)) ((p6 &&& (2147483647 : Int32)) % (5 : Int32)))), .val (.int (own_f2 ((p5 &&& (2147483647 : Int32)) % (5 : Int32)) ((p6 &&& (2147483647 : Int32)) % (5 : Int32)))), .val (.ref b9), .val (.ref b14), .val (.int (own_f5 (own_f5 (1 : Int32) (own_v0_77 p5 p6) q1) (own_v0_102 p5 p6) q2))] [(.int (0 : Int32)), (.int (own_f5 (own_f5 (1 : Int32) (own_v0_77 p5 p6) q1) (own_v0_102 p5 p6) q2))])) _
      rw [show (own_v0_127 p5 p6) = (0 : Int32) from ((if_pos hc22_127).trans rfl)] at kt
      exact kt
    · skip
      refine XS.icmpNo X21.here hx rfl (hb hby at_127) rfl (flt hc22_127).2.2.1 ?_
      show Steps p.tables e below (T21.setTop (mkF m 130 #[.val (.long q1), .second, .val (.long q2), .second, .val (.long q3), .second, .val (.long q4), .second, .val (.int p5), .val (.int p6), .val (.int ((p5 &&& (2147483647 : Int32)) % (5 : Int32))), .val (.int ((p6 &&& (2147483647 : Int32)) % (5 : Int32))), .val (.int (own_f1 ((p5 &&& (2147483647 : Int32)) % (5 : Int32)) ((p6 &&& (2147483647 : Int32)) % (5 : Int32)))), .val (.int (own_f2 ((p5 &&& (2147483647 : Int32)) % (5 : Int32)) ((p6 &&& (2147483647 : Int32)) % (5 : Int32)))), .val (.ref b9), .val (.ref b14), .val (.int (own_f5 (own_f5 (1 : Int32) (own_v0_77 p5 p6) q1) (own_v0_102 p5 p6) q2))] [(.int (own_f5 (own_f5 (1 : Int32) (own_v0_77 p5 p6) q1) (own_v0_102 p5 p6) q2))])) _
      refine XS.iconst X21.here hx rfl (hb hby at_130) ?_
      show Steps p.tables e below (T21.setTop (mkF m 131 #[.val (.long q1), .second, .val (.long q2), .second, .val (.long q3), .second, .val (.long q4), .second, .val (.int p5), .val (.int p6), .val (.int ((p5 &&& (2147483647 : Int32)) % (5 : Int32))), .val (.int ((p6 &&& (2147483647 : Int32)) % (5 : Int32))), .val (.int (own_f1 ((p5 &&& (2147483647 : Int32)) % (5 : Int32)) ((p6 &&& (2147483647 : Int32)) % (5 : Int32)))), .val (.int (own_f2 ((p5 &&& (2147483647 : Int32)) % (5 : Int32)) ((p6 &&& (2147483647 : Int32)) % (5 : Int32)))), .val (.ref b9), .val (.ref b14), .val (.int (own_f5 (own_f5 (1 : Int32) (own_v0_77 p5 p6) q1) (own_v0_102 p5 p6) q2))] [(.int (2 : Int32)), (.int (own_f5 (own_f5 (1 : Int32) (own_v0_77 p5 p6) q1) (own_v0_102 p5 p6) q2))])) _
      refine XS.iload X21.here hx rfl (hb hby at_131) rfl ?_
      show Steps p.tables e below (T21.setTop (mkF m 133 #[.val (.long q1), .second, .val (.long q2), .second, .val (.long q3), .second, .val (.long q4), .second, .val (.int p5), .val (.int p6), .val (.int ((p5 &&& (2147483647 : Int32)) % (5 : Int32))), .val (.int ((p6 &&& (2147483647 : Int32)) % (5 : Int32))), .val (.int (own_f1 ((p5 &&& (2147483647 : Int32)) % (5 : Int32)) ((p6 &&& (2147483647 : Int32)) % (5 : Int32)))), .val (.int (own_f2 ((p5 &&& (2147483647 : Int32)) % (5 : Int32)) ((p6 &&& (2147483647 : Int32)) % (5 : Int32)))), .val (.ref b9), .val (.ref b14), .val (.int (own_f5 (own_f5 (1 : Int32) (own_v0_77 p5 p6) q1) (own_v0_102 p5 p6) q2))] [(.int (own_f2 ((p5 &&& (2147483647 : Int32)) % (5 : Int32)) ((p6 &&& (2147483647 : Int32)) % (5 : Int32)))), (.int (2 : Int32)), (.int (own_f5 (own_f5 (1 : Int32) (own_v0_77 p5 p6) q1) (own_v0_102 p5 p6) q2))])) _
      by_cases hc23_133 : (2 : Int32) < (own_f2 ((p5 &&& (2147483647 : Int32)) % (5 : Int32)) ((p6 &&& (2147483647 : Int32)) % (5 : Int32)))
      · skip
        refine XS.icmpNo X21.here hx rfl (hb hby at_133) rfl (tlt hc23_133).2.1 ?_
        show Steps p.tables e below (T21.setTop (mkF m 136 #[.val (.long q1), .second, .val (.long q2), .second, .val (.long q3), .second, .val (.long q4), .second, .val (.int p5), .val (.int p6), .val (.int ((p5 &&& (2147483647 : Int32)) % (5 : Int32))), .val (.int ((p6 &&& (2147483647 : Int32)) % (5 : Int32))), .val (.int (own_f1 ((p5 &&& (2147483647 : Int32)) % (5 : Int32)) ((p6 &&& (2147483647 : Int32)) % (5 : Int32)))), .val (.int (own_f2 ((p5 &&& (2147483647 : Int32)) % (5 : Int32)) ((p6 &&& (2147483647 : Int32)) % (5 : Int32)))), .val (.ref b9), .val (.ref b14), .val (.int (own_f5 (own_f5 (1 : Int32) (own_v0_77 p5 p6) q1) (own_v0_102 p5 p6) q2))] [(.int (own_f5 (own_f5 (1 : Int32) (own_v0_77 p5 p6) q1) (own_v0_102 p5 p6) q2))])) _
        refine XS.iconst X21.here hx rfl (hb hby at_136) ?_
        show Steps p.tables e below (T21.setTop (mkF m 137 #[.val (.long q1), .second, .val (.long q2), .second, .val (.long q3), .second, .val (.long q4), .second, .val (.int p5), .val (.int p6), .val (.int ((p5 &&& (2147483647 : Int32)) % (5 : Int32))), .val (.int ((p6 &&& (2147483647 : Int32)) % (5 : Int32))), .val (.int (own_f1 ((p5 &&& (2147483647 : Int32)) % (5 : Int32)) ((p6 &&& (2147483647 : Int32)) % (5 : Int32)))), .val (.int (own_f2 ((p5 &&& (2147483647 : Int32)) % (5 : Int32)) ((p6 &&& (2147483647 : Int32)) % (5 : Int32)))), .val (.ref b9), .val (.ref b14), .val (.int (own_f5 (own_f5 (1 : Int32) (own_v0_77 p5 p6) q1) (own_v0_102 p5 p6) q2))] [(.int (1 : Int32)), (.int (own_f5 (own_f5 (1 : Int32) (own_v0_77 p5 p6) q1) (own_v0_102 p5 p6) q2))])) _
        refine XS.goto X21.here hx rfl (pc0 := 137) (pc' := 141) rfl (hb hby at_137) (by decide) (by decide) ?_
        show Steps p.tables e below (T21.setTop (mkF m 141 #[.val (.long q1), .second, .val (.long q2), .second, .val (.long q3), .second, .val (.long q4), .second, .val (.int p5), .val (.int p6), .val (.int ((p5 &&& (2147483647 : Int32)) % (5 : Int32))), .val (.int ((p6 &&& (2147483647 : Int32)) % (5 : Int32))), .val (.int (own_f1 ((p5 &&& (2147483647 : Int32)) % (5 : Int32)) ((p6 &&& (2147483647 : Int32)) % (5 : Int32)))), .val (.int (own_f2 ((p5 &&& (2147483647 : Int32)) % (5 : Int32)) ((p6 &&& (2147483647 : Int32)) % (5 : Int32)))), .val (.ref b9), .val (.ref b14), .val (.int (own_f5 (own_f5 (1 : Int32) (own_v0_77 p5 p6) q1) (own_v0_102 p5 p6) q2))] [(.int (1 : Int32)), (.int (own_f5 (own_f5 (1 : Int32) (own_v0_77 p5 p6) q1) (own_v0_102 p5 p6) q2))])) _
        rw [show (own_v0_127 p5 p6) = (1 : Int32) from ((if_neg hc22_127).trans ((if_pos hc23_133).trans rfl))] at kt
        exact kt
      · skip
        refine XS.icmpYes X21.here hx rfl (pc0 := 133) (pc' := 140) rfl (hb hby at_133) rfl (flt hc23_133).2.1 (by decide) (by decide) ?_
        show Steps p.tables e below (T21.setTop (mkF m 140 #[.val (.long q1), .second, .val (.long q2), .second, .val (.long q3), .second, .val (.long q4), .second, .val (.int p5), .val (.int p6), .val (.int ((p5 &&& (2147483647 : Int32)) % (5 : Int32))), .val (.int ((p6 &&& (2147483647 : Int32)) % (5 : Int32))), .val (.int (own_f1 ((p5 &&& (2147483647 : Int32)) % (5 : Int32)) ((p6 &&& (2147483647 : Int32)) % (5 : Int32)))), .val (.int (own_f2 ((p5 &&& (2147483647 : Int32)) % (5 : Int32)) ((p6 &&& (2147483647 : Int32)) % (5 : Int32)))), .val (.ref b9), .val (.ref b14), .val (.int (own_f5 (own_f5 (1 : Int32) (own_v0_77 p5 p6) q1) (own_v0_102 p5 p6) q2))] [(.int (own_f5 (own_f5 (1 : Int32) (own_v0_77 p5 p6) q1) (own_v0_102 p5 p6) q2))])) _
        refine XS.iconst X21.here hx rfl (hb hby at_140) ?_
        show Steps p.tables e below (T21.setTop (mkF m 141 #[.val (.long q1), .second, .val (.long q2), .second, .val (.long q3), .second, .val (.long q4), .second, .val (.int p5), .val (.int p6), .val (.int ((p5 &&& (2147483647 : Int32)) % (5 : Int32))), .val (.int ((p6 &&& (2147483647 : Int32)) % (5 : Int32))), .val (.int (own_f1 ((p5 &&& (2147483647 : Int32)) % (5 : Int32)) ((p6 &&& (2147483647 : Int32)) % (5 : Int32)))), .val (.int (own_f2 ((p5 &&& (2147483647 : Int32)) % (5 : Int32)) ((p6 &&& (2147483647 : Int32)) % (5 : Int32)))), .val (.ref b9), .val (.ref b14), .val (.int (own_f5 (own_f5 (1 : Int32) (own_v0_77 p5 p6) q1) (own_v0_102 p5 p6) q2))] [(.int (0 : Int32)), (.int (own_f5 (own_f5 (1 : Int32) (own_v0_77 p5 p6) q1) (own_v0_102 p5 p6) q2))])) _
        rw [show (own_v0_127 p5 p6) = (0 : Int32) from ((if_neg hc22_127).trans ((if_neg hc23_133).trans rfl))] at kt
        exact kt
  show own_Go p.tables e below _ (T21.setTop (mkF m 141 #[.val (.long q1), .second, .val (.long q2), .second, .val (.long q3), .second, .val (.long q4), .second, .val (.int p5), .val (.int p6), .val (.int ((p5 &&& (2147483647 : Int32)) % (5 : Int32))), .val (.int ((p6 &&& (2147483647 : Int32)) % (5 : Int32))), .val (.int (own_f1 ((p5 &&& (2147483647 : Int32)) % (5 : Int32)) ((p6 &&& (2147483647 : Int32)) % (5 : Int32)))), .val (.int (own_f2 ((p5 &&& (2147483647 : Int32)) % (5 : Int32)) ((p6 &&& (2147483647 : Int32)) % (5 : Int32)))), .val (.ref b9), .val (.ref b14), .val (.int (own_f5 (own_f5 (1 : Int32) (own_v0_77 p5 p6) q1) (own_v0_102 p5 p6) q2))] [(.int (own_v0_127 p5 p6)), (.int (own_f5 (own_f5 (1 : Int32) (own_v0_77 p5 p6) q1) (own_v0_102 p5 p6) q2))]))
  refine own_go (fun _ => XS.lload X21.here hx rfl (hb hby at_141) rfl) ?_
  show own_Go p.tables e below _ (T21.setTop (mkF m 143 #[.val (.long q1), .second, .val (.long q2), .second, .val (.long q3), .second, .val (.long q4), .second, .val (.int p5), .val (.int p6), .val (.int ((p5 &&& (2147483647 : Int32)) % (5 : Int32))), .val (.int ((p6 &&& (2147483647 : Int32)) % (5 : Int32))), .val (.int (own_f1 ((p5 &&& (2147483647 : Int32)) % (5 : Int32)) ((p6 &&& (2147483647 : Int32)) % (5 : Int32)))), .val (.int (own_f2 ((p5 &&& (2147483647 : Int32)) % (5 : Int32)) ((p6 &&& (2147483647 : Int32)) % (5 : Int32)))), .val (.ref b9), .val (.ref b14), .val (.int (own_f5 (own_f5 (1 : Int32) (own_v0_77 p5 p6) q1) (own_v0_102 p5 p6) q2))] [(.long q3), (.int (own_v0_127 p5 p6)), (.int (own_f5 (own_f5 (1 : Int32) (own_v0_77 p5 p6) q1) (own_v0_102 p5 p6) q2))]))
  obtain ⟨_, _, ⟨T24, L24, k24, n24⟩, -, X24, ⟨Lc24, hQ24, l24, y24, z24⟩, st24⟩ := Jvm.LawKit.callS X21 hx (y := (⟨"com/example/outis/outis/measures/RecordCountsHashOfRunPinLaw", "step", "(IZJ)I"⟩ : MethodName)) hown (mvT hZ (hw _ (List.mem_of_getElem? (i := 29) rfl))) (mvT hZ (hw _ (List.mem_of_getElem? (i := 30) rfl))) (mvT hZ (hw _ (List.mem_of_getElem? (i := 31) rfl))) (mvT hZ (hw _ (List.mem_of_getElem? (i := 32) rfl))) (by decide) (backOf (W := 0) (rm5 l Z a0 hw [] (own_f5 (own_f5 (1 : Int32) (own_v0_77 p5 p6) q1) (own_v0_102 p5 p6) q2) (own_v0_127 p5 p6) q3 T15.heap n0 (Nat.le_trans (Nat.le_trans (Nat.le_trans (Nat.le_trans (Nat.le_trans (Nat.le_trans (Nat.le_trans Z0 E9.1) (Keep.of_wr W10).1) (Keep.of_wr W11).1) (Keep.of_wr W12).1) (Keep.of_wr W13).1) E14.1) Kc15.1) ) hZ (hw _ (List.mem_of_getElem? (i := 32) rfl)) (hw _ (List.mem_of_getElem? (i := 31) rfl)) (by decide) (by decide)) (g := (mkF m 143 #[.val (.long q1), .second, .val (.long q2), .second, .val (.long q3), .second, .val (.long q4), .second, .val (.int p5), .val (.int p6), .val (.int ((p5 &&& (2147483647 : Int32)) % (5 : Int32))), .val (.int ((p6 &&& (2147483647 : Int32)) % (5 : Int32))), .val (.int (own_f1 ((p5 &&& (2147483647 : Int32)) % (5 : Int32)) ((p6 &&& (2147483647 : Int32)) % (5 : Int32)))), .val (.int (own_f2 ((p5 &&& (2147483647 : Int32)) % (5 : Int32)) ((p6 &&& (2147483647 : Int32)) % (5 : Int32)))), .val (.ref b9), .val (.ref b14), .val (.int (own_f5 (own_f5 (1 : Int32) (own_v0_77 p5 p6) q1) (own_v0_102 p5 p6) q2))] [(.long q3), (.int (own_v0_127 p5 p6)), (.int (own_f5 (own_f5 (1 : Int32) (own_v0_77 p5 p6) q1) (own_v0_102 p5 p6) q2))])) rfl (by rw [hml]; rfl) (argsL := [(.int (own_f5 (own_f5 (1 : Int32) (own_v0_77 p5 p6) q1) (own_v0_102 p5 p6) q2)), (.int (own_v0_127 p5 p6)), (.long q3)]) (rest := []) (lenOf pd_4 rfl) rfl (by show 2 * 0 + _ ≤ _; exact Nat.le_of_eq rfl) (hb hby at_143) (fun _ _ => ⟨rfl, e21, (by decide : 3 + 0 ≤ _), (by decide : 13 + 0 ≤ _)⟩)
  dsimp only [Pt.U, Pt.locs, Pt.cells, Pt.slots] at X24 l24 y24 z24 st24 hQ24
  subst l24 y24 z24
  obtain ⟨rfl, N24q, e24⟩ := hQ24
  have N24 := Fr.app N21 N24q
  refine own_go st24 ?_
  show own_Go p.tables e below _ (T24.setTop (mkF m 146 #[.val (.long q1), .second, .val (.long q2), .second, .val (.long q3), .second, .val (.long q4), .second, .val (.int p5), .val (.int p6), .val (.int ((p5 &&& (2147483647 : Int32)) % (5 : Int32))), .val (.int ((p6 &&& (2147483647 : Int32)) % (5 : Int32))), .val (.int (own_f1 ((p5 &&& (2147483647 : Int32)) % (5 : Int32)) ((p6 &&& (2147483647 : Int32)) % (5 : Int32)))), .val (.int (own_f2 ((p5 &&& (2147483647 : Int32)) % (5 : Int32)) ((p6 &&& (2147483647 : Int32)) % (5 : Int32)))), .val (.ref b9), .val (.ref b14), .val (.int (own_f5 (own_f5 (1 : Int32) (own_v0_77 p5 p6) q1) (own_v0_102 p5 p6) q2))] [(.int (own_f5 (own_f5 (own_f5 (1 : Int32) (own_v0_77 p5 p6) q1) (own_v0_102 p5 p6) q2) (own_v0_127 p5 p6) q3))]))
  refine own_go (fun _ => XS.istore X24.here hx rfl (hb hby at_146) rfl (l' := #[.val (.long q1), .second, .val (.long q2), .second, .val (.long q3), .second, .val (.long q4), .second, .val (.int p5), .val (.int p6), .val (.int ((p5 &&& (2147483647 : Int32)) % (5 : Int32))), .val (.int ((p6 &&& (2147483647 : Int32)) % (5 : Int32))), .val (.int (own_f1 ((p5 &&& (2147483647 : Int32)) % (5 : Int32)) ((p6 &&& (2147483647 : Int32)) % (5 : Int32)))), .val (.int (own_f2 ((p5 &&& (2147483647 : Int32)) % (5 : Int32)) ((p6 &&& (2147483647 : Int32)) % (5 : Int32)))), .val (.ref b9), .val (.ref b14), .val (.int (own_f5 (own_f5 (own_f5 (1 : Int32) (own_v0_77 p5 p6) q1) (own_v0_102 p5 p6) q2) (own_v0_127 p5 p6) q3))]) rfl) ?_
  show own_Go p.tables e below _ (T24.setTop (mkF m 148 #[.val (.long q1), .second, .val (.long q2), .second, .val (.long q3), .second, .val (.long q4), .second, .val (.int p5), .val (.int p6), .val (.int ((p5 &&& (2147483647 : Int32)) % (5 : Int32))), .val (.int ((p6 &&& (2147483647 : Int32)) % (5 : Int32))), .val (.int (own_f1 ((p5 &&& (2147483647 : Int32)) % (5 : Int32)) ((p6 &&& (2147483647 : Int32)) % (5 : Int32)))), .val (.int (own_f2 ((p5 &&& (2147483647 : Int32)) % (5 : Int32)) ((p6 &&& (2147483647 : Int32)) % (5 : Int32)))), .val (.ref b9), .val (.ref b14), .val (.int (own_f5 (own_f5 (own_f5 (1 : Int32) (own_v0_77 p5 p6) q1) (own_v0_102 p5 p6) q2) (own_v0_127 p5 p6) q3))] []))
  refine own_go (fun _ => XS.iload X24.here hx rfl (hb hby at_148) rfl) ?_
  show own_Go p.tables e below _ (T24.setTop (mkF m 150 #[.val (.long q1), .second, .val (.long q2), .second, .val (.long q3), .second, .val (.long q4), .second, .val (.int p5), .val (.int p6), .val (.int ((p5 &&& (2147483647 : Int32)) % (5 : Int32))), .val (.int ((p6 &&& (2147483647 : Int32)) % (5 : Int32))), .val (.int (own_f1 ((p5 &&& (2147483647 : Int32)) % (5 : Int32)) ((p6 &&& (2147483647 : Int32)) % (5 : Int32)))), .val (.int (own_f2 ((p5 &&& (2147483647 : Int32)) % (5 : Int32)) ((p6 &&& (2147483647 : Int32)) % (5 : Int32)))), .val (.ref b9), .val (.ref b14), .val (.int (own_f5 (own_f5 (own_f5 (1 : Int32) (own_v0_77 p5 p6) q1) (own_v0_102 p5 p6) q2) (own_v0_127 p5 p6) q3))] [(.int (own_f5 (own_f5 (own_f5 (1 : Int32) (own_v0_77 p5 p6) q1) (own_v0_102 p5 p6) q2) (own_v0_127 p5 p6) q3))]))
  refine own_go (fun _ => XS.iload X24.here hx rfl (hb hby at_150) rfl) ?_
  show own_Go p.tables e below _ (T24.setTop (mkF m 152 #[.val (.long q1), .second, .val (.long q2), .second, .val (.long q3), .second, .val (.long q4), .second, .val (.int p5), .val (.int p6), .val (.int ((p5 &&& (2147483647 : Int32)) % (5 : Int32))), .val (.int ((p6 &&& (2147483647 : Int32)) % (5 : Int32))), .val (.int (own_f1 ((p5 &&& (2147483647 : Int32)) % (5 : Int32)) ((p6 &&& (2147483647 : Int32)) % (5 : Int32)))), .val (.int (own_f2 ((p5 &&& (2147483647 : Int32)) % (5 : Int32)) ((p6 &&& (2147483647 : Int32)) % (5 : Int32)))), .val (.ref b9), .val (.ref b14), .val (.int (own_f5 (own_f5 (own_f5 (1 : Int32) (own_v0_77 p5 p6) q1) (own_v0_102 p5 p6) q2) (own_v0_127 p5 p6) q3))] [(.int (own_f1 ((p5 &&& (2147483647 : Int32)) % (5 : Int32)) ((p6 &&& (2147483647 : Int32)) % (5 : Int32)))), (.int (own_f5 (own_f5 (own_f5 (1 : Int32) (own_v0_77 p5 p6) q1) (own_v0_102 p5 p6) q2) (own_v0_127 p5 p6) q3))]))
  refine own_go (fun _ => XS.iconst X24.here hx rfl (hb hby at_152)) ?_
  refine own_go (S' := T24.setTop (mkF m 167 #[.val (.long q1), .second, .val (.long q2), .second, .val (.long q3), .second, .val (.long q4), .second, .val (.int p5), .val (.int p6), .val (.int ((p5 &&& (2147483647 : Int32)) % (5 : Int32))), .val (.int ((p6 &&& (2147483647 : Int32)) % (5 : Int32))), .val (.int (own_f1 ((p5 &&& (2147483647 : Int32)) % (5 : Int32)) ((p6 &&& (2147483647 : Int32)) % (5 : Int32)))), .val (.int (own_f2 ((p5 &&& (2147483647 : Int32)) % (5 : Int32)) ((p6 &&& (2147483647 : Int32)) % (5 : Int32)))), .val (.ref b9), .val (.ref b14), .val (.int (own_f5 (own_f5 (own_f5 (1 : Int32) (own_v0_77 p5 p6) q1) (own_v0_102 p5 p6) q2) (own_v0_127 p5 p6) q3))] [(.int (own_v0_153 p5 p6)), (.int (own_f5 (own_f5 (own_f5 (1 : Int32) (own_v0_77 p5 p6) q1) (own_v0_102 p5 p6) q2) (own_v0_127 p5 p6) q3))])) (fun t kt => ?_) ?_
  · skip
    show Steps p.tables e below (T24.setTop (mkF m 153 #[.val (.long q1), .second, .val (.long q2), .second, .val (.long q3), .second, .val (.long q4), .second, .val (.int p5), .val (.int p6), .val (.int ((p5 &&& (2147483647 : Int32)) % (5 : Int32))), .val (.int ((p6 &&& (2147483647 : Int32)) % (5 : Int32))), .val (.int (own_f1 ((p5 &&& (2147483647 : Int32)) % (5 : Int32)) ((p6 &&& (2147483647 : Int32)) % (5 : Int32)))), .val (.int (own_f2 ((p5 &&& (2147483647 : Int32)) % (5 : Int32)) ((p6 &&& (2147483647 : Int32)) % (5 : Int32)))), .val (.ref b9), .val (.ref b14), .val (.int (own_f5 (own_f5 (own_f5 (1 : Int32) (own_v0_77 p5 p6) q1) (own_v0_102 p5 p6) q2) (own_v0_127 p5 p6) q3))] [(.int (3 : Int32)), (.int (own_f1 ((p5 &&& (2147483647 : Int32)) % (5 : Int32)) ((p6 &&& (2147483647 : Int32)) % (5 : Int32)))), (.int (own_f5 (own_f5 (own_f5 (1 : Int32) (own_v0_77 p5 p6) q1) (own_v0_102 p5 p6) q2) (own_v0_127 p5 p6) q3))])) _
    by_cases hc25_153 : (3 : Int32) < (own_f1 ((p5 &&& (2147483647 : Int32)) % (5 : Int32)) ((p6 &&& (2147483647 : Int32)) % (5 : Int32)))
    · skip
      refine XS.icmpYes X24.here hx rfl (pc0 := 153) (pc' := 166) rfl (hb hby at_153) rfl (tlt hc25_153).2.2.1 (by decide) (by decide) ?_
      show Steps p.tables e below (T24.setTop (mkF m 166 #[.val (.long q1), .second, .val (.long q2), .second, .val (.long q3), .second, .val (.long q4), .second, .val (.int p5), .val (.int p6), .val (.int ((p5 &&& (2147483647 : Int32)) % (5 : Int32))), .val (.int ((p6 &&& (2147483647 : Int32)) % (5 : Int32))), .val (.int (own_f1 ((p5 &&& (2147483647 : Int32)) % (5 : Int32)) ((p6 &&& (2147483647 : Int32)) % (5 : Int32)))), .val (.int (own_f2 ((p5 &&& (2147483647 : Int32)) % (5 : Int32)) ((p6 &&& (2147483647 : Int32)) % (5 : Int32)))), .val (.ref b9), .val (.ref b14), .val (.int (own_f5 (own_f5 (own_f5 (1 : Int32) (own_v0_77 p5 p6) q1) (own_v0_102 p5 p6) q2) (own_v0_127 p5 p6) q3))] [(.int (own_f5 (own_f5 (own_f5 (1 : Int32) (own_v0_77 p5 p6) q1) (own_v0_102 p5 p6) q2) (own_v0_127 p5 p6) q3))])) _
      refine XS.iconst X24.here hx rfl (hb hby at_166) ?_
      show Steps p.tables e below (T24.setTop (mkF m 167 #[.val (.long q1), .second, .val (.long q2), .second, .val (.long q3), .second, .val (.long q4), .second, .val (.int p5), .val (.int p6), .val (.int ((p5 &&& (2147483647 : Int32)) % (5 : Int32))), .val (.int ((p6 &&& (2147483647 : Int32)) % (5 : Int32))), .val (.int (own_f1 ((p5 &&& (2147483647 : Int32)) % (5 : Int32)) ((p6 &&& (2147483647 : Int32)) % (5 : Int32)))), .val (.int (own_f2 ((p5 &&& (2147483647 : Int32)) % (5 : Int32)) ((p6 &&& (2147483647 : Int32)) % (5 : Int32)))), .val (.ref b9), .val (.ref b14), .val (.int (own_f5 (own_f5 (own_f5 (1 : Int32) (own_v0_77 p5 p6) q1) (own_v0_102 p5 p6) q2) (own_v0_127 p5 p6) q3))] [(.int (0 : Int32)), (.int (own_f5 (own_f5 (own_f5 (1 : Int32) (own_v0_77 p5 p6) q1) (own_v0_102 p5 p6) q2) (own_v0_127 p5 p6) q3))])) _
      rw [show (own_v0_153 p5 p6) = (0 : Int32) from ((if_pos hc25_153).trans rfl)] at kt
      exact kt
    · skip
      refine XS.icmpNo X24.here hx rfl (hb hby at_153) rfl (flt hc25_153).2.2.1 ?_
      show Steps p.tables e below (T24.setTop (mkF m 156 #[.val (.long q1), .second, .val (.long q2), .second, .val (.long q3), .second, .val (.long q4), .second, .val (.int p5), .val (.int p6), .val (.int ((p5 &&& (2147483647 : Int32)) % (5 : Int32))), .val (.int ((p6 &&& (2147483647 : Int32)) % (5 : Int32))), .val (.int (own_f1 ((p5 &&& (2147483647 : Int32)) % (5 : Int32)) ((p6 &&& (2147483647 : Int32)) % (5 : Int32)))), .val (.int (own_f2 ((p5 &&& (2147483647 : Int32)) % (5 : Int32)) ((p6 &&& (2147483647 : Int32)) % (5 : Int32)))), .val (.ref b9), .val (.ref b14), .val (.int (own_f5 (own_f5 (own_f5 (1 : Int32) (own_v0_77 p5 p6) q1) (own_v0_102 p5 p6) q2) (own_v0_127 p5 p6) q3))] [(.int (own_f5 (own_f5 (own_f5 (1 : Int32) (own_v0_77 p5 p6) q1) (own_v0_102 p5 p6) q2) (own_v0_127 p5 p6) q3))])) _
      refine XS.iconst X24.here hx rfl (hb hby at_156) ?_
      show Steps p.tables e below (T24.setTop (mkF m 157 #[.val (.long q1), .second, .val (.long q2), .second, .val (.long q3), .second, .val (.long q4), .second, .val (.int p5), .val (.int p6), .val (.int ((p5 &&& (2147483647 : Int32)) % (5 : Int32))), .val (.int ((p6 &&& (2147483647 : Int32)) % (5 : Int32))), .val (.int (own_f1 ((p5 &&& (2147483647 : Int32)) % (5 : Int32)) ((p6 &&& (2147483647 : Int32)) % (5 : Int32)))), .val (.int (own_f2 ((p5 &&& (2147483647 : Int32)) % (5 : Int32)) ((p6 &&& (2147483647 : Int32)) % (5 : Int32)))), .val (.ref b9), .val (.ref b14), .val (.int (own_f5 (own_f5 (own_f5 (1 : Int32) (own_v0_77 p5 p6) q1) (own_v0_102 p5 p6) q2) (own_v0_127 p5 p6) q3))] [(.int (3 : Int32)), (.int (own_f5 (own_f5 (own_f5 (1 : Int32) (own_v0_77 p5 p6) q1) (own_v0_102 p5 p6) q2) (own_v0_127 p5 p6) q3))])) _
      refine XS.iload X24.here hx rfl (hb hby at_157) rfl ?_
      show Steps p.tables e below (T24.setTop (mkF m 159 #[.val (.long q1), .second, .val (.long q2), .second, .val (.long q3), .second, .val (.long q4), .second, .val (.int p5), .val (.int p6), .val (.int ((p5 &&& (2147483647 : Int32)) % (5 : Int32))), .val (.int ((p6 &&& (2147483647 : Int32)) % (5 : Int32))), .val (.int (own_f1 ((p5 &&& (2147483647 : Int32)) % (5 : Int32)) ((p6 &&& (2147483647 : Int32)) % (5 : Int32)))), .val (.int (own_f2 ((p5 &&& (2147483647 : Int32)) % (5 : Int32)) ((p6 &&& (2147483647 : Int32)) % (5 : Int32)))), .val (.ref b9), .val (.ref b14), .val (.int (own_f5 (own_f5 (own_f5 (1 : Int32) (own_v0_77 p5 p6) q1) (own_v0_102 p5 p6) q2) (own_v0_127 p5 p6) q3))] [(.int (own_f2 ((p5 &&& (2147483647 : Int32)) % (5 : Int32)) ((p6 &&& (2147483647 : Int32)) % (5 : Int32)))), (.int (3 : Int32)), (.int (own_f5 (own_f5 (own_f5 (1 : Int32) (own_v0_77 p5 p6) q1) (own_v0_102 p5 p6) q2) (own_v0_127 p5 p6) q3))])) _
      by_cases hc26_159 : (3 : Int32) < (own_f2 ((p5 &&& (2147483647 : Int32)) % (5 : Int32)) ((p6 &&& (2147483647 : Int32)) % (5 : Int32)))
      · skip
        refine XS.icmpNo X24.here hx rfl (hb hby at_159) rfl (tlt hc26_159).2.1 ?_
        show Steps p.tables e below (T24.setTop (mkF m 162 #[.val (.long q1), .second, .val (.long q2), .second, .val (.long q3), .second, .val (.long q4), .second, .val (.int p5), .val (.int p6), .val (.int ((p5 &&& (2147483647 : Int32)) % (5 : Int32))), .val (.int ((p6 &&& (2147483647 : Int32)) % (5 : Int32))), .val (.int (own_f1 ((p5 &&& (2147483647 : Int32)) % (5 : Int32)) ((p6 &&& (2147483647 : Int32)) % (5 : Int32)))), .val (.int (own_f2 ((p5 &&& (2147483647 : Int32)) % (5 : Int32)) ((p6 &&& (2147483647 : Int32)) % (5 : Int32)))), .val (.ref b9), .val (.ref b14), .val (.int (own_f5 (own_f5 (own_f5 (1 : Int32) (own_v0_77 p5 p6) q1) (own_v0_102 p5 p6) q2) (own_v0_127 p5 p6) q3))] [(.int (own_f5 (own_f5 (own_f5 (1 : Int32) (own_v0_77 p5 p6) q1) (own_v0_102 p5 p6) q2) (own_v0_127 p5 p6) q3))])) _
        refine XS.iconst X24.here hx rfl (hb hby at_162) ?_
        show Steps p.tables e below (T24.setTop (mkF m 163 #[.val (.long q1), .second, .val (.long q2), .second, .val (.long q3), .second, .val (.long q4), .second, .val (.int p5), .val (.int p6), .val (.int ((p5 &&& (2147483647 : Int32)) % (5 : Int32))), .val (.int ((p6 &&& (2147483647 : Int32)) % (5 : Int32))), .val (.int (own_f1 ((p5 &&& (2147483647 : Int32)) % (5 : Int32)) ((p6 &&& (2147483647 : Int32)) % (5 : Int32)))), .val (.int (own_f2 ((p5 &&& (2147483647 : Int32)) % (5 : Int32)) ((p6 &&& (2147483647 : Int32)) % (5 : Int32)))), .val (.ref b9), .val (.ref b14), .val (.int (own_f5 (own_f5 (own_f5 (1 : Int32) (own_v0_77 p5 p6) q1) (own_v0_102 p5 p6) q2) (own_v0_127 p5 p6) q3))] [(.int (1 : Int32)), (.int (own_f5 (own_f5 (own_f5 (1 : Int32) (own_v0_77 p5 p6) q1) (own_v0_102 p5 p6) q2) (own_v0_127 p5 p6) q3))])) _
        refine XS.goto X24.here hx rfl (pc0 := 163) (pc' := 167) rfl (hb hby at_163) (by decide) (by decide) ?_
        show Steps p.tables e below (T24.setTop (mkF m 167 #[.val (.long q1), .second, .val (.long q2), .second, .val (.long q3), .second, .val (.long q4), .second, .val (.int p5), .val (.int p6), .val (.int ((p5 &&& (2147483647 : Int32)) % (5 : Int32))), .val (.int ((p6 &&& (2147483647 : Int32)) % (5 : Int32))), .val (.int (own_f1 ((p5 &&& (2147483647 : Int32)) % (5 : Int32)) ((p6 &&& (2147483647 : Int32)) % (5 : Int32)))), .val (.int (own_f2 ((p5 &&& (2147483647 : Int32)) % (5 : Int32)) ((p6 &&& (2147483647 : Int32)) % (5 : Int32)))), .val (.ref b9), .val (.ref b14), .val (.int (own_f5 (own_f5 (own_f5 (1 : Int32) (own_v0_77 p5 p6) q1) (own_v0_102 p5 p6) q2) (own_v0_127 p5 p6) q3))] [(.int (1 : Int32)), (.int (own_f5 (own_f5 (own_f5 (1 : Int32) (own_v0_77 p5 p6) q1) (own_v0_102 p5 p6) q2) (own_v0_127 p5 p6) q3))])) _
        rw [show (own_v0_153 p5 p6) = (1 : Int32) from ((if_neg hc25_153).trans ((if_pos hc26_159).trans rfl))] at kt
        exact kt
      · skip
        refine XS.icmpYes X24.here hx rfl (pc0 := 159) (pc' := 166) rfl (hb hby at_159) rfl (flt hc26_159).2.1 (by decide) (by decide) ?_
        show Steps p.tables e below (T24.setTop (mkF m 166 #[.val (.long q1), .second, .val (.long q2), .second, .val (.long q3), .second, .val (.long q4), .second, .val (.int p5), .val (.int p6), .val (.int ((p5 &&& (2147483647 : Int32)) % (5 : Int32))), .val (.int ((p6 &&& (2147483647 : Int32)) % (5 : Int32))), .val (.int (own_f1 ((p5 &&& (2147483647 : Int32)) % (5 : Int32)) ((p6 &&& (2147483647 : Int32)) % (5 : Int32)))), .val (.int (own_f2 ((p5 &&& (2147483647 : Int32)) % (5 : Int32)) ((p6 &&& (2147483647 : Int32)) % (5 : Int32)))), .val (.ref b9), .val (.ref b14), .val (.int (own_f5 (own_f5 (own_f5 (1 : Int32) (own_v0_77 p5 p6) q1) (own_v0_102 p5 p6) q2) (own_v0_127 p5 p6) q3))] [(.int (own_f5 (own_f5 (own_f5 (1 : Int32) (own_v0_77 p5 p6) q1) (own_v0_102 p5 p6) q2) (own_v0_127 p5 p6) q3))])) _
        refine XS.iconst X24.here hx rfl (hb hby at_166) ?_
        show Steps p.tables e below (T24.setTop (mkF m 167 #[.val (.long q1), .second, .val (.long q2), .second, .val (.long q3), .second, .val (.long q4), .second, .val (.int p5), .val (.int p6), .val (.int ((p5 &&& (2147483647 : Int32)) % (5 : Int32))), .val (.int ((p6 &&& (2147483647 : Int32)) % (5 : Int32))), .val (.int (own_f1 ((p5 &&& (2147483647 : Int32)) % (5 : Int32)) ((p6 &&& (2147483647 : Int32)) % (5 : Int32)))), .val (.int (own_f2 ((p5 &&& (2147483647 : Int32)) % (5 : Int32)) ((p6 &&& (2147483647 : Int32)) % (5 : Int32)))), .val (.ref b9), .val (.ref b14), .val (.int (own_f5 (own_f5 (own_f5 (1 : Int32) (own_v0_77 p5 p6) q1) (own_v0_102 p5 p6) q2) (own_v0_127 p5 p6) q3))] [(.int (0 : Int32)), (.int (own_f5 (own_f5 (own_f5 (1 : Int32) (own_v0_77 p5 p6) q1) (own_v0_102 p5 p6) q2) (own_v0_127 p5 p6) q3))])) _
        rw [show (own_v0_153 p5 p6) = (0 : Int32) from ((if_neg hc25_153).trans ((if_neg hc26_159).trans rfl))] at kt
        exact kt
  show own_Go p.tables e below _ (T24.setTop (mkF m 167 #[.val (.long q1), .second, .val (.long q2), .second, .val (.long q3), .second, .val (.long q4), .second, .val (.int p5), .val (.int p6), .val (.int ((p5 &&& (2147483647 : Int32)) % (5 : Int32))), .val (.int ((p6 &&& (2147483647 : Int32)) % (5 : Int32))), .val (.int (own_f1 ((p5 &&& (2147483647 : Int32)) % (5 : Int32)) ((p6 &&& (2147483647 : Int32)) % (5 : Int32)))), .val (.int (own_f2 ((p5 &&& (2147483647 : Int32)) % (5 : Int32)) ((p6 &&& (2147483647 : Int32)) % (5 : Int32)))), .val (.ref b9), .val (.ref b14), .val (.int (own_f5 (own_f5 (own_f5 (1 : Int32) (own_v0_77 p5 p6) q1) (own_v0_102 p5 p6) q2) (own_v0_127 p5 p6) q3))] [(.int (own_v0_153 p5 p6)), (.int (own_f5 (own_f5 (own_f5 (1 : Int32) (own_v0_77 p5 p6) q1) (own_v0_102 p5 p6) q2) (own_v0_127 p5 p6) q3))]))
  refine own_go (fun _ => XS.lload X24.here hx rfl (hb hby at_167) rfl) ?_
  show own_Go p.tables e below _ (T24.setTop (mkF m 169 #[.val (.long q1), .second, .val (.long q2), .second, .val (.long q3), .second, .val (.long q4), .second, .val (.int p5), .val (.int p6), .val (.int ((p5 &&& (2147483647 : Int32)) % (5 : Int32))), .val (.int ((p6 &&& (2147483647 : Int32)) % (5 : Int32))), .val (.int (own_f1 ((p5 &&& (2147483647 : Int32)) % (5 : Int32)) ((p6 &&& (2147483647 : Int32)) % (5 : Int32)))), .val (.int (own_f2 ((p5 &&& (2147483647 : Int32)) % (5 : Int32)) ((p6 &&& (2147483647 : Int32)) % (5 : Int32)))), .val (.ref b9), .val (.ref b14), .val (.int (own_f5 (own_f5 (own_f5 (1 : Int32) (own_v0_77 p5 p6) q1) (own_v0_102 p5 p6) q2) (own_v0_127 p5 p6) q3))] [(.long q4), (.int (own_v0_153 p5 p6)), (.int (own_f5 (own_f5 (own_f5 (1 : Int32) (own_v0_77 p5 p6) q1) (own_v0_102 p5 p6) q2) (own_v0_127 p5 p6) q3))]))
  obtain ⟨_, _, ⟨T27, L27, k27, n27⟩, -, X27, ⟨Lc27, hQ27, l27, y27, z27⟩, st27⟩ := Jvm.LawKit.callS X24 hx (y := (⟨"com/example/outis/outis/measures/RecordCountsHashOfRunPinLaw", "step", "(IZJ)I"⟩ : MethodName)) hown (mvT hZ (hw _ (List.mem_of_getElem? (i := 29) rfl))) (mvT hZ (hw _ (List.mem_of_getElem? (i := 30) rfl))) (mvT hZ (hw _ (List.mem_of_getElem? (i := 31) rfl))) (mvT hZ (hw _ (List.mem_of_getElem? (i := 32) rfl))) (by decide) (backOf (W := 0) (rm5 l Z a0 hw [] (own_f5 (own_f5 (own_f5 (1 : Int32) (own_v0_77 p5 p6) q1) (own_v0_102 p5 p6) q2) (own_v0_127 p5 p6) q3) (own_v0_153 p5 p6) q4 T15.heap n0 (Nat.le_trans (Nat.le_trans (Nat.le_trans (Nat.le_trans (Nat.le_trans (Nat.le_trans (Nat.le_trans Z0 E9.1) (Keep.of_wr W10).1) (Keep.of_wr W11).1) (Keep.of_wr W12).1) (Keep.of_wr W13).1) E14.1) Kc15.1) ) hZ (hw _ (List.mem_of_getElem? (i := 32) rfl)) (hw _ (List.mem_of_getElem? (i := 31) rfl)) (by decide) (by decide)) (g := (mkF m 169 #[.val (.long q1), .second, .val (.long q2), .second, .val (.long q3), .second, .val (.long q4), .second, .val (.int p5), .val (.int p6), .val (.int ((p5 &&& (2147483647 : Int32)) % (5 : Int32))), .val (.int ((p6 &&& (2147483647 : Int32)) % (5 : Int32))), .val (.int (own_f1 ((p5 &&& (2147483647 : Int32)) % (5 : Int32)) ((p6 &&& (2147483647 : Int32)) % (5 : Int32)))), .val (.int (own_f2 ((p5 &&& (2147483647 : Int32)) % (5 : Int32)) ((p6 &&& (2147483647 : Int32)) % (5 : Int32)))), .val (.ref b9), .val (.ref b14), .val (.int (own_f5 (own_f5 (own_f5 (1 : Int32) (own_v0_77 p5 p6) q1) (own_v0_102 p5 p6) q2) (own_v0_127 p5 p6) q3))] [(.long q4), (.int (own_v0_153 p5 p6)), (.int (own_f5 (own_f5 (own_f5 (1 : Int32) (own_v0_77 p5 p6) q1) (own_v0_102 p5 p6) q2) (own_v0_127 p5 p6) q3))])) rfl (by rw [hml]; rfl) (argsL := [(.int (own_f5 (own_f5 (own_f5 (1 : Int32) (own_v0_77 p5 p6) q1) (own_v0_102 p5 p6) q2) (own_v0_127 p5 p6) q3)), (.int (own_v0_153 p5 p6)), (.long q4)]) (rest := []) (lenOf pd_4 rfl) rfl (by show 2 * 0 + _ ≤ _; exact Nat.le_of_eq rfl) (hb hby at_169) (fun _ _ => ⟨rfl, e24, (by decide : 3 + 0 ≤ _), (by decide : 13 + 0 ≤ _)⟩)
  dsimp only [Pt.U, Pt.locs, Pt.cells, Pt.slots] at X27 l27 y27 z27 st27 hQ27
  subst l27 y27 z27
  obtain ⟨rfl, N27q, e27⟩ := hQ27
  have N27 := Fr.app N24 N27q
  refine own_go st27 ?_
  show own_Go p.tables e below _ (T27.setTop (mkF m 172 #[.val (.long q1), .second, .val (.long q2), .second, .val (.long q3), .second, .val (.long q4), .second, .val (.int p5), .val (.int p6), .val (.int ((p5 &&& (2147483647 : Int32)) % (5 : Int32))), .val (.int ((p6 &&& (2147483647 : Int32)) % (5 : Int32))), .val (.int (own_f1 ((p5 &&& (2147483647 : Int32)) % (5 : Int32)) ((p6 &&& (2147483647 : Int32)) % (5 : Int32)))), .val (.int (own_f2 ((p5 &&& (2147483647 : Int32)) % (5 : Int32)) ((p6 &&& (2147483647 : Int32)) % (5 : Int32)))), .val (.ref b9), .val (.ref b14), .val (.int (own_f5 (own_f5 (own_f5 (1 : Int32) (own_v0_77 p5 p6) q1) (own_v0_102 p5 p6) q2) (own_v0_127 p5 p6) q3))] [(.int (own_f5 (own_f5 (own_f5 (own_f5 (1 : Int32) (own_v0_77 p5 p6) q1) (own_v0_102 p5 p6) q2) (own_v0_127 p5 p6) q3) (own_v0_153 p5 p6) q4))]))
  refine own_go (fun _ => XS.istore X27.here hx rfl (hb hby at_172) rfl (l' := #[.val (.long q1), .second, .val (.long q2), .second, .val (.long q3), .second, .val (.long q4), .second, .val (.int p5), .val (.int p6), .val (.int ((p5 &&& (2147483647 : Int32)) % (5 : Int32))), .val (.int ((p6 &&& (2147483647 : Int32)) % (5 : Int32))), .val (.int (own_f1 ((p5 &&& (2147483647 : Int32)) % (5 : Int32)) ((p6 &&& (2147483647 : Int32)) % (5 : Int32)))), .val (.int (own_f2 ((p5 &&& (2147483647 : Int32)) % (5 : Int32)) ((p6 &&& (2147483647 : Int32)) % (5 : Int32)))), .val (.ref b9), .val (.ref b14), .val (.int (own_f5 (own_f5 (own_f5 (own_f5 (1 : Int32) (own_v0_77 p5 p6) q1) (own_v0_102 p5 p6) q2) (own_v0_127 p5 p6) q3) (own_v0_153 p5 p6) q4))]) rfl) ?_
  show own_Go p.tables e below _ (T27.setTop (mkF m 174 #[.val (.long q1), .second, .val (.long q2), .second, .val (.long q3), .second, .val (.long q4), .second, .val (.int p5), .val (.int p6), .val (.int ((p5 &&& (2147483647 : Int32)) % (5 : Int32))), .val (.int ((p6 &&& (2147483647 : Int32)) % (5 : Int32))), .val (.int (own_f1 ((p5 &&& (2147483647 : Int32)) % (5 : Int32)) ((p6 &&& (2147483647 : Int32)) % (5 : Int32)))), .val (.int (own_f2 ((p5 &&& (2147483647 : Int32)) % (5 : Int32)) ((p6 &&& (2147483647 : Int32)) % (5 : Int32)))), .val (.ref b9), .val (.ref b14), .val (.int (own_f5 (own_f5 (own_f5 (own_f5 (1 : Int32) (own_v0_77 p5 p6) q1) (own_v0_102 p5 p6) q2) (own_v0_127 p5 p6) q3) (own_v0_153 p5 p6) q4))] []))
  refine own_go (fun _ => XS.aload X27.here hx rfl (hb hby at_174) rfl rfl) ?_
  show own_Go p.tables e below _ (T27.setTop (mkF m 176 #[.val (.long q1), .second, .val (.long q2), .second, .val (.long q3), .second, .val (.long q4), .second, .val (.int p5), .val (.int p6), .val (.int ((p5 &&& (2147483647 : Int32)) % (5 : Int32))), .val (.int ((p6 &&& (2147483647 : Int32)) % (5 : Int32))), .val (.int (own_f1 ((p5 &&& (2147483647 : Int32)) % (5 : Int32)) ((p6 &&& (2147483647 : Int32)) % (5 : Int32)))), .val (.int (own_f2 ((p5 &&& (2147483647 : Int32)) % (5 : Int32)) ((p6 &&& (2147483647 : Int32)) % (5 : Int32)))), .val (.ref b9), .val (.ref b14), .val (.int (own_f5 (own_f5 (own_f5 (own_f5 (1 : Int32) (own_v0_77 p5 p6) q1) (own_v0_102 p5 p6) q2) (own_v0_127 p5 p6) q3) (own_v0_153 p5 p6) q4))] [(.ref b14)]))
  refine own_go (fun _ => XS.iload X27.here hx rfl (hb hby at_176) rfl) ?_
  show own_Go p.tables e below _ (T27.setTop (mkF m 178 #[.val (.long q1), .second, .val (.long q2), .second, .val (.long q3), .second, .val (.long q4), .second, .val (.int p5), .val (.int p6), .val (.int ((p5 &&& (2147483647 : Int32)) % (5 : Int32))), .val (.int ((p6 &&& (2147483647 : Int32)) % (5 : Int32))), .val (.int (own_f1 ((p5 &&& (2147483647 : Int32)) % (5 : Int32)) ((p6 &&& (2147483647 : Int32)) % (5 : Int32)))), .val (.int (own_f2 ((p5 &&& (2147483647 : Int32)) % (5 : Int32)) ((p6 &&& (2147483647 : Int32)) % (5 : Int32)))), .val (.ref b9), .val (.ref b14), .val (.int (own_f5 (own_f5 (own_f5 (own_f5 (1 : Int32) (own_v0_77 p5 p6) q1) (own_v0_102 p5 p6) q2) (own_v0_127 p5 p6) q3) (own_v0_153 p5 p6) q4))] [(.int (own_f1 ((p5 &&& (2147483647 : Int32)) % (5 : Int32)) ((p6 &&& (2147483647 : Int32)) % (5 : Int32)))), (.ref b14)]))
  refine own_go (fun _ => XS.iload X27.here hx rfl (hb hby at_178) rfl) ?_
  show own_Go p.tables e below _ (T27.setTop (mkF m 180 #[.val (.long q1), .second, .val (.long q2), .second, .val (.long q3), .second, .val (.long q4), .second, .val (.int p5), .val (.int p6), .val (.int ((p5 &&& (2147483647 : Int32)) % (5 : Int32))), .val (.int ((p6 &&& (2147483647 : Int32)) % (5 : Int32))), .val (.int (own_f1 ((p5 &&& (2147483647 : Int32)) % (5 : Int32)) ((p6 &&& (2147483647 : Int32)) % (5 : Int32)))), .val (.int (own_f2 ((p5 &&& (2147483647 : Int32)) % (5 : Int32)) ((p6 &&& (2147483647 : Int32)) % (5 : Int32)))), .val (.ref b9), .val (.ref b14), .val (.int (own_f5 (own_f5 (own_f5 (own_f5 (1 : Int32) (own_v0_77 p5 p6) q1) (own_v0_102 p5 p6) q2) (own_v0_127 p5 p6) q3) (own_v0_153 p5 p6) q4))] [(.int (own_f2 ((p5 &&& (2147483647 : Int32)) % (5 : Int32)) ((p6 &&& (2147483647 : Int32)) % (5 : Int32)))), (.int (own_f1 ((p5 &&& (2147483647 : Int32)) % (5 : Int32)) ((p6 &&& (2147483647 : Int32)) % (5 : Int32)))), (.ref b14)]))
  obtain ⟨a, k, hak, hp2, hp3⟩ := own_range p5 p6
  obtain ⟨cq28, kq28, q28a, q28b, q28c⟩ := isOf hZ e27 F15_0
  obtain ⟨_, _, ⟨T28, L28, k28, n28⟩, -, X28, ⟨Lc28, hQ28, l28, y28, z28⟩, st28⟩ := X27.virtualBack hx (y := (⟨"com/example/outis/outis/measures/RecordCounts", "hashOfRun", "(II)I"⟩ : MethodName)) (z := (⟨"com/example/outis/outis/measures/RecordCounts", "hashOfRun", "(II)I"⟩ : MethodName)) hown (mvT hZ (hw _ (List.mem_of_getElem? (i := 36) rfl))) (mvT hZ (hw _ (List.mem_of_getElem? (i := 37) rfl))) (notFace_of_selects (args := #[]) (mvT hZ (hw _ (List.mem_of_getElem? (i := 39) rfl)))) (mvT hZ (hw _ (List.mem_of_getElem? (i := 39) rfl))) (mvT hZ (hw _ (List.mem_of_getElem? (i := 38) rfl))) (by decide) (backOf (W := 0) (rm7 l Z a0 hw [] b14 (own_f1 ((p5 &&& (2147483647 : Int32)) % (5 : Int32)) ((p6 &&& (2147483647 : Int32)) % (5 : Int32))) (own_f2 ((p5 &&& (2147483647 : Int32)) % (5 : Int32)) ((p6 &&& (2147483647 : Int32)) % (5 : Int32))) b15 q1 q2 q3 q4 k9 a k T15.heap n0 (Nat.le_trans (Nat.le_trans (Nat.le_trans (Nat.le_trans (Nat.le_trans (Nat.le_trans (Nat.le_trans Z0 E9.1) (Keep.of_wr W10).1) (Keep.of_wr W11).1) (Keep.of_wr W12).1) (Keep.of_wr W13).1) E14.1) Kc15.1) F15_1 F15_3 hp2 hp3 hak) hZ (hw _ (List.mem_of_getElem? (i := 40) rfl)) (hw _ (List.mem_of_getElem? (i := 11) rfl)) (by decide) (by decide)) q28a q28c (g := (mkF m 180 #[.val (.long q1), .second, .val (.long q2), .second, .val (.long q3), .second, .val (.long q4), .second, .val (.int p5), .val (.int p6), .val (.int ((p5 &&& (2147483647 : Int32)) % (5 : Int32))), .val (.int ((p6 &&& (2147483647 : Int32)) % (5 : Int32))), .val (.int (own_f1 ((p5 &&& (2147483647 : Int32)) % (5 : Int32)) ((p6 &&& (2147483647 : Int32)) % (5 : Int32)))), .val (.int (own_f2 ((p5 &&& (2147483647 : Int32)) % (5 : Int32)) ((p6 &&& (2147483647 : Int32)) % (5 : Int32)))), .val (.ref b9), .val (.ref b14), .val (.int (own_f5 (own_f5 (own_f5 (own_f5 (1 : Int32) (own_v0_77 p5 p6) q1) (own_v0_102 p5 p6) q2) (own_v0_127 p5 p6) q3) (own_v0_153 p5 p6) q4))] [(.int (own_f2 ((p5 &&& (2147483647 : Int32)) % (5 : Int32)) ((p6 &&& (2147483647 : Int32)) % (5 : Int32)))), (.int (own_f1 ((p5 &&& (2147483647 : Int32)) % (5 : Int32)) ((p6 &&& (2147483647 : Int32)) % (5 : Int32)))), (.ref b14)])) rfl (by rw [hml]; rfl) (Steps.refl _) (argsL := [(.int (own_f1 ((p5 &&& (2147483647 : Int32)) % (5 : Int32)) ((p6 &&& (2147483647 : Int32)) % (5 : Int32)))), (.int (own_f2 ((p5 &&& (2147483647 : Int32)) % (5 : Int32)) ((p6 &&& (2147483647 : Int32)) % (5 : Int32))))]) (rest := []) (lenOf pd_0 rfl) rfl (by show 2 * 0 + _ ≤ _; exact Nat.le_of_eq rfl) (hb hby at_180) (fun _ _ => ⟨rfl, e27, (by decide : 3 + 0 ≤ _), (by decide : 13 + 0 ≤ _)⟩)
  dsimp only [Pt.U, Pt.locs, Pt.cells, Pt.slots] at X28 l28 y28 z28 st28 hQ28
  subst l28 y28 z28
  obtain ⟨rfl, N28q, e28⟩ := hQ28
  have N28 := Fr.app N27 N28q
  refine own_via st28 ?_
  show own_Go p.tables e below _ (T28.setTop (mkF m 183 #[.val (.long q1), .second, .val (.long q2), .second, .val (.long q3), .second, .val (.long q4), .second, .val (.int p5), .val (.int p6), .val (.int ((p5 &&& (2147483647 : Int32)) % (5 : Int32))), .val (.int ((p6 &&& (2147483647 : Int32)) % (5 : Int32))), .val (.int (own_f1 ((p5 &&& (2147483647 : Int32)) % (5 : Int32)) ((p6 &&& (2147483647 : Int32)) % (5 : Int32)))), .val (.int (own_f2 ((p5 &&& (2147483647 : Int32)) % (5 : Int32)) ((p6 &&& (2147483647 : Int32)) % (5 : Int32)))), .val (.ref b9), .val (.ref b14), .val (.int (own_f5 (own_f5 (own_f5 (own_f5 (1 : Int32) (own_v0_77 p5 p6) q1) (own_v0_102 p5 p6) q2) (own_v0_127 p5 p6) q3) (own_v0_153 p5 p6) q4))] [(.int (own_run (own_at q1 q2 q3 q4) k a 1))]))
  refine own_go (fun _ => XS.iload X28.here hx rfl (hb hby at_183) rfl) ?_
  show own_Go p.tables e below _ (T28.setTop (mkF m 185 #[.val (.long q1), .second, .val (.long q2), .second, .val (.long q3), .second, .val (.long q4), .second, .val (.int p5), .val (.int p6), .val (.int ((p5 &&& (2147483647 : Int32)) % (5 : Int32))), .val (.int ((p6 &&& (2147483647 : Int32)) % (5 : Int32))), .val (.int (own_f1 ((p5 &&& (2147483647 : Int32)) % (5 : Int32)) ((p6 &&& (2147483647 : Int32)) % (5 : Int32)))), .val (.int (own_f2 ((p5 &&& (2147483647 : Int32)) % (5 : Int32)) ((p6 &&& (2147483647 : Int32)) % (5 : Int32)))), .val (.ref b9), .val (.ref b14), .val (.int (own_f5 (own_f5 (own_f5 (own_f5 (1 : Int32) (own_v0_77 p5 p6) q1) (own_v0_102 p5 p6) q2) (own_v0_127 p5 p6) q3) (own_v0_153 p5 p6) q4))] [(.int (own_f5 (own_f5 (own_f5 (own_f5 (1 : Int32) (own_v0_77 p5 p6) q1) (own_v0_102 p5 p6) q2) (own_v0_127 p5 p6) q3) (own_v0_153 p5 p6) q4)), (.int (own_run (own_at q1 q2 q3 q4) k a 1))]))
  refine own_go (fun _ => XS.icmpNo X28.here hx rfl (hb hby at_185) rfl (teq (own_law q1 q2 q3 q4 p5 p6 hak hp2 hp3)).2) ?_
  show own_Go p.tables e below _ (T28.setTop (mkF m 188 #[.val (.long q1), .second, .val (.long q2), .second, .val (.long q3), .second, .val (.long q4), .second, .val (.int p5), .val (.int p6), .val (.int ((p5 &&& (2147483647 : Int32)) % (5 : Int32))), .val (.int ((p6 &&& (2147483647 : Int32)) % (5 : Int32))), .val (.int (own_f1 ((p5 &&& (2147483647 : Int32)) % (5 : Int32)) ((p6 &&& (2147483647 : Int32)) % (5 : Int32)))), .val (.int (own_f2 ((p5 &&& (2147483647 : Int32)) % (5 : Int32)) ((p6 &&& (2147483647 : Int32)) % (5 : Int32)))), .val (.ref b9), .val (.ref b14), .val (.int (own_f5 (own_f5 (own_f5 (own_f5 (1 : Int32) (own_v0_77 p5 p6) q1) (own_v0_102 p5 p6) q2) (own_v0_127 p5 p6) q3) (own_v0_153 p5 p6) q4))] []))
  refine own_go (fun _ => XS.iconst X28.here hx rfl (hb hby at_188)) ?_
  show own_Go p.tables e below _ (T28.setTop (mkF m 189 #[.val (.long q1), .second, .val (.long q2), .second, .val (.long q3), .second, .val (.long q4), .second, .val (.int p5), .val (.int p6), .val (.int ((p5 &&& (2147483647 : Int32)) % (5 : Int32))), .val (.int ((p6 &&& (2147483647 : Int32)) % (5 : Int32))), .val (.int (own_f1 ((p5 &&& (2147483647 : Int32)) % (5 : Int32)) ((p6 &&& (2147483647 : Int32)) % (5 : Int32)))), .val (.int (own_f2 ((p5 &&& (2147483647 : Int32)) % (5 : Int32)) ((p6 &&& (2147483647 : Int32)) % (5 : Int32)))), .val (.ref b9), .val (.ref b14), .val (.int (own_f5 (own_f5 (own_f5 (own_f5 (1 : Int32) (own_v0_77 p5 p6) q1) (own_v0_102 p5 p6) q2) (own_v0_127 p5 p6) q3) (own_v0_153 p5 p6) q4))] [(.int (1 : Int32))]))
  refine own_go (fun _ => XS.goto X28.here hx rfl (pc0 := 189) (pc' := 193) rfl (hb hby at_189) (by decide) (by decide)) ?_
  show own_Go p.tables e below _ (T28.setTop (mkF m 193 #[.val (.long q1), .second, .val (.long q2), .second, .val (.long q3), .second, .val (.long q4), .second, .val (.int p5), .val (.int p6), .val (.int ((p5 &&& (2147483647 : Int32)) % (5 : Int32))), .val (.int ((p6 &&& (2147483647 : Int32)) % (5 : Int32))), .val (.int (own_f1 ((p5 &&& (2147483647 : Int32)) % (5 : Int32)) ((p6 &&& (2147483647 : Int32)) % (5 : Int32)))), .val (.int (own_f2 ((p5 &&& (2147483647 : Int32)) % (5 : Int32)) ((p6 &&& (2147483647 : Int32)) % (5 : Int32)))), .val (.ref b9), .val (.ref b14), .val (.int (own_f5 (own_f5 (own_f5 (own_f5 (1 : Int32) (own_v0_77 p5 p6) q1) (own_v0_102 p5 p6) q2) (own_v0_127 p5 p6) q3) (own_v0_153 p5 p6) q4))] [(.int (1 : Int32))]))
  refine own_retN X28 Bd.notSynchronized hx (t := .boolean) Bd.returns (by simp) (hb hby at_193) (show Q0 Z q1 q2 q3 q4 p5 p6 h0 n0 _ T28.heap _ from by rw [e28]; exact ⟨rfl, N28⟩) (by decide) (by decide)
set_option maxRecDepth 65536 in
set_option maxHeartbeats 40000000 in
theorem comes_1 {Post : Tables → Env → Array Value → State → Outcome → State → Prop} (hpost : ∀ tb e args s v u, (limb_1_1.after args s (.returned v) u = true ∧ limb_1_2.after args s (.returned v) u = true ∧ True) → FrameEnd s (.returned v) u (Jvm.fieldLocs frame_1_writes args s ++ Jvm.arrayLocs frame_1_arrays args s ++ Jvm.staticLocs frame_1_statics s) 16 128 → Post tb e args s (.returned v) u) :
    ArmFor flags0 classFile x code maxLocals ret World_1 tables_1 room_1 Calls_1 rest_1 Pre_1 Post := by
  intro l hfl _ _ p e ha hc hk s m args below hf hA hF happ hP
  obtain ⟨hcalls, hrest, hpre⟩ := hP
  obtain ⟨-, -, -, hnamed, -, -, -, hat⟩ := (Spec.applies_iff hf).mp happ
  obtain ⟨hg, hn⟩ := and_e (Cond.before_iff.mp (show (Jvm.Cond.and given_1 narrow_1).before args s = true from hpre))
  obtain ⟨g1, g2⟩ := and_e hg
  obtain ⟨g3, g4⟩ := and_e g2
  obtain ⟨g5, g6⟩ := and_e g4
  obtain ⟨g7, g8⟩ := and_e g6
  obtain ⟨g9, g10⟩ := and_e g8
  obtain ⟨g11, g12⟩ := and_e g10
  obtain ⟨w0, w1, w2, w3, w4, w5, rfl⟩ : ∃ w0 w1 w2 w3 w4 w5 : Value, args = #[w0, w1, w2, w3, w4, w5] := by
    have hs : args.size = 6 := by simpa [Cond.value, given_1] using g1
    obtain ⟨L⟩ := args
    match L, hs with
    | [w0, w1, w2, w3, w4, w5], _ => exact ⟨w0, w1, w2, w3, w4, w5, rfl⟩
  have hw := fun d (hd : d ∈ tables_1) => atoms_spec (ws := Jvm.Cond.code x code maxLocals ret :: tables_1) hat d (List.mem_cons_of_mem _ hd)
  have hfit : Fit s := fun {y c} hc i hi => by
    obtain ⟨ha, rfl⟩ := Array.getElem?_eq_some_iff.mp hc
    have q := List.all_eq_true.mp ((Array.all_eq_true_iff_forall_mem.mp hF) _ (Array.getElem_mem ha)) i (List.mem_range.mpr hi)
    simpa [Array.getElem?_eq_getElem hi] using q
  obtain ⟨i0, ei0⟩ := isL_v g3
  obtain rfl : w0 = (.long i0) := Option.some.inj ei0
  obtain ⟨i1, ei1⟩ := isL_v g5
  obtain rfl : w1 = (.long i1) := Option.some.inj ei1
  obtain ⟨i2, ei2⟩ := isL_v g7
  obtain rfl : w2 = (.long i2) := Option.some.inj ei2
  obtain ⟨i3, ei3⟩ := isL_v g9
  obtain rfl : w3 = (.long i3) := Option.some.inj ei3
  obtain ⟨i4, ei4⟩ := is_v g11
  obtain rfl : w4 = (.int i4) := Option.some.inj ei4
  obtain ⟨i5, ei5⟩ := is_v g12
  obtain rfl : w5 = (.int i5) := Option.some.inj ei5
  obtain ⟨n, o, h1, h2, h3, _, L, rfl, ⟨rfl, N⟩, hq⟩ := rm0 l s _ hw tables_1 i0 i1 i2 i3 i4 i5  s.heap s.heap.size (Nat.le_refl _)   p e ha hc hk s m _ below hf ((Spec.applies_iff_loose hf).mp happ).1 ⟨rfl, State.Warmed39.refl s, rfl⟩ trivial
  refine ⟨n, _, h1, h2, h3, hpost _ _ _ _ _ _ ⟨Cond.after_iff.mpr rfl, Cond.after_iff.mpr (eq_i res_at (Term.int_eval (1)) rfl), trivial⟩ ⟨hq.1, hq.2.1, (hq.2.2.sift fun y hy => Or.inr (N y hy)).mono (by decide) (by decide)⟩⟩
theorem main_1_1 : Claimed_1_1 := comes_1 fun _ _ _ _ _ _ h hF => ⟨h.1, hF⟩
theorem main_1_2 : Claimed_1_2 := comes_1 fun _ _ _ _ _ _ h hF => ⟨h.2.1, hF⟩
end Jvm.Pilot.@@N@@
namespace Jvm.Pilot.@@N@@
open Jvm Jvm.ClassFile Sem Op Lib Jvm.Free Jvm.Stand Jvm.Pilot.@@N@@.Jvm.D
/-! MADE BY PROGRAM (witnessworld.py) out of the Statement's table words and the real class files: 17 classes; the members and pool entries that the words name. The judged class is class 1, her method 3. -/
namespace start1
open Jvm.ClassFile
def u (s : String) : CpInfo := .utf8 (stringToUtf16 s)
/-- a pool by its gaps: so many unusable entries, then the entry; so many at the end -/
def gap : Nat → List CpInfo → List CpInfo
  | 0, r => r
  | n + 1, r => .unusable :: gap n r
def poolList (es : List (Nat × CpInfo)) (last : Nat) : List CpInfo := es.foldr (fun e r => gap e.1 (e.2 :: r)) (gap last [])
def pool (es : List (Nat × CpInfo)) (last : Nat) : Array CpInfo := ⟨poolList es last⟩
def fileOf (pool : Array CpInfo) (this : Nat) (attrs : Array Attribute := #[]) (ms : Array MethodInfo := #[]) (fl : Nat := 33) (sup : Nat := 0) (ifs : Array Nat := #[]) (fds : Array FieldInfo := #[]) : ClassFile where
  minorVersion := 0
  majorVersion := 65
  constantPool := pool
  accessFlags := fl
  thisClass := this
  superClass := sup
  interfaces := ifs
  fields := fds
  methods := ms
  attributes := attrs
def plain (name : String) (sup : Option ClassId) : Class where
  name := name
  kind := .ordinary
  loader := none
  accessFlags := 33
  super := sup
  interfaces := #[]
  cf := none
  fields := #[]
  methods := #[]
  instanceTypes := #[]
  staticTypes := #[]
  resolved := #[]
  callSites := []
  init := .initialized
  statics := none
  mirror := none

def pool0 : Array CpInfo := pool [(5, u "<init>"), (0, u "()V"), (1, .class_ 10), (1, u "java/lang/Object"), (85, u "clone"), (0, u "()Ljava/lang/Object;")] 26

def k0c0 : Code := { maxStack := 0, maxLocals := 1, code := object_method_1_code, exceptionTable := #[], attributes := #[] }
def k0m0 : Method := { name := "<init>", desc := "()V", sig := { parameters := [], returnType := none }, accessFlags := 1, code := some k0c0 }
def k0m1 : Method := { name := "clone", desc := "()Ljava/lang/Object;", sig := { parameters := [], returnType := some (.object "java/lang/Object") }, accessFlags := 260, code := none }
/-- java/lang/Object -/
def k0 : Class := { plain "java/lang/Object" none with
  accessFlags := 33
  interfaces := #[]
  cf := some (fileOf pool0 8 #[] #[{ accessFlags := 1, nameIndex := 5, descriptorIndex := 6, attributes := #[] }, { accessFlags := 260, nameIndex := 96, descriptorIndex := 97, attributes := #[] }] 33 0 #[] #[])
  fields := #[]
  methods := #[k0m0, k0m1]
  instanceTypes := #[]
  staticTypes := #[]
  resolved := Array.replicate 124 none
  statics := none }

def pool1 : Array CpInfo := pool [(2, .class_ 4), (1, u "java/lang/Object"), (0, u "<init>"), (0, u "()V"), (0, .methodref 8 9), (0, .class_ 10), (0, .nameAndType 11 12), (0, u "com/example/outis/outis/measures/RecordCountsHashOfRunPinLaw"), (0, u "hc"), (0, u "(J)I"), (0, .integer 2147483647), (0, .methodref 15 16), (0, .class_ 17), (0, .nameAndType 18 19), (0, u "java/lang/Math"), (0, u "min"), (0, u "(II)I"), (0, .methodref 15 21), (0, .nameAndType 22 19), (0, u "max"), (0, .class_ 24), (0, u "com/example/outis/outis/measures/RecordCounts"), (0, .methodref 23 26), (0, .nameAndType 5 27), (0, u "([J)V"), (0, .methodref 8 29), (0, .nameAndType 30 31), (0, u "step"), (0, u "(IZJ)I"), (0, .methodref 23 33), (0, .nameAndType 34 19), (0, u "hashOfRun"), (3, u "law"), (0, u "(JJJJII)Z")] 4

def k1m0 : Method := { name := "<init>", desc := "()V", sig := { parameters := [], returnType := none }, accessFlags := 1, code := none }
def k1c1 : Code := { maxStack := 4, maxLocals := 2, code := method_2_code, exceptionTable := #[], attributes := #[] }
def k1m1 : Method := { name := "hc", desc := "(J)I", sig := { parameters := [.long], returnType := some .int }, accessFlags := 10, code := some k1c1 }
def k1c2 : Code := { maxStack := 3, maxLocals := 4, code := method_3_code, exceptionTable := #[], attributes := #[] }
def k1m2 : Method := { name := "step", desc := "(IZJ)I", sig := { parameters := [.int, .boolean, .long], returnType := some .int }, accessFlags := 10, code := some k1c2 }
def k1c3 : Code := { maxStack := 5, maxLocals := 17, code := code, exceptionTable := #[], attributes := #[] }
def k1m3 : Method := { name := "law", desc := "(JJJJII)Z", sig := { parameters := [.long, .long, .long, .long, .int, .int], returnType := some .boolean }, accessFlags := 9, code := some k1c3 }
/-- com/example/outis/outis/measures/RecordCountsHashOfRunPinLaw -/
def k1 : Class := { plain "com/example/outis/outis/measures/RecordCountsHashOfRunPinLaw" (some 0) with
  accessFlags := 49
  interfaces := #[]
  cf := some (fileOf pool1 8 #[] #[{ accessFlags := 1, nameIndex := 5, descriptorIndex := 6, attributes := #[] }, { accessFlags := 10, nameIndex := 11, descriptorIndex := 12, attributes := #[] }, { accessFlags := 10, nameIndex := 30, descriptorIndex := 31, attributes := #[] }, { accessFlags := 9, nameIndex := 38, descriptorIndex := 39, attributes := #[] }] 49 2 #[] #[])
  fields := #[]
  methods := #[k1m0, k1m1, k1m2, k1m3]
  instanceTypes := #[]
  staticTypes := #[]
  resolved := Array.replicate 44 none
  statics := none }

def pool2 : Array CpInfo := pool [(1, .class_ 2), (0, u "java/lang/Math"), (1, .class_ 6), (1, u "java/lang/Object"), (0, u "<init>"), (0, u "()V"), (89, .class_ 100), (1, u "java/lang/Math$RandomNumberGeneratorHolder"), (71, u "negativeZeroFloatBits"), (0, u "J"), (2, u "negativeZeroDoubleBits"), (21, u "max"), (2, u "min"), (43, u "$assertionsDisabled"), (0, u "Z"), (88, u "(II)I"), (2, u "twoToTheDoubleScaleDown"), (0, u "D"), (4, u "twoToTheDoubleScaleUp"), (9, u "E"), (3, u "PI"), (2, u "TAU"), (2, u "DEGREES_TO_RADIANS"), (0, u "RADIANS_TO_DEGREES")] 94

def k2m0 : Method := { name := "<init>", desc := "()V", sig := { parameters := [], returnType := none }, accessFlags := 2, code := none }
def k2c1 : Code := { maxStack := 2, maxLocals := 2, code := jdk_29_method_65_code, exceptionTable := #[], attributes := #[] }
def k2m1 : Method := { name := "max", desc := "(II)I", sig := { parameters := [.int, .int], returnType := some .int }, accessFlags := 9, code := some k2c1 }
def k2c2 : Code := { maxStack := 2, maxLocals := 2, code := jdk_29_method_69_code, exceptionTable := #[], attributes := #[] }
def k2m2 : Method := { name := "min", desc := "(II)I", sig := { parameters := [.int, .int], returnType := some .int }, accessFlags := 9, code := some k2c2 }
/-- java/lang/Math -/
def k2 : Class := { plain "java/lang/Math" (some 0) with
  accessFlags := 49
  interfaces := #[]
  cf := some (fileOf pool2 1 #[.nestMembers #[98]] #[{ accessFlags := 2, nameIndex := 7, descriptorIndex := 8, attributes := #[] }, { accessFlags := 9, nameIndex := 198, descriptorIndex := 335, attributes := #[] }, { accessFlags := 9, nameIndex := 201, descriptorIndex := 335, attributes := #[] }] 49 4 #[] #[{ accessFlags := 25, nameIndex := 354, descriptorIndex := 339, attributes := #[] }, { accessFlags := 25, nameIndex := 358, descriptorIndex := 339, attributes := #[] }, { accessFlags := 25, nameIndex := 361, descriptorIndex := 339, attributes := #[] }, { accessFlags := 26, nameIndex := 364, descriptorIndex := 339, attributes := #[] }, { accessFlags := 26, nameIndex := 365, descriptorIndex := 339, attributes := #[] }, { accessFlags := 26, nameIndex := 172, descriptorIndex := 173, attributes := #[] }, { accessFlags := 26, nameIndex := 176, descriptorIndex := 173, attributes := #[] }, { accessFlags := 8, nameIndex := 344, descriptorIndex := 339, attributes := #[] }, { accessFlags := 8, nameIndex := 338, descriptorIndex := 339, attributes := #[] }, { accessFlags := 4120, nameIndex := 245, descriptorIndex := 246, attributes := #[] }])
  fields := #[{ name := "E", type := .double, accessFlags := 25, slot := 0, constantValue := 0 }, { name := "PI", type := .double, accessFlags := 25, slot := 1, constantValue := 0 }, { name := "TAU", type := .double, accessFlags := 25, slot := 2, constantValue := 0 }, { name := "DEGREES_TO_RADIANS", type := .double, accessFlags := 26, slot := 3, constantValue := 0 }, { name := "RADIANS_TO_DEGREES", type := .double, accessFlags := 26, slot := 4, constantValue := 0 }, { name := "negativeZeroFloatBits", type := .long, accessFlags := 26, slot := 5, constantValue := 0 }, { name := "negativeZeroDoubleBits", type := .long, accessFlags := 26, slot := 6, constantValue := 0 }, { name := "twoToTheDoubleScaleUp", type := .double, accessFlags := 8, slot := 7, constantValue := 0 }, { name := "twoToTheDoubleScaleDown", type := .double, accessFlags := 8, slot := 8, constantValue := 0 }, { name := "$assertionsDisabled", type := .boolean, accessFlags := 4120, slot := 9, constantValue := 0 }]
  methods := #[k2m0, k2m1, k2m2]
  instanceTypes := #[]
  staticTypes := #[.double, .double, .double, .double, .double, .long, .long, .double, .double, .boolean]
  resolved := Array.replicate 460 none
  statics := none }

def pool3 : Array CpInfo := pool [(1, .methodref 2 3), (0, .class_ 4), (0, .nameAndType 5 6), (0, u "java/lang/Object"), (0, u "<init>"), (0, u "()V"), (0, .methodref 8 9), (0, .class_ 10), (0, .nameAndType 11 12), (0, u "[J"), (0, u "clone"), (0, u "()Ljava/lang/Object;"), (0, .fieldref 14 15), (0, .class_ 16), (0, .nameAndType 17 10), (0, u "com/example/outis/outis/measures/RecordCounts"), (0, u "records"), (5, u "totals"), (9, u "repeated"), (3, u "(II)I"), (16, .methodref 55 56), (0, .class_ 57), (0, .nameAndType 58 59), (0, u "java/lang/Long"), (0, u "hashCode"), (0, u "(J)I"), (2, u "places"), (0, u "[I"), (2, u "starts"), (20, u "([J)V"), (7, u "hashOfRun")] 7

def k3c0 : Code := { maxStack := 2, maxLocals := 2, code := prog_21_method_1_code, exceptionTable := #[], attributes := #[] }
def k3m0 : Method := { name := "<init>", desc := "([J)V", sig := { parameters := [(.array .long)], returnType := none }, accessFlags := 1, code := some k3c0 }
def k3c1 : Code := { maxStack := 3, maxLocals := 5, code := prog_21_method_4_code, exceptionTable := #[], attributes := #[] }
def k3m1 : Method := { name := "hashOfRun", desc := "(II)I", sig := { parameters := [.int, .int], returnType := some .int }, accessFlags := 0, code := some k3c1 }
/-- com/example/outis/outis/measures/RecordCounts -/
def k3 : Class := { plain "com/example/outis/outis/measures/RecordCounts" (some 0) with
  accessFlags := 49
  interfaces := #[]
  cf := some (fileOf pool3 14 #[] #[{ accessFlags := 1, nameIndex := 5, descriptorIndex := 87, attributes := #[] }, { accessFlags := 0, nameIndex := 95, descriptorIndex := 37, attributes := #[] }] 49 2 #[] #[{ accessFlags := 18, nameIndex := 17, descriptorIndex := 10, attributes := #[] }, { accessFlags := 2, nameIndex := 23, descriptorIndex := 10, attributes := #[] }, { accessFlags := 2, nameIndex := 33, descriptorIndex := 10, attributes := #[] }, { accessFlags := 2, nameIndex := 62, descriptorIndex := 63, attributes := #[] }, { accessFlags := 2, nameIndex := 66, descriptorIndex := 63, attributes := #[] }])
  fields := #[{ name := "records", type := (.array .long), accessFlags := 18, slot := 0, constantValue := 0 }, { name := "totals", type := (.array .long), accessFlags := 2, slot := 1, constantValue := 0 }, { name := "repeated", type := (.array .long), accessFlags := 2, slot := 2, constantValue := 0 }, { name := "places", type := (.array .int), accessFlags := 2, slot := 3, constantValue := 0 }, { name := "starts", type := (.array .int), accessFlags := 2, slot := 4, constantValue := 0 }]
  methods := #[k3m0, k3m1]
  instanceTypes := #[(.array .long), (.array .long), (.array .long), (.array .int), (.array .int)]
  staticTypes := #[]
  resolved := Array.replicate 103 none
  statics := none }

def pool4 : Array CpInfo := pool [(1, .class_ 2), (0, u "java/lang/Cloneable"), (0, .class_ 4), (0, u "java/lang/Object")] 2

/-- java/lang/Cloneable -/
def k4 : Class := { plain "java/lang/Cloneable" (some 0) with
  accessFlags := 1537
  interfaces := #[]
  cf := some (fileOf pool4 1 #[] #[] 1537 3 #[] #[])
  fields := #[]
  methods := #[]
  instanceTypes := #[]
  staticTypes := #[]
  resolved := Array.replicate 7 none
  statics := none }

def pool5 : Array CpInfo := pool [(1, .class_ 2), (0, u "java/io/Serializable"), (0, .class_ 4), (0, u "java/lang/Object")] 2

/-- java/io/Serializable -/
def k5 : Class := { plain "java/io/Serializable" (some 0) with
  accessFlags := 1537
  interfaces := #[]
  cf := some (fileOf pool5 1 #[] #[] 1537 3 #[] #[])
  fields := #[]
  methods := #[]
  instanceTypes := #[]
  staticTypes := #[]
  resolved := Array.replicate 7 none
  statics := none }

def pool6 : Array CpInfo := pool [(2, .class_ 4), (1, u "java/lang/Object"), (0, u "<init>"), (0, u "()V"), (1, .class_ 10), (1, u "java/lang/Number"), (2, .class_ 14), (0, u "java/io/Serializable"), (0, u "serialVersionUID"), (0, u "J")] 20

def k6m0 : Method := { name := "<init>", desc := "()V", sig := { parameters := [], returnType := none }, accessFlags := 1, code := none }
/-- java/lang/Number -/
def k6 : Class := { plain "java/lang/Number" (some 0) with
  accessFlags := 1057
  interfaces := #[5]
  cf := some (fileOf pool6 8 #[] #[{ accessFlags := 1, nameIndex := 5, descriptorIndex := 6, attributes := #[] }] 1057 2 #[13] #[{ accessFlags := 26, nameIndex := 15, descriptorIndex := 16, attributes := #[] }])
  fields := #[{ name := "serialVersionUID", type := .long, accessFlags := 26, slot := 0, constantValue := 0 }]
  methods := #[k6m0]
  instanceTypes := #[]
  staticTypes := #[.long]
  resolved := Array.replicate 37 none
  statics := none }

def pool7 : Array CpInfo := pool [(1, .class_ 2), (0, u "java/lang/Comparable"), (0, .class_ 4), (0, u "java/lang/Object")] 7

/-- java/lang/Comparable -/
def k7 : Class := { plain "java/lang/Comparable" (some 0) with
  accessFlags := 1537
  interfaces := #[]
  cf := some (fileOf pool7 1 #[] #[] 1537 3 #[] #[])
  fields := #[]
  methods := #[]
  instanceTypes := #[]
  staticTypes := #[]
  resolved := Array.replicate 12 none
  statics := none }

def pool8 : Array CpInfo := pool [(1, .class_ 2), (0, u "java/lang/constant/Constable"), (0, .class_ 4), (0, u "java/lang/Object")] 6

/-- java/lang/constant/Constable -/
def k8 : Class := { plain "java/lang/constant/Constable" (some 0) with
  accessFlags := 1537
  interfaces := #[]
  cf := some (fileOf pool8 1 #[] #[] 1537 3 #[] #[])
  fields := #[]
  methods := #[]
  instanceTypes := #[]
  staticTypes := #[]
  resolved := Array.replicate 11 none
  statics := none }

def pool9 : Array CpInfo := pool [(1, .class_ 2), (0, u "java/lang/constant/ConstantDesc"), (0, .class_ 4), (0, u "java/lang/Object")] 32

/-- java/lang/constant/ConstantDesc -/
def k9 : Class := { plain "java/lang/constant/ConstantDesc" (some 0) with
  accessFlags := 1537
  interfaces := #[]
  cf := some (fileOf pool9 1 #[] #[] 1537 3 #[] #[])
  fields := #[]
  methods := #[]
  instanceTypes := #[]
  staticTypes := #[]
  resolved := Array.replicate 37 none
  statics := none }

def pool10 : Array CpInfo := pool [(1, .class_ 2), (0, u "java/lang/Long"), (98, u "(J)I"), (133, .class_ 237), (1, u "java/lang/Long$LongCache"), (33, .class_ 272), (0, u "java/lang/Number"), (2, u "value"), (0, u "J"), (2, u "hashCode"), (81, u "TYPE"), (0, u "Ljava/lang/Class;"), (0, .class_ 364), (0, u "java/lang/Comparable"), (0, .class_ 366), (0, u "java/lang/constant/Constable"), (0, .class_ 368), (0, u "java/lang/constant/ConstantDesc"), (0, u "MIN_VALUE"), (1, u "MAX_VALUE"), (4, u "SIZE"), (0, u "I"), (1, u "BYTES"), (1, u "serialVersionUID")] 142

def k10c0 : Code := { maxStack := 5, maxLocals := 2, code := jdk_35_method_36_code, exceptionTable := #[], attributes := #[] }
def k10m0 : Method := { name := "hashCode", desc := "(J)I", sig := { parameters := [.long], returnType := some .int }, accessFlags := 9, code := some k10c0 }
/-- java/lang/Long -/
def k10 : Class := { plain "java/lang/Long" (some 6) with
  accessFlags := 49
  interfaces := #[7, 8, 9]
  cf := some (fileOf pool10 1 #[.nestMembers #[235]] #[{ accessFlags := 9, nameIndex := 279, descriptorIndex := 101, attributes := #[] }] 49 271 #[363, 365, 367] #[{ accessFlags := 25, nameIndex := 369, descriptorIndex := 276, attributes := #[] }, { accessFlags := 25, nameIndex := 371, descriptorIndex := 276, attributes := #[] }, { accessFlags := 25, nameIndex := 361, descriptorIndex := 362, attributes := #[] }, { accessFlags := 18, nameIndex := 275, descriptorIndex := 276, attributes := #[] }, { accessFlags := 25, nameIndex := 376, descriptorIndex := 377, attributes := #[] }, { accessFlags := 25, nameIndex := 379, descriptorIndex := 377, attributes := #[] }, { accessFlags := 26, nameIndex := 381, descriptorIndex := 276, attributes := #[] }])
  fields := #[{ name := "MIN_VALUE", type := .long, accessFlags := 25, slot := 0, constantValue := 0 }, { name := "MAX_VALUE", type := .long, accessFlags := 25, slot := 1, constantValue := 0 }, { name := "TYPE", type := (.object "java/lang/Class"), accessFlags := 25, slot := 2, constantValue := 0 }, { name := "value", type := .long, accessFlags := 18, slot := 0, constantValue := 0 }, { name := "SIZE", type := .int, accessFlags := 25, slot := 3, constantValue := 0 }, { name := "BYTES", type := .int, accessFlags := 25, slot := 4, constantValue := 0 }, { name := "serialVersionUID", type := .long, accessFlags := 26, slot := 5, constantValue := 0 }]
  methods := #[k10m0]
  instanceTypes := #[.long]
  staticTypes := #[.long, .long, (.object "java/lang/Class"), .int, .int, .long]
  resolved := Array.replicate 524 none
  statics := none }

/-- the primitive byte -/
def k11 : Class := { plain "byte" none with kind := .primitive 'B', accessFlags := 0x411 }
/-- [B -/
def k12 : Class := { plain "[B" (some 0) with kind := .array 11 .byte, interfaces := #[4, 5], accessFlags := 1041 }

/-- the primitive int -/
def k13 : Class := { plain "int" none with kind := .primitive 'I', accessFlags := 0x411 }
/-- [I -/
def k14 : Class := { plain "[I" (some 0) with kind := .array 13 .int, interfaces := #[4, 5], accessFlags := 1041 }

/-- the primitive long -/
def k15 : Class := { plain "long" none with kind := .primitive 'J', accessFlags := 0x411 }
/-- [J -/
def k16 : Class := { plain "[J" (some 0) with kind := .array 15 .long, interfaces := #[4, 5], accessFlags := 1041 }

def heap : Heap := #[]
def classes : Array Class := #[k0, k1, k2, k3, k4, k5, k6, k7, k8, k9, k10, k11, k12, k13, k14, k15, k16]
def interned : List (Array UInt16 × Addr) := []
def slotsUsed : Nat := 0
def theMethod : MethodId := ⟨1, 3⟩
def args0 : Array Value := #[.long 5, .long 7, .long 1, .long 2, .int 1, .int 3]
def aboutOver (below : List Frame) : State where
  vm := { classes := classes, interned := interned.toArray }
  heap := heap
  slotsUsed := slotsUsed
  threads := #[{ frames := .invoking theMethod args0 :: below }]
def below0 : List Frame := [.native { method := ⟨0, 0⟩, args := #[] }]
def about1 : State := aboutOver below0
def p0 : Program := .bare "" "" ""
def e0 : Env := launch0.env 0 0 0
theorem w_frames : about1.frames = Frame.invoking theMethod args0 :: below0 := rfl
set_option maxRecDepth 65536 in
theorem w_args : argsFit about1.vm theMethod args0 = true := by decide +kernel
set_option maxRecDepth 65536 in
theorem w_heap : heapFits about1 = true := by decide +kernel
set_option maxRecDepth 65536 in
theorem w_runnable : about1.curStatus? = some .runnable := by decide +kernel
set_option maxRecDepth 65536 in
theorem w_alone : about1.alone = true := by decide +kernel
set_option maxRecDepth 65536 in
theorem w_named : about1.methodNamed? x = some theMethod := by decide +kernel
set_option maxRecDepth 65536 in
theorem w_hears : about1.hears theMethod below0 = true := by decide +kernel
set_option maxRecDepth 65536 in
theorem w_ripe : about1.ripe theMethod args0 below0 = true := by decide +kernel
theorem w_running : about1.status = .running := rfl
set_option maxRecDepth 65536 in
theorem w_room : about1.hasRoom e0.platform room_1 = true :=
  launch0.hasRoom_least _ room_1 (by decide +kernel) (by decide +kernel) (by decide +kernel) (by decide +kernel) (by decide +kernel) (by decide +kernel)
theorem allAtoms_all (ts : List Jvm.Cond) (a : Array Jvm.Value) (st : Jvm.State) : (allAtoms ts).before a st = ts.all (fun c => c.before a st) := by
  induction ts with
  | nil => rfl
  | cons c t ih =>
    show (Jvm.Cond.and c (allAtoms t)).before a st = _
    rw [Jvm.Cond.before_and, ih, List.all_cons]
def words1 : List Jvm.Cond := Jvm.Cond.code x code maxLocals ret :: tables_1
/-- a 'code' word, met by the world's own term for the bytes: nothing is compared byte by byte -/
theorem code_word {y : MethodName} {bytes : ByteArray} {mx : Nat} {rt : Option FieldType} {a : Array Value} {s : State} {m : MethodId} {meth : Method} {c : Code} (h1 : s.methodNamed? y = some m) (h2 : s.vm.method? m = some meth) (h3 : meth.code = some c) (h4 : c.code = bytes)
    (h5 : (c.maxLocals == mx && c.exceptionTable.isEmpty && decide (c.maxStack ≤ mostOperands) && decide (meth.sig.returnType = rt) && !meth.locks && decide (parseMethodDescriptor y.desc = some meth.sig)) = true) : (Jvm.Cond.code y bytes mx rt).before a s = true := by
  simp only [Bool.and_eq_true, beq_iff_eq, Bool.not_eq_true', decide_eq_true_eq] at h5
  obtain ⟨⟨⟨⟨⟨g1, g2⟩, g3⟩, g4⟩, g5⟩, g6⟩ := h5
  simp [Cond.before, Cond.holds, Cond.value, h1, h2, h3, h4, g1, g2, g3, g4, g5, g6]
def isCode : Jvm.Cond → Bool
  | .code _ _ _ _ => true
  | _ => false
theorem all_split {L : List Jvm.Cond} {P : Jvm.Cond → Bool} (h1 : L.all (fun c => isCode c || P c) = true) (h2 : ∀ c ∈ L.filter isCode, P c = true) : L.all P = true := by
  refine List.all_eq_true.mpr fun c hc => ?_
  have h := List.all_eq_true.mp h1 c hc
  rcases Bool.eq_false_or_eq_true (isCode c) with hi | hi
  · exact h2 c (List.mem_filter.mpr ⟨hc, hi⟩)
  · simpa [hi] using h
set_option maxRecDepth 65536 in
theorem w_c0 : (Jvm.Cond.code x code maxLocals ret).before args0 about1 = true := code_word (m := ⟨1, 3⟩) (meth := k1m3) (c := k1c3) (by decide +kernel) rfl rfl rfl (by decide +kernel)
set_option maxRecDepth 65536 in
theorem w_c1 : (Jvm.Cond.code ({ cls := "java/lang/Math", name := "min", desc := "(II)I" } : Jvm.MethodName) jdk_29_method_69_code (2 : Nat) (Option.some Jvm.ClassFile.FieldType.int)).before args0 about1 = true := code_word (m := ⟨2, 2⟩) (meth := k2m2) (c := k2c2) (by decide +kernel) rfl rfl rfl (by decide +kernel)
set_option maxRecDepth 65536 in
theorem w_c2 : (Jvm.Cond.code ({ cls := "java/lang/Math", name := "max", desc := "(II)I" } : Jvm.MethodName) jdk_29_method_65_code (2 : Nat) (Option.some Jvm.ClassFile.FieldType.int)).before args0 about1 = true := code_word (m := ⟨2, 1⟩) (meth := k2m1) (c := k2c1) (by decide +kernel) rfl rfl rfl (by decide +kernel)
set_option maxRecDepth 65536 in
theorem w_c3 : (Jvm.Cond.code ({ cls := "com/example/outis/outis/measures/RecordCounts", name := "<init>", desc := "([J)V" } : Jvm.MethodName) prog_21_method_1_code (2 : Nat) (Option.none : Option Jvm.ClassFile.FieldType)).before args0 about1 = true := code_word (m := ⟨3, 0⟩) (meth := k3m0) (c := k3c0) (by decide +kernel) rfl rfl rfl (by decide +kernel)
set_option maxRecDepth 65536 in
theorem w_c4 : (Jvm.Cond.code ({ cls := "java/lang/Object", name := "<init>", desc := "()V" } : Jvm.MethodName) object_method_1_code (1 : Nat) (Option.none : Option Jvm.ClassFile.FieldType)).before args0 about1 = true := code_word (m := ⟨0, 0⟩) (meth := k0m0) (c := k0c0) (by decide +kernel) rfl rfl rfl (by decide +kernel)
set_option maxRecDepth 65536 in
theorem w_c5 : (Jvm.Cond.code ({ cls := "com/example/outis/outis/measures/RecordCountsHashOfRunPinLaw", name := "step", desc := "(IZJ)I" } : Jvm.MethodName) method_3_code (4 : Nat) (Option.some Jvm.ClassFile.FieldType.int)).before args0 about1 = true := code_word (m := ⟨1, 2⟩) (meth := k1m2) (c := k1c2) (by decide +kernel) rfl rfl rfl (by decide +kernel)
set_option maxRecDepth 65536 in
theorem w_c6 : (Jvm.Cond.code ({ cls := "com/example/outis/outis/measures/RecordCountsHashOfRunPinLaw", name := "hc", desc := "(J)I" } : Jvm.MethodName) method_2_code (2 : Nat) (Option.some Jvm.ClassFile.FieldType.int)).before args0 about1 = true := code_word (m := ⟨1, 1⟩) (meth := k1m1) (c := k1c1) (by decide +kernel) rfl rfl rfl (by decide +kernel)
set_option maxRecDepth 65536 in
theorem w_c7 : (Jvm.Cond.code ({ cls := "com/example/outis/outis/measures/RecordCounts", name := "hashOfRun", desc := "(II)I" } : Jvm.MethodName) prog_21_method_4_code (5 : Nat) (Option.some Jvm.ClassFile.FieldType.int)).before args0 about1 = true := code_word (m := ⟨3, 1⟩) (meth := k3m1) (c := k3c1) (by decide +kernel) rfl rfl rfl (by decide +kernel)
set_option maxRecDepth 65536 in
theorem w_c8 : (Jvm.Cond.code ({ cls := "java/lang/Long", name := "hashCode", desc := "(J)I" } : Jvm.MethodName) jdk_35_method_36_code (2 : Nat) (Option.some Jvm.ClassFile.FieldType.int)).before args0 about1 = true := code_word (m := ⟨10, 0⟩) (meth := k10m0) (c := k10c0) (by decide +kernel) rfl rfl rfl (by decide +kernel)
def codes1 : List Jvm.Cond := [Jvm.Cond.code x code maxLocals ret, Jvm.Cond.code ({ cls := "java/lang/Math", name := "min", desc := "(II)I" } : Jvm.MethodName) jdk_29_method_69_code (2 : Nat) (Option.some Jvm.ClassFile.FieldType.int), Jvm.Cond.code ({ cls := "java/lang/Math", name := "max", desc := "(II)I" } : Jvm.MethodName) jdk_29_method_65_code (2 : Nat) (Option.some Jvm.ClassFile.FieldType.int), Jvm.Cond.code ({ cls := "com/example/outis/outis/measures/RecordCounts", name := "<init>", desc := "([J)V" } : Jvm.MethodName) prog_21_method_1_code (2 : Nat) (Option.none : Option Jvm.ClassFile.FieldType), Jvm.Cond.code ({ cls := "java/lang/Object", name := "<init>", desc := "()V" } : Jvm.MethodName) object_method_1_code (1 : Nat) (Option.none : Option Jvm.ClassFile.FieldType), Jvm.Cond.code ({ cls := "com/example/outis/outis/measures/RecordCountsHashOfRunPinLaw", name := "step", desc := "(IZJ)I" } : Jvm.MethodName) method_3_code (4 : Nat) (Option.some Jvm.ClassFile.FieldType.int), Jvm.Cond.code ({ cls := "com/example/outis/outis/measures/RecordCountsHashOfRunPinLaw", name := "hc", desc := "(J)I" } : Jvm.MethodName) method_2_code (2 : Nat) (Option.some Jvm.ClassFile.FieldType.int), Jvm.Cond.code ({ cls := "com/example/outis/outis/measures/RecordCounts", name := "hashOfRun", desc := "(II)I" } : Jvm.MethodName) prog_21_method_4_code (5 : Nat) (Option.some Jvm.ClassFile.FieldType.int), Jvm.Cond.code ({ cls := "java/lang/Long", name := "hashCode", desc := "(J)I" } : Jvm.MethodName) jdk_35_method_36_code (2 : Nat) (Option.some Jvm.ClassFile.FieldType.int)]
set_option maxRecDepth 65536 in
theorem codes_eq : words1.filter isCode = codes1 := rfl
theorem w_codes : ∀ c ∈ words1.filter isCode, c.before args0 about1 = true := by
  rw [codes_eq]
  intro c hc
  simp only [codes1, List.mem_cons, List.not_mem_nil, or_false] at hc
  rcases hc with rfl | rfl | rfl | rfl | rfl | rfl | rfl | rfl | rfl
  · exact w_c0
  · exact w_c1
  · exact w_c2
  · exact w_c3
  · exact w_c4
  · exact w_c5
  · exact w_c6
  · exact w_c7
  · exact w_c8
set_option maxRecDepth 65536 in
theorem w_t1 : (words1.take 24).all (fun c => isCode c || c.before args0 about1) = true := by decide +kernel
set_option maxRecDepth 65536 in
theorem w_t2 : (words1.drop 24).all (fun c => isCode c || c.before args0 about1) = true := by decide +kernel
theorem w_tables : (allAtoms (Jvm.Cond.code x code maxLocals ret :: tables_1)).before args0 about1 = true := by
  rw [allAtoms_all]
  show words1.all (fun c => c.before args0 about1) = true
  refine all_split ?_ w_codes
  rw [← List.take_append_drop 24 words1, List.all_append, w_t1, w_t2]
  rfl
set_option maxRecDepth 65536 in
theorem w_case : (Jvm.Cond.and given_1 narrow_1).before args0 about1 = true := by decide +kernel
theorem w_applies : (headSpec (Jvm.Cond.code x code maxLocals ret :: tables_1) room_1).applies x e0.platform about1 = true :=
  (Spec.applies_iff w_frames).mpr ⟨w_running, w_runnable, w_alone, w_named, w_hears, w_ripe, w_room, w_tables⟩
theorem atStart : AtStart classFile x code maxLocals ret World_1 tables_1 room_1 Calls_1 rest_1 Pre_1 launch0 p0 e0 about1 theMethod args0 below0 :=
  ⟨lists_1, trivial, launch0.admits_env _ _ _, launch0.least_env, fairChoices_fair.cas, fairChoices_fair.clock, w_frames, w_args, w_heap, w_applies, trivial, trivial, w_case⟩
end start1
theorem witness_1 : WitnessClaimed_1 := ⟨start1.p0, start1.e0, start1.about1, start1.theMethod, start1.args0, start1.below0, start1.atStart⟩
end Jvm.Pilot.@@N@@
