import JvmDerived
import JvmDerived.Pilot.@@N@@Statement
import JvmDerived.Pilot.@@N@@Code
set_option linter.unusedVariables false
set_option linter.unusedSimpArgs false
namespace Jvm.Pilot.@@N@@
open Jvm Jvm.ClassFile Sem Op Lib Jvm.Free Jvm.Stand Jvm.LawKit Jvm.RoadKit Bundle Jvm.Pilot.@@N@@.Jvm.D
/-- from the state S the run comes to an end that meets F -/
def own_Go (tb : Tables) (e : Env) (below : List Frame) (F : State → Outcome → Prop) (S : State) : Prop := ∃ s₂ o, Steps tb e below S s₂ ∧ F s₂ o
/-- the end: it returned what Q says, over the heap that Q says -/
def own_Fin (below : List Frame) (s : State) (Q : Option Value → Heap → List Loc → Prop) (k n : Nat) : State → Outcome → Prop := fun s₂ o => s₂.status = .running ∧ Ended s₂ below o ∧ ∃ v L, o = .returned v ∧ Q v s₂.heap L ∧ FrameEnd s o s₂ L k n
theorem own_go {tb : Tables} {e : Env} {below : List Frame} {F : State → Outcome → Prop} {S S' : State} (h : ∀ t, Steps tb e below S' t → Steps tb e below S t) (k : own_Go tb e below F S') : own_Go tb e below F S := by
  obtain ⟨t, o, h1, h2⟩ := k
  exact ⟨t, o, h t h1, h2⟩
theorem own_via {tb : Tables} {e : Env} {below : List Frame} {F : State → Outcome → Prop} {S S' : State} (h : Steps tb e below S S') (k : own_Go tb e below F S') : own_Go tb e below F S := by
  obtain ⟨t, o, h1, h2⟩ := k
  exact ⟨t, o, h.trans h1, h2⟩
section OwnRet
variable {p : Program} {l : Launch} {e : Env} {R : Room} {s : State} {m : MethodId} {args : Array Value} {below : List Frame} {meth : Method} {c : Code} {T : State} {locs : List Loc} {cells slots : Nat} {Q : Option Value → Heap → List Loc → Prop} {K N : Nat}
theorem own_retN (X : Stand p l e R s m args below meth c T locs cells slots) (hlocks : meth.locks = false) (hx : p.tables.exec = Jvm.exec) {pc : Nat} {Ls : Array Slot} {z : Int32} {rest : List Value} {t : FieldType} (hret : meth.sig.returnType = some t) (ht : t = .boolean ∨ t = .byte ∨ t = .char ∨ t = .short) (hd : decode c.code pc = .ok (.ireturn, 1)) (hQ : Q (some (.int (nar t z))) T.heap locs) (hk : cells ≤ K) (hn : slots ≤ N) :
    own_Go p.tables e below (own_Fin below s Q K N) (T.setTop (mkF m pc Ls (.int z :: rest))) := by
  obtain ⟨fs, hr, hrun, hended, hW, hsame⟩ := X.leave (v := some (.int (nar t z))) (fun h => by rw [hret] at h; cases h) hlocks
  exact ⟨_, _, retN X hx hret ht hd hr, hrun, hended, _, _, rfl, hQ, ⟨_, rfl⟩, hW, hsame.mono hk hn⟩
theorem own_retI (X : Stand p l e R s m args below meth c T locs cells slots) (hlocks : meth.locks = false) (hx : p.tables.exec = Jvm.exec) {pc : Nat} {Ls : Array Slot} {z : Int32} {rest : List Value} (hret : meth.sig.returnType = some .int) (hd : decode c.code pc = .ok (.ireturn, 1)) (hQ : Q (some (.int z)) T.heap locs) (hk : cells ≤ K) (hn : slots ≤ N) :
    own_Go p.tables e below (own_Fin below s Q K N) (T.setTop (mkF m pc Ls (.int z :: rest))) := by
  obtain ⟨fs, hr, hrun, hended, hW, hsame⟩ := X.leave (v := some (.int z)) (fun h => by rw [hret] at h; cases h) hlocks
  exact ⟨_, _, retOut X hx (i := .ireturn) hret rfl (Or.inl ⟨rfl, Or.inl rfl, _, rfl⟩) hd hr, hrun, hended, _, _, rfl, hQ, ⟨_, rfl⟩, hW, hsame.mono hk hn⟩
theorem own_retJ (X : Stand p l e R s m args below meth c T locs cells slots) (hlocks : meth.locks = false) (hx : p.tables.exec = Jvm.exec) {pc : Nat} {Ls : Array Slot} {z : Int64} {rest : List Value} (hret : meth.sig.returnType = some .long) (hd : decode c.code pc = .ok (.lreturn, 1)) (hQ : Q (some (.long z)) T.heap locs) (hk : cells ≤ K) (hn : slots ≤ N) :
    own_Go p.tables e below (own_Fin below s Q K N) (T.setTop (mkF m pc Ls (.long z :: rest))) := by
  obtain ⟨fs, hr, hrun, hended, hW, hsame⟩ := X.leave (v := some (.long z)) (fun h => by rw [hret] at h; cases h) hlocks
  exact ⟨_, _, retOut X hx (i := .lreturn) hret rfl (Or.inr (Or.inl ⟨rfl, rfl, _, rfl⟩)) hd hr, hrun, hended, _, _, rfl, hQ, ⟨_, rfl⟩, hW, hsame.mono hk hn⟩
theorem own_retA (X : Stand p l e R s m args below meth c T locs cells slots) (hlocks : meth.locks = false) (hx : p.tables.exec = Jvm.exec) {pc : Nat} {Ls : Array Slot} {w : Value} {rest : List Value} {t : FieldType} (hret : meth.sig.returnType = some t) (ht : t.isReference = true) (hn' : narrow t w = w) (hw : w.isRef = true) (hd : decode c.code pc = .ok (.areturn, 1)) (hQ : Q (some w) T.heap locs) (hk : cells ≤ K) (hn : slots ≤ N) :
    own_Go p.tables e below (own_Fin below s Q K N) (T.setTop (mkF m pc Ls (w :: rest))) := by
  obtain ⟨fs, hr, hrun, hended, hW, hsame⟩ := X.leave (v := some w) (fun h => by rw [hret] at h; cases h) hlocks
  exact ⟨_, _, retOut X hx (i := .areturn) hret hn' (Or.inr (Or.inr (Or.inr (Or.inr ⟨rfl, ht, hw⟩)))) hd hr, hrun, hended, _, _, rfl, hQ, ⟨_, rfl⟩, hW, hsame.mono hk hn⟩
theorem own_ret0 (X : Stand p l e R s m args below meth c T locs cells slots) (hlocks : meth.locks = false) (hx : p.tables.exec = Jvm.exec) {pc : Nat} {Ls : Array Slot} (hret : meth.sig.returnType = none) (hd : decode c.code pc = .ok (.return_, 1)) (hQ : Q none T.heap locs) (hk : cells ≤ K) (hn : slots ≤ N) :
    own_Go p.tables e below (own_Fin below s Q K N) (T.setTop (mkF m pc Ls [])) := by
  obtain ⟨fs, hr, hrun, hended, hW, hsame⟩ := X.leave (v := none) (fun _ => rfl) hlocks
  exact ⟨_, _, X.returnOut hx hret hd hr, hrun, hended, _, _, rfl, hQ, ⟨_, rfl⟩, hW, hsame.mono hk hn⟩
/-- the end where String constants may have been made meanwhile -/
def own_FinW (below : List Frame) (s : State) (Q : Option Value → Heap → List Loc → Prop) (k n : Nat) : State → Outcome → Prop := fun s₂ o => s₂.status = .running ∧ Ended s₂ below o ∧ ∃ v L, o = .returned v ∧ Q v s₂.heap L ∧ ReturnedEndW s o s₂ L k n
theorem own_more {s t : State} {o : Outcome} {L : List Loc} {k n K N : Nat} (h : ReturnedEndW s o t L k n) (hk : k ≤ K) (hn : n ≤ N) : ReturnedEndW s o t L K N := ⟨h.1, h.2.1, h.2.2.1, h.2.2.2.mono hk hn⟩
variable {vm₁ : Vm} {n₁ : Nat}
theorem own_retNW (X : Stand p l e R (s.setVm vm₁) m args below meth c T locs cells slots) (hS : s.Since vm₁ n₁) (hn₁ : n₁ ≤ T.heap.size) (hlocks : meth.locks = false) (hx : p.tables.exec = Jvm.exec) {pc : Nat} {Ls : Array Slot} {z : Int32} {rest : List Value} {t : FieldType} (hret : meth.sig.returnType = some t) (ht : t = .boolean ∨ t = .byte ∨ t = .char ∨ t = .short) (hd : decode c.code pc = .ok (.ireturn, 1)) (hQ : Q (some (.int (nar t z))) T.heap locs) (hk : cells ≤ K) (hn : slots ≤ N) :
    own_Go p.tables e below (own_FinW below s Q K N) (T.setTop (mkF m pc Ls (.int z :: rest))) := by
  obtain ⟨fs, hr, hrun, hended, hE⟩ := X.leaveW hS hn₁ (v := some (.int (nar t z))) (fun h => by rw [hret] at h; cases h) hlocks
  exact ⟨_, _, retN X hx hret ht hd hr, hrun, hended, _, _, rfl, hQ, own_more hE hk hn⟩
theorem own_retAW (X : Stand p l e R (s.setVm vm₁) m args below meth c T locs cells slots) (hS : s.Since vm₁ n₁) (hn₁ : n₁ ≤ T.heap.size) (hlocks : meth.locks = false) (hx : p.tables.exec = Jvm.exec) {pc : Nat} {Ls : Array Slot} {w : Value} {rest : List Value} {t : FieldType} (hret : meth.sig.returnType = some t) (ht : t.isReference = true) (hn' : narrow t w = w) (hw : w.isRef = true) (hd : decode c.code pc = .ok (.areturn, 1)) (hQ : Q (some w) T.heap locs) (hk : cells ≤ K) (hn : slots ≤ N) :
    own_Go p.tables e below (own_FinW below s Q K N) (T.setTop (mkF m pc Ls (w :: rest))) := by
  obtain ⟨fs, hr, hrun, hended, hE⟩ := X.leaveW hS hn₁ (v := some w) (fun h => by rw [hret] at h; cases h) hlocks
  exact ⟨_, _, retOut X hx (i := .areturn) hret hn' (Or.inr (Or.inr (Or.inr (Or.inr ⟨rfl, ht, hw⟩)))) hd hr, hrun, hended, _, _, rfl, hQ, own_more hE hk hn⟩
theorem own_ret0W (X : Stand p l e R (s.setVm vm₁) m args below meth c T locs cells slots) (hS : s.Since vm₁ n₁) (hn₁ : n₁ ≤ T.heap.size) (hlocks : meth.locks = false) (hx : p.tables.exec = Jvm.exec) {pc : Nat} {Ls : Array Slot} (hret : meth.sig.returnType = none) (hd : decode c.code pc = .ok (.return_, 1)) (hQ : Q none T.heap locs) (hk : cells ≤ K) (hn : slots ≤ N) :
    own_Go p.tables e below (own_FinW below s Q K N) (T.setTop (mkF m pc Ls [])) := by
  obtain ⟨fs, hr, hrun, hended, hE⟩ := X.leaveW hS hn₁ (v := none) (fun _ => rfl) hlocks
  exact ⟨_, _, X.returnOut hx hret hd hr, hrun, hended, _, _, rfl, hQ, own_more hE hk hn⟩
end OwnRet
theorem own_val {x y : Int32} (h : y = x) : some (Value.int x) = some (Value.int y) := by rw [h]
theorem own_valJ {x y : Int64} (h : y = x) : some (Value.long x) = some (Value.long y) := by rw [h]
theorem own_valV {x y : Value} (h : y = x) : some x = some y := by rw [h]
theorem own_valR {x y : Addr} (h : y = x) : some (Value.ref x) = some (Value.ref y) := by rw [h]
theorem own_cat {v : Value} (h : v.isRef = true) : v.category = 1 := by rcases ref_cases h with rfl | ⟨z, rfl⟩ <;> rfl
theorem own_narR {v : Value} {C : String} (h : v.isRef = true) : narrow (.object C) v = v := by rcases ref_cases h with rfl | ⟨z, rfl⟩ <;> rfl
theorem own_fitR {v : Value} {C : String} (h : v.isRef = true) : fits (.object C) v = true := by rcases ref_cases h with rfl | ⟨z, rfl⟩ <;> rfl
theorem own_narA {v : Value} {t : FieldType} (h : v.isRef = true) : narrow (.array t) v = v := by rcases ref_cases h with rfl | ⟨z, rfl⟩ <;> rfl
theorem own_fitA {v : Value} {t : FieldType} (h : v.isRef = true) : fits (.array t) v = true := by rcases ref_cases h with rfl | ⟨z, rfl⟩ <;> rfl
theorem own_dne {p : Prop} (h : p) : ¬ ¬ p := fun q => q h
theorem d1_0 : decode prog_13_method_6_code 0 = .ok (.iload_n 0, 1) := by decide +kernel
theorem d1_1 : decode prog_13_method_6_code 1 = .ok (.bipush 48, 2) := by decide +kernel
theorem d1_3 : decode prog_13_method_6_code 3 = .ok (.if_icmp .lt 13, 3) := by decide +kernel
theorem d1_6 : decode prog_13_method_6_code 6 = .ok (.iload_n 0, 1) := by decide +kernel
theorem d1_7 : decode prog_13_method_6_code 7 = .ok (.bipush 57, 2) := by decide +kernel
theorem d1_9 : decode prog_13_method_6_code 9 = .ok (.if_icmp .gt 7, 3) := by decide +kernel
theorem d1_12 : decode prog_13_method_6_code 12 = .ok (.iconst 1, 1) := by decide +kernel
theorem d1_13 : decode prog_13_method_6_code 13 = .ok (.goto 4, 3) := by decide +kernel
theorem d1_16 : decode prog_13_method_6_code 16 = .ok (.iconst 0, 1) := by decide +kernel
theorem d1_17 : decode prog_13_method_6_code 17 = .ok (.ireturn, 1) := by decide +kernel
theorem pn_1 : plainName "com/example/barwright/barwright/Digits" = true := by first | (simp [plainName, overriddenIn]; done) | decide +kernel
theorem ef_1 (m : MethodId) (p1 : Int32) : entryFrame m #[(.int p1)] 1 = mkF m 0 #[.val (.int p1)] [] := by first | (simp [entryFrame, mkF, argsToLocals, Value.category]; done) | rfl
def own_f1 (p1 : Int32) : Int32 :=
  if p1 < (48 : Int32) then (0 : Int32)
  else if (57 : Int32) < p1 then (0 : Int32)
  else (1 : Int32)
def Q1 (Z : State) (p1 : Int32) (h0 : Heap) (n0 : Nat) (v : Option Value) (h : Heap) (L : List Loc) : Prop := v = some (.int (own_f1 p1)) ∧ Fr n0 L ∧ h = h0
set_option maxRecDepth 65536 in
set_option maxHeartbeats 40000000 in
theorem rm1 (l : Launch) (Z : State) (a0 : Array Value) (hw : ∀ d ∈ tables_1, d.before a0 Z = true) (ws : List Jvm.Cond) (p1 : Int32) (h0 : Heap) (n0 : Nat) (Z0 : n0 ≤ h0.size) :
    MetFree l (⟨"com/example/barwright/barwright/Digits", "isDigit", "(I)Z"⟩ : MethodName) (head1 (Jvm.Cond.code (⟨"com/example/barwright/barwright/Digits", "isDigit", "(I)Z"⟩ : MethodName) prog_13_method_6_code 1 (some .boolean) :: ws) ({ frames := 0, cells := 0, slots := 0, locals := 0 } : Room)) (fun a U => a = #[(.int p1)] ∧ Z.Warmed39 U.vm ∧ U.heap = h0) (fun _ _ _ _ _ => True) (fun _ U o U' => ∃ v L, o = .returned v ∧ Q1 Z p1 h0 n0 v U'.heap L ∧ FrameEnd U o U' L ({ frames := 0, cells := 0, slots := 0, locals := 0 } : Room).cells ({ frames := 0, cells := 0, slots := 0, locals := 0 } : Room).slots) := by
  refine MetFree.of_bodySF (plainFor_of_name pn_1) hisR ?_
  intro p e s m args below meth c s₁ Bd hml0 hP hK
  obtain ⟨rfl, hZ, hh⟩ := hP
  have hx := Bd.exec
  have hby := Bd.bytes
  have hml : c.maxLocals = 1 := hml0
  have hown : s.vm.findClass "com/example/barwright/barwright/Digits" = some m.cls := findClass_of_methodNamed Bd.named
  have hnm := (name_of_methodNamed Bd.named Bd.method).1
  have X0 : Stand p l e ({ frames := 0, cells := 0, slots := 0, locals := 0 } : Room) s m #[(.int p1)] below meth c s₁ [] 0 0 := Stand.of_body Bd
  have e0 : s₁.heap = h0 := by rw [← hh, Bd.state]; rfl
  have N0 := Fr.nil n0
  show own_Go p.tables e below (own_Fin below s (Q1 Z p1 h0 n0) ({ frames := 0, cells := 0, slots := 0, locals := 0 } : Room).cells ({ frames := 0, cells := 0, slots := 0, locals := 0 } : Room).slots) (s₁.setTop (entryFrame m #[(.int p1)] 1))
  refine own_go (S' := s₁.setTop (mkF m 0 #[.val (.int p1)] [])) (fun t k => castTop (ef_1 m p1) k) ?_
  show own_Go p.tables e below _ (s₁.setTop (mkF m 0 #[.val (.int p1)] []))
  refine own_go (fun _ => XS.iloadN X0.here hx rfl (hb hby d1_0) rfl) ?_
  show own_Go p.tables e below _ (s₁.setTop (mkF m 1 #[.val (.int p1)] [(.int p1)]))
  refine own_go (fun _ => XS.bipush X0.here hx rfl (hb hby d1_1)) ?_
  show own_Go p.tables e below _ (s₁.setTop (mkF m 3 #[.val (.int p1)] [(.int (48 : Int32)), (.int p1)]))
  by_cases hc2_3 : p1 < (48 : Int32)
  · skip
    refine own_go (fun _ => XS.icmpYes X0.here hx rfl (pc0 := 3) (pc' := 16) rfl (hb hby d1_3) rfl (tlt hc2_3).1 (by decide) (by decide)) ?_
    show own_Go p.tables e below _ (s₁.setTop (mkF m 16 #[.val (.int p1)] []))
    refine own_go (fun _ => XS.iconst X0.here hx rfl (hb hby d1_16)) ?_
    show own_Go p.tables e below _ (s₁.setTop (mkF m 17 #[.val (.int p1)] [(.int (0 : Int32))]))
    refine own_retN X0 Bd.notSynchronized hx (t := .boolean) Bd.returns (by simp) (hb hby d1_17) (show Q1 Z p1 h0 n0 _ s₁.heap _ from by rw [e0]; exact ⟨(own_val ((if_pos hc2_3).trans rfl)), N0, rfl⟩) (by decide) (by decide)
  · skip
    refine own_go (fun _ => XS.icmpNo X0.here hx rfl (hb hby d1_3) rfl (flt hc2_3).1) ?_
    show own_Go p.tables e below _ (s₁.setTop (mkF m 6 #[.val (.int p1)] []))
    refine own_go (fun _ => XS.iloadN X0.here hx rfl (hb hby d1_6) rfl) ?_
    show own_Go p.tables e below _ (s₁.setTop (mkF m 7 #[.val (.int p1)] [(.int p1)]))
    refine own_go (fun _ => XS.bipush X0.here hx rfl (hb hby d1_7)) ?_
    show own_Go p.tables e below _ (s₁.setTop (mkF m 9 #[.val (.int p1)] [(.int (57 : Int32)), (.int p1)]))
    by_cases hc3_9 : (57 : Int32) < p1
    · skip
      refine own_go (fun _ => XS.icmpYes X0.here hx rfl (pc0 := 9) (pc' := 16) rfl (hb hby d1_9) rfl (tlt hc3_9).2.2.1 (by decide) (by decide)) ?_
      show own_Go p.tables e below _ (s₁.setTop (mkF m 16 #[.val (.int p1)] []))
      refine own_go (fun _ => XS.iconst X0.here hx rfl (hb hby d1_16)) ?_
      show own_Go p.tables e below _ (s₁.setTop (mkF m 17 #[.val (.int p1)] [(.int (0 : Int32))]))
      refine own_retN X0 Bd.notSynchronized hx (t := .boolean) Bd.returns (by simp) (hb hby d1_17) (show Q1 Z p1 h0 n0 _ s₁.heap _ from by rw [e0]; exact ⟨(own_val ((if_neg hc2_3).trans ((if_pos hc3_9).trans rfl))), N0, rfl⟩) (by decide) (by decide)
    · skip
      refine own_go (fun _ => XS.icmpNo X0.here hx rfl (hb hby d1_9) rfl (flt hc3_9).2.2.1) ?_
      show own_Go p.tables e below _ (s₁.setTop (mkF m 12 #[.val (.int p1)] []))
      refine own_go (fun _ => XS.iconst X0.here hx rfl (hb hby d1_12)) ?_
      show own_Go p.tables e below _ (s₁.setTop (mkF m 13 #[.val (.int p1)] [(.int (1 : Int32))]))
      refine own_go (fun _ => XS.goto X0.here hx rfl (pc0 := 13) (pc' := 17) rfl (hb hby d1_13) (by decide) (by decide)) ?_
      show own_Go p.tables e below _ (s₁.setTop (mkF m 17 #[.val (.int p1)] [(.int (1 : Int32))]))
      refine own_retN X0 Bd.notSynchronized hx (t := .boolean) Bd.returns (by simp) (hb hby d1_17) (show Q1 Z p1 h0 n0 _ s₁.heap _ from by rw [e0]; exact ⟨(own_val ((if_neg hc2_3).trans ((if_neg hc3_9).trans rfl))), N0, rfl⟩) (by decide) (by decide)
theorem d2_0 : decode method_2_code 0 = .ok (.iload_n 0, 1) := by decide +kernel
theorem d2_1 : decode method_2_code 1 = .ok (.bipush 48, 2) := by decide +kernel
theorem d2_3 : decode method_2_code 3 = .ok (.if_icmp .eq 57, 3) := by decide +kernel
theorem d2_6 : decode method_2_code 6 = .ok (.iload_n 0, 1) := by decide +kernel
theorem d2_7 : decode method_2_code 7 = .ok (.bipush 49, 2) := by decide +kernel
theorem d2_9 : decode method_2_code 9 = .ok (.if_icmp .eq 51, 3) := by decide +kernel
theorem d2_12 : decode method_2_code 12 = .ok (.iload_n 0, 1) := by decide +kernel
theorem d2_13 : decode method_2_code 13 = .ok (.bipush 50, 2) := by decide +kernel
theorem d2_15 : decode method_2_code 15 = .ok (.if_icmp .eq 45, 3) := by decide +kernel
theorem d2_18 : decode method_2_code 18 = .ok (.iload_n 0, 1) := by decide +kernel
theorem d2_19 : decode method_2_code 19 = .ok (.bipush 51, 2) := by decide +kernel
theorem d2_21 : decode method_2_code 21 = .ok (.if_icmp .eq 39, 3) := by decide +kernel
theorem d2_24 : decode method_2_code 24 = .ok (.iload_n 0, 1) := by decide +kernel
theorem d2_25 : decode method_2_code 25 = .ok (.bipush 52, 2) := by decide +kernel
theorem d2_27 : decode method_2_code 27 = .ok (.if_icmp .eq 33, 3) := by decide +kernel
theorem d2_30 : decode method_2_code 30 = .ok (.iload_n 0, 1) := by decide +kernel
theorem d2_31 : decode method_2_code 31 = .ok (.bipush 53, 2) := by decide +kernel
theorem d2_33 : decode method_2_code 33 = .ok (.if_icmp .eq 27, 3) := by decide +kernel
theorem d2_36 : decode method_2_code 36 = .ok (.iload_n 0, 1) := by decide +kernel
theorem d2_37 : decode method_2_code 37 = .ok (.bipush 54, 2) := by decide +kernel
theorem d2_39 : decode method_2_code 39 = .ok (.if_icmp .eq 21, 3) := by decide +kernel
theorem d2_42 : decode method_2_code 42 = .ok (.iload_n 0, 1) := by decide +kernel
theorem d2_43 : decode method_2_code 43 = .ok (.bipush 55, 2) := by decide +kernel
theorem d2_45 : decode method_2_code 45 = .ok (.if_icmp .eq 15, 3) := by decide +kernel
theorem d2_48 : decode method_2_code 48 = .ok (.iload_n 0, 1) := by decide +kernel
theorem d2_49 : decode method_2_code 49 = .ok (.bipush 56, 2) := by decide +kernel
theorem d2_51 : decode method_2_code 51 = .ok (.if_icmp .eq 9, 3) := by decide +kernel
theorem d2_54 : decode method_2_code 54 = .ok (.iload_n 0, 1) := by decide +kernel
theorem d2_55 : decode method_2_code 55 = .ok (.bipush 57, 2) := by decide +kernel
theorem d2_57 : decode method_2_code 57 = .ok (.if_icmp .ne 7, 3) := by decide +kernel
theorem d2_60 : decode method_2_code 60 = .ok (.iconst 1, 1) := by decide +kernel
theorem d2_61 : decode method_2_code 61 = .ok (.goto 4, 3) := by decide +kernel
theorem d2_64 : decode method_2_code 64 = .ok (.iconst 0, 1) := by decide +kernel
theorem d2_65 : decode method_2_code 65 = .ok (.ireturn, 1) := by decide +kernel
theorem pn_2 : plainName "com/example/barwright/barwright/DigitsIsDigitPinLaw" = true := by first | (simp [plainName, overriddenIn]; done) | decide +kernel
theorem ef_2 (m : MethodId) (p1 : Int32) : entryFrame m #[(.int p1)] 1 = mkF m 0 #[.val (.int p1)] [] := by first | (simp [entryFrame, mkF, argsToLocals, Value.category]; done) | rfl
def own_f2 (p1 : Int32) : Int32 :=
  if p1 = (48 : Int32) then (1 : Int32)
  else if p1 = (49 : Int32) then (1 : Int32)
  else if p1 = (50 : Int32) then (1 : Int32)
  else if p1 = (51 : Int32) then (1 : Int32)
  else if p1 = (52 : Int32) then (1 : Int32)
  else if p1 = (53 : Int32) then (1 : Int32)
  else if p1 = (54 : Int32) then (1 : Int32)
  else if p1 = (55 : Int32) then (1 : Int32)
  else if p1 = (56 : Int32) then (1 : Int32)
  else if p1 = (57 : Int32) then (1 : Int32)
  else (0 : Int32)
def Q2 (Z : State) (p1 : Int32) (h0 : Heap) (n0 : Nat) (v : Option Value) (h : Heap) (L : List Loc) : Prop := v = some (.int (own_f2 p1)) ∧ Fr n0 L ∧ h = h0
set_option maxRecDepth 65536 in
set_option maxHeartbeats 40000000 in
theorem rm2 (l : Launch) (Z : State) (a0 : Array Value) (hw : ∀ d ∈ tables_1, d.before a0 Z = true) (ws : List Jvm.Cond) (p1 : Int32) (h0 : Heap) (n0 : Nat) (Z0 : n0 ≤ h0.size) :
    MetFree l (⟨"com/example/barwright/barwright/DigitsIsDigitPinLaw", "ref", "(I)Z"⟩ : MethodName) (head1 (Jvm.Cond.code (⟨"com/example/barwright/barwright/DigitsIsDigitPinLaw", "ref", "(I)Z"⟩ : MethodName) method_2_code 1 (some .boolean) :: ws) ({ frames := 0, cells := 0, slots := 0, locals := 0 } : Room)) (fun a U => a = #[(.int p1)] ∧ Z.Warmed39 U.vm ∧ U.heap = h0) (fun _ _ _ _ _ => True) (fun _ U o U' => ∃ v L, o = .returned v ∧ Q2 Z p1 h0 n0 v U'.heap L ∧ FrameEnd U o U' L ({ frames := 0, cells := 0, slots := 0, locals := 0 } : Room).cells ({ frames := 0, cells := 0, slots := 0, locals := 0 } : Room).slots) := by
  refine MetFree.of_bodySF (plainFor_of_name pn_2) hisR ?_
  intro p e s m args below meth c s₁ Bd hml0 hP hK
  obtain ⟨rfl, hZ, hh⟩ := hP
  have hx := Bd.exec
  have hby := Bd.bytes
  have hml : c.maxLocals = 1 := hml0
  have hown : s.vm.findClass "com/example/barwright/barwright/DigitsIsDigitPinLaw" = some m.cls := findClass_of_methodNamed Bd.named
  have hnm := (name_of_methodNamed Bd.named Bd.method).1
  have X0 : Stand p l e ({ frames := 0, cells := 0, slots := 0, locals := 0 } : Room) s m #[(.int p1)] below meth c s₁ [] 0 0 := Stand.of_body Bd
  have e0 : s₁.heap = h0 := by rw [← hh, Bd.state]; rfl
  have N0 := Fr.nil n0
  show own_Go p.tables e below (own_Fin below s (Q2 Z p1 h0 n0) ({ frames := 0, cells := 0, slots := 0, locals := 0 } : Room).cells ({ frames := 0, cells := 0, slots := 0, locals := 0 } : Room).slots) (s₁.setTop (entryFrame m #[(.int p1)] 1))
  refine own_go (S' := s₁.setTop (mkF m 0 #[.val (.int p1)] [])) (fun t k => castTop (ef_2 m p1) k) ?_
  show own_Go p.tables e below _ (s₁.setTop (mkF m 0 #[.val (.int p1)] []))
  refine own_go (fun _ => XS.iloadN X0.here hx rfl (hb hby d2_0) rfl) ?_
  show own_Go p.tables e below _ (s₁.setTop (mkF m 1 #[.val (.int p1)] [(.int p1)]))
  refine own_go (fun _ => XS.bipush X0.here hx rfl (hb hby d2_1)) ?_
  show own_Go p.tables e below _ (s₁.setTop (mkF m 3 #[.val (.int p1)] [(.int (48 : Int32)), (.int p1)]))
  by_cases hc2_3 : p1 = (48 : Int32)
  · skip
    refine own_go (fun _ => XS.icmpYes X0.here hx rfl (pc0 := 3) (pc' := 60) rfl (hb hby d2_3) rfl (teq hc2_3).1 (by decide) (by decide)) ?_
    show own_Go p.tables e below _ (s₁.setTop (mkF m 60 #[.val (.int p1)] []))
    refine own_go (fun _ => XS.iconst X0.here hx rfl (hb hby d2_60)) ?_
    show own_Go p.tables e below _ (s₁.setTop (mkF m 61 #[.val (.int p1)] [(.int (1 : Int32))]))
    refine own_go (fun _ => XS.goto X0.here hx rfl (pc0 := 61) (pc' := 65) rfl (hb hby d2_61) (by decide) (by decide)) ?_
    show own_Go p.tables e below _ (s₁.setTop (mkF m 65 #[.val (.int p1)] [(.int (1 : Int32))]))
    refine own_retN X0 Bd.notSynchronized hx (t := .boolean) Bd.returns (by simp) (hb hby d2_65) (show Q2 Z p1 h0 n0 _ s₁.heap _ from by rw [e0]; exact ⟨(own_val ((if_pos hc2_3).trans rfl)), N0, rfl⟩) (by decide) (by decide)
  · skip
    refine own_go (fun _ => XS.icmpNo X0.here hx rfl (hb hby d2_3) rfl (feq hc2_3).1) ?_
    show own_Go p.tables e below _ (s₁.setTop (mkF m 6 #[.val (.int p1)] []))
    refine own_go (fun _ => XS.iloadN X0.here hx rfl (hb hby d2_6) rfl) ?_
    show own_Go p.tables e below _ (s₁.setTop (mkF m 7 #[.val (.int p1)] [(.int p1)]))
    refine own_go (fun _ => XS.bipush X0.here hx rfl (hb hby d2_7)) ?_
    show own_Go p.tables e below _ (s₁.setTop (mkF m 9 #[.val (.int p1)] [(.int (49 : Int32)), (.int p1)]))
    by_cases hc3_9 : p1 = (49 : Int32)
    · skip
      refine own_go (fun _ => XS.icmpYes X0.here hx rfl (pc0 := 9) (pc' := 60) rfl (hb hby d2_9) rfl (teq hc3_9).1 (by decide) (by decide)) ?_
      show own_Go p.tables e below _ (s₁.setTop (mkF m 60 #[.val (.int p1)] []))
      refine own_go (fun _ => XS.iconst X0.here hx rfl (hb hby d2_60)) ?_
      show own_Go p.tables e below _ (s₁.setTop (mkF m 61 #[.val (.int p1)] [(.int (1 : Int32))]))
      refine own_go (fun _ => XS.goto X0.here hx rfl (pc0 := 61) (pc' := 65) rfl (hb hby d2_61) (by decide) (by decide)) ?_
      show own_Go p.tables e below _ (s₁.setTop (mkF m 65 #[.val (.int p1)] [(.int (1 : Int32))]))
      refine own_retN X0 Bd.notSynchronized hx (t := .boolean) Bd.returns (by simp) (hb hby d2_65) (show Q2 Z p1 h0 n0 _ s₁.heap _ from by rw [e0]; exact ⟨(own_val ((if_neg hc2_3).trans ((if_pos hc3_9).trans rfl))), N0, rfl⟩) (by decide) (by decide)
    · skip
      refine own_go (fun _ => XS.icmpNo X0.here hx rfl (hb hby d2_9) rfl (feq hc3_9).1) ?_
      show own_Go p.tables e below _ (s₁.setTop (mkF m 12 #[.val (.int p1)] []))
      refine own_go (fun _ => XS.iloadN X0.here hx rfl (hb hby d2_12) rfl) ?_
      show own_Go p.tables e below _ (s₁.setTop (mkF m 13 #[.val (.int p1)] [(.int p1)]))
      refine own_go (fun _ => XS.bipush X0.here hx rfl (hb hby d2_13)) ?_
      show own_Go p.tables e below _ (s₁.setTop (mkF m 15 #[.val (.int p1)] [(.int (50 : Int32)), (.int p1)]))
      by_cases hc4_15 : p1 = (50 : Int32)
      · skip
        refine own_go (fun _ => XS.icmpYes X0.here hx rfl (pc0 := 15) (pc' := 60) rfl (hb hby d2_15) rfl (teq hc4_15).1 (by decide) (by decide)) ?_
        show own_Go p.tables e below _ (s₁.setTop (mkF m 60 #[.val (.int p1)] []))
        refine own_go (fun _ => XS.iconst X0.here hx rfl (hb hby d2_60)) ?_
        show own_Go p.tables e below _ (s₁.setTop (mkF m 61 #[.val (.int p1)] [(.int (1 : Int32))]))
        refine own_go (fun _ => XS.goto X0.here hx rfl (pc0 := 61) (pc' := 65) rfl (hb hby d2_61) (by decide) (by decide)) ?_
        show own_Go p.tables e below _ (s₁.setTop (mkF m 65 #[.val (.int p1)] [(.int (1 : Int32))]))
        refine own_retN X0 Bd.notSynchronized hx (t := .boolean) Bd.returns (by simp) (hb hby d2_65) (show Q2 Z p1 h0 n0 _ s₁.heap _ from by rw [e0]; exact ⟨(own_val ((if_neg hc2_3).trans ((if_neg hc3_9).trans ((if_pos hc4_15).trans rfl)))), N0, rfl⟩) (by decide) (by decide)
      · skip
        refine own_go (fun _ => XS.icmpNo X0.here hx rfl (hb hby d2_15) rfl (feq hc4_15).1) ?_
        show own_Go p.tables e below _ (s₁.setTop (mkF m 18 #[.val (.int p1)] []))
        refine own_go (fun _ => XS.iloadN X0.here hx rfl (hb hby d2_18) rfl) ?_
        show own_Go p.tables e below _ (s₁.setTop (mkF m 19 #[.val (.int p1)] [(.int p1)]))
        refine own_go (fun _ => XS.bipush X0.here hx rfl (hb hby d2_19)) ?_
        show own_Go p.tables e below _ (s₁.setTop (mkF m 21 #[.val (.int p1)] [(.int (51 : Int32)), (.int p1)]))
        by_cases hc5_21 : p1 = (51 : Int32)
        · skip
          refine own_go (fun _ => XS.icmpYes X0.here hx rfl (pc0 := 21) (pc' := 60) rfl (hb hby d2_21) rfl (teq hc5_21).1 (by decide) (by decide)) ?_
          show own_Go p.tables e below _ (s₁.setTop (mkF m 60 #[.val (.int p1)] []))
          refine own_go (fun _ => XS.iconst X0.here hx rfl (hb hby d2_60)) ?_
          show own_Go p.tables e below _ (s₁.setTop (mkF m 61 #[.val (.int p1)] [(.int (1 : Int32))]))
          refine own_go (fun _ => XS.goto X0.here hx rfl (pc0 := 61) (pc' := 65) rfl (hb hby d2_61) (by decide) (by decide)) ?_
          show own_Go p.tables e below _ (s₁.setTop (mkF m 65 #[.val (.int p1)] [(.int (1 : Int32))]))
          refine own_retN X0 Bd.notSynchronized hx (t := .boolean) Bd.returns (by simp) (hb hby d2_65) (show Q2 Z p1 h0 n0 _ s₁.heap _ from by rw [e0]; exact ⟨(own_val ((if_neg hc2_3).trans ((if_neg hc3_9).trans ((if_neg hc4_15).trans ((if_pos hc5_21).trans rfl))))), N0, rfl⟩) (by decide) (by decide)
        · skip
          refine own_go (fun _ => XS.icmpNo X0.here hx rfl (hb hby d2_21) rfl (feq hc5_21).1) ?_
          show own_Go p.tables e below _ (s₁.setTop (mkF m 24 #[.val (.int p1)] []))
          refine own_go (fun _ => XS.iloadN X0.here hx rfl (hb hby d2_24) rfl) ?_
          show own_Go p.tables e below _ (s₁.setTop (mkF m 25 #[.val (.int p1)] [(.int p1)]))
          refine own_go (fun _ => XS.bipush X0.here hx rfl (hb hby d2_25)) ?_
          show own_Go p.tables e below _ (s₁.setTop (mkF m 27 #[.val (.int p1)] [(.int (52 : Int32)), (.int p1)]))
          by_cases hc6_27 : p1 = (52 : Int32)
          · skip
            refine own_go (fun _ => XS.icmpYes X0.here hx rfl (pc0 := 27) (pc' := 60) rfl (hb hby d2_27) rfl (teq hc6_27).1 (by decide) (by decide)) ?_
            show own_Go p.tables e below _ (s₁.setTop (mkF m 60 #[.val (.int p1)] []))
            refine own_go (fun _ => XS.iconst X0.here hx rfl (hb hby d2_60)) ?_
            show own_Go p.tables e below _ (s₁.setTop (mkF m 61 #[.val (.int p1)] [(.int (1 : Int32))]))
            refine own_go (fun _ => XS.goto X0.here hx rfl (pc0 := 61) (pc' := 65) rfl (hb hby d2_61) (by decide) (by decide)) ?_
            show own_Go p.tables e below _ (s₁.setTop (mkF m 65 #[.val (.int p1)] [(.int (1 : Int32))]))
            refine own_retN X0 Bd.notSynchronized hx (t := .boolean) Bd.returns (by simp) (hb hby d2_65) (show Q2 Z p1 h0 n0 _ s₁.heap _ from by rw [e0]; exact ⟨(own_val ((if_neg hc2_3).trans ((if_neg hc3_9).trans ((if_neg hc4_15).trans ((if_neg hc5_21).trans ((if_pos hc6_27).trans rfl)))))), N0, rfl⟩) (by decide) (by decide)
          · skip
            refine own_go (fun _ => XS.icmpNo X0.here hx rfl (hb hby d2_27) rfl (feq hc6_27).1) ?_
            show own_Go p.tables e below _ (s₁.setTop (mkF m 30 #[.val (.int p1)] []))
            refine own_go (fun _ => XS.iloadN X0.here hx rfl (hb hby d2_30) rfl) ?_
            show own_Go p.tables e below _ (s₁.setTop (mkF m 31 #[.val (.int p1)] [(.int p1)]))
            refine own_go (fun _ => XS.bipush X0.here hx rfl (hb hby d2_31)) ?_
            show own_Go p.tables e below _ (s₁.setTop (mkF m 33 #[.val (.int p1)] [(.int (53 : Int32)), (.int p1)]))
            by_cases hc7_33 : p1 = (53 : Int32)
            · skip
              refine own_go (fun _ => XS.icmpYes X0.here hx rfl (pc0 := 33) (pc' := 60) rfl (hb hby d2_33) rfl (teq hc7_33).1 (by decide) (by decide)) ?_
              show own_Go p.tables e below _ (s₁.setTop (mkF m 60 #[.val (.int p1)] []))
              refine own_go (fun _ => XS.iconst X0.here hx rfl (hb hby d2_60)) ?_
              show own_Go p.tables e below _ (s₁.setTop (mkF m 61 #[.val (.int p1)] [(.int (1 : Int32))]))
              refine own_go (fun _ => XS.goto X0.here hx rfl (pc0 := 61) (pc' := 65) rfl (hb hby d2_61) (by decide) (by decide)) ?_
              show own_Go p.tables e below _ (s₁.setTop (mkF m 65 #[.val (.int p1)] [(.int (1 : Int32))]))
              refine own_retN X0 Bd.notSynchronized hx (t := .boolean) Bd.returns (by simp) (hb hby d2_65) (show Q2 Z p1 h0 n0 _ s₁.heap _ from by rw [e0]; exact ⟨(own_val ((if_neg hc2_3).trans ((if_neg hc3_9).trans ((if_neg hc4_15).trans ((if_neg hc5_21).trans ((if_neg hc6_27).trans ((if_pos hc7_33).trans rfl))))))), N0, rfl⟩) (by decide) (by decide)
            · skip
              refine own_go (fun _ => XS.icmpNo X0.here hx rfl (hb hby d2_33) rfl (feq hc7_33).1) ?_
              show own_Go p.tables e below _ (s₁.setTop (mkF m 36 #[.val (.int p1)] []))
              refine own_go (fun _ => XS.iloadN X0.here hx rfl (hb hby d2_36) rfl) ?_
              show own_Go p.tables e below _ (s₁.setTop (mkF m 37 #[.val (.int p1)] [(.int p1)]))
              refine own_go (fun _ => XS.bipush X0.here hx rfl (hb hby d2_37)) ?_
              show own_Go p.tables e below _ (s₁.setTop (mkF m 39 #[.val (.int p1)] [(.int (54 : Int32)), (.int p1)]))
              by_cases hc8_39 : p1 = (54 : Int32)
              · skip
                refine own_go (fun _ => XS.icmpYes X0.here hx rfl (pc0 := 39) (pc' := 60) rfl (hb hby d2_39) rfl (teq hc8_39).1 (by decide) (by decide)) ?_
                show own_Go p.tables e below _ (s₁.setTop (mkF m 60 #[.val (.int p1)] []))
                refine own_go (fun _ => XS.iconst X0.here hx rfl (hb hby d2_60)) ?_
                show own_Go p.tables e below _ (s₁.setTop (mkF m 61 #[.val (.int p1)] [(.int (1 : Int32))]))
                refine own_go (fun _ => XS.goto X0.here hx rfl (pc0 := 61) (pc' := 65) rfl (hb hby d2_61) (by decide) (by decide)) ?_
                show own_Go p.tables e below _ (s₁.setTop (mkF m 65 #[.val (.int p1)] [(.int (1 : Int32))]))
                refine own_retN X0 Bd.notSynchronized hx (t := .boolean) Bd.returns (by simp) (hb hby d2_65) (show Q2 Z p1 h0 n0 _ s₁.heap _ from by rw [e0]; exact ⟨(own_val ((if_neg hc2_3).trans ((if_neg hc3_9).trans ((if_neg hc4_15).trans ((if_neg hc5_21).trans ((if_neg hc6_27).trans ((if_neg hc7_33).trans ((if_pos hc8_39).trans rfl)))))))), N0, rfl⟩) (by decide) (by decide)
              · skip
                refine own_go (fun _ => XS.icmpNo X0.here hx rfl (hb hby d2_39) rfl (feq hc8_39).1) ?_
                show own_Go p.tables e below _ (s₁.setTop (mkF m 42 #[.val (.int p1)] []))
                refine own_go (fun _ => XS.iloadN X0.here hx rfl (hb hby d2_42) rfl) ?_
                show own_Go p.tables e below _ (s₁.setTop (mkF m 43 #[.val (.int p1)] [(.int p1)]))
                refine own_go (fun _ => XS.bipush X0.here hx rfl (hb hby d2_43)) ?_
                show own_Go p.tables e below _ (s₁.setTop (mkF m 45 #[.val (.int p1)] [(.int (55 : Int32)), (.int p1)]))
                by_cases hc9_45 : p1 = (55 : Int32)
                · skip
                  refine own_go (fun _ => XS.icmpYes X0.here hx rfl (pc0 := 45) (pc' := 60) rfl (hb hby d2_45) rfl (teq hc9_45).1 (by decide) (by decide)) ?_
                  show own_Go p.tables e below _ (s₁.setTop (mkF m 60 #[.val (.int p1)] []))
                  refine own_go (fun _ => XS.iconst X0.here hx rfl (hb hby d2_60)) ?_
                  show own_Go p.tables e below _ (s₁.setTop (mkF m 61 #[.val (.int p1)] [(.int (1 : Int32))]))
                  refine own_go (fun _ => XS.goto X0.here hx rfl (pc0 := 61) (pc' := 65) rfl (hb hby d2_61) (by decide) (by decide)) ?_
                  show own_Go p.tables e below _ (s₁.setTop (mkF m 65 #[.val (.int p1)] [(.int (1 : Int32))]))
                  refine own_retN X0 Bd.notSynchronized hx (t := .boolean) Bd.returns (by simp) (hb hby d2_65) (show Q2 Z p1 h0 n0 _ s₁.heap _ from by rw [e0]; exact ⟨(own_val ((if_neg hc2_3).trans ((if_neg hc3_9).trans ((if_neg hc4_15).trans ((if_neg hc5_21).trans ((if_neg hc6_27).trans ((if_neg hc7_33).trans ((if_neg hc8_39).trans ((if_pos hc9_45).trans rfl))))))))), N0, rfl⟩) (by decide) (by decide)
                · skip
                  refine own_go (fun _ => XS.icmpNo X0.here hx rfl (hb hby d2_45) rfl (feq hc9_45).1) ?_
                  show own_Go p.tables e below _ (s₁.setTop (mkF m 48 #[.val (.int p1)] []))
                  refine own_go (fun _ => XS.iloadN X0.here hx rfl (hb hby d2_48) rfl) ?_
                  show own_Go p.tables e below _ (s₁.setTop (mkF m 49 #[.val (.int p1)] [(.int p1)]))
                  refine own_go (fun _ => XS.bipush X0.here hx rfl (hb hby d2_49)) ?_
                  show own_Go p.tables e below _ (s₁.setTop (mkF m 51 #[.val (.int p1)] [(.int (56 : Int32)), (.int p1)]))
                  by_cases hc10_51 : p1 = (56 : Int32)
                  · skip
                    refine own_go (fun _ => XS.icmpYes X0.here hx rfl (pc0 := 51) (pc' := 60) rfl (hb hby d2_51) rfl (teq hc10_51).1 (by decide) (by decide)) ?_
                    show own_Go p.tables e below _ (s₁.setTop (mkF m 60 #[.val (.int p1)] []))
                    refine own_go (fun _ => XS.iconst X0.here hx rfl (hb hby d2_60)) ?_
                    show own_Go p.tables e below _ (s₁.setTop (mkF m 61 #[.val (.int p1)] [(.int (1 : Int32))]))
                    refine own_go (fun _ => XS.goto X0.here hx rfl (pc0 := 61) (pc' := 65) rfl (hb hby d2_61) (by decide) (by decide)) ?_
                    show own_Go p.tables e below _ (s₁.setTop (mkF m 65 #[.val (.int p1)] [(.int (1 : Int32))]))
                    refine own_retN X0 Bd.notSynchronized hx (t := .boolean) Bd.returns (by simp) (hb hby d2_65) (show Q2 Z p1 h0 n0 _ s₁.heap _ from by rw [e0]; exact ⟨(own_val ((if_neg hc2_3).trans ((if_neg hc3_9).trans ((if_neg hc4_15).trans ((if_neg hc5_21).trans ((if_neg hc6_27).trans ((if_neg hc7_33).trans ((if_neg hc8_39).trans ((if_neg hc9_45).trans ((if_pos hc10_51).trans rfl)))))))))), N0, rfl⟩) (by decide) (by decide)
                  · skip
                    refine own_go (fun _ => XS.icmpNo X0.here hx rfl (hb hby d2_51) rfl (feq hc10_51).1) ?_
                    show own_Go p.tables e below _ (s₁.setTop (mkF m 54 #[.val (.int p1)] []))
                    refine own_go (fun _ => XS.iloadN X0.here hx rfl (hb hby d2_54) rfl) ?_
                    show own_Go p.tables e below _ (s₁.setTop (mkF m 55 #[.val (.int p1)] [(.int p1)]))
                    refine own_go (fun _ => XS.bipush X0.here hx rfl (hb hby d2_55)) ?_
                    show own_Go p.tables e below _ (s₁.setTop (mkF m 57 #[.val (.int p1)] [(.int (57 : Int32)), (.int p1)]))
                    by_cases hc11_57 : p1 = (57 : Int32)
                    · skip
                      refine own_go (fun _ => XS.icmpNo X0.here hx rfl (hb hby d2_57) rfl (teq hc11_57).2) ?_
                      show own_Go p.tables e below _ (s₁.setTop (mkF m 60 #[.val (.int p1)] []))
                      refine own_go (fun _ => XS.iconst X0.here hx rfl (hb hby d2_60)) ?_
                      show own_Go p.tables e below _ (s₁.setTop (mkF m 61 #[.val (.int p1)] [(.int (1 : Int32))]))
                      refine own_go (fun _ => XS.goto X0.here hx rfl (pc0 := 61) (pc' := 65) rfl (hb hby d2_61) (by decide) (by decide)) ?_
                      show own_Go p.tables e below _ (s₁.setTop (mkF m 65 #[.val (.int p1)] [(.int (1 : Int32))]))
                      refine own_retN X0 Bd.notSynchronized hx (t := .boolean) Bd.returns (by simp) (hb hby d2_65) (show Q2 Z p1 h0 n0 _ s₁.heap _ from by rw [e0]; exact ⟨(own_val ((if_neg hc2_3).trans ((if_neg hc3_9).trans ((if_neg hc4_15).trans ((if_neg hc5_21).trans ((if_neg hc6_27).trans ((if_neg hc7_33).trans ((if_neg hc8_39).trans ((if_neg hc9_45).trans ((if_neg hc10_51).trans ((if_pos hc11_57).trans rfl))))))))))), N0, rfl⟩) (by decide) (by decide)
                    · skip
                      refine own_go (fun _ => XS.icmpYes X0.here hx rfl (pc0 := 57) (pc' := 64) rfl (hb hby d2_57) rfl (feq hc11_57).2 (by decide) (by decide)) ?_
                      show own_Go p.tables e below _ (s₁.setTop (mkF m 64 #[.val (.int p1)] []))
                      refine own_go (fun _ => XS.iconst X0.here hx rfl (hb hby d2_64)) ?_
                      show own_Go p.tables e below _ (s₁.setTop (mkF m 65 #[.val (.int p1)] [(.int (0 : Int32))]))
                      refine own_retN X0 Bd.notSynchronized hx (t := .boolean) Bd.returns (by simp) (hb hby d2_65) (show Q2 Z p1 h0 n0 _ s₁.heap _ from by rw [e0]; exact ⟨(own_val ((if_neg hc2_3).trans ((if_neg hc3_9).trans ((if_neg hc4_15).trans ((if_neg hc5_21).trans ((if_neg hc6_27).trans ((if_neg hc7_33).trans ((if_neg hc8_39).trans ((if_neg hc9_45).trans ((if_neg hc10_51).trans ((if_neg hc11_57).trans rfl))))))))))), N0, rfl⟩) (by decide) (by decide)
theorem pn_0 : plainName "com/example/barwright/barwright/DigitsIsDigitPinLaw" = true := by first | (simp [plainName, overriddenIn]; done) | decide +kernel
theorem pd_0 : parseMethodDescriptor "(I)Z" = some ⟨[.int], some .boolean⟩ := by decide +kernel
theorem ef_0 (m : MethodId) (p1 : Int32) (p2 : Int32) : entryFrame m #[(.int p1), (.int p2)] maxLocals = mkF m 0 #[.val (.int p1), .val (.int p2), .unset, .unset, .unset] [] := by first | (simp [entryFrame, mkF, argsToLocals, Value.category, maxLocals]; done) | rfl
def own_f0 (p1 : Int32) (p2 : Int32) : Int32 :=
  if (if (own_f1 p1) = (own_f2 p1) then (1 : Int32) else (0 : Int32)) = (0 : Int32) then (0 : Int32)
  else if (if (own_f1 ((44 : Int32) + (p2 &&& (15 : Int32)))) = (own_f2 ((44 : Int32) + (p2 &&& (15 : Int32)))) then (1 : Int32) else (0 : Int32)) = (0 : Int32) then (0 : Int32)
  else (1 : Int32)
def Q0 (Z : State) (p1 : Int32) (p2 : Int32) (h0 : Heap) (n0 : Nat) (v : Option Value) (h : Heap) (L : List Loc) : Prop := v = some (.int (own_f0 p1 p2)) ∧ Fr n0 L
set_option maxRecDepth 65536 in
set_option maxHeartbeats 40000000 in
theorem rm0 (l : Launch) (Z : State) (a0 : Array Value) (hw : ∀ d ∈ tables_1, d.before a0 Z = true) (ws : List Jvm.Cond) (p1 : Int32) (p2 : Int32) (h0 : Heap) (n0 : Nat) (Z0 : n0 ≤ h0.size) :
    MetFree l x (head1 (Jvm.Cond.code x code maxLocals ret :: ws) room_1) (fun a U => a = #[(.int p1), (.int p2)] ∧ Z.Warmed39 U.vm ∧ U.heap = h0) (fun _ _ _ _ _ => True) (fun _ U o U' => ∃ v L, o = .returned v ∧ Q0 Z p1 p2 h0 n0 v U'.heap L ∧ FrameEnd U o U' L 0 0) := by
  refine MetFree.of_bodySF (plainFor_of_name pn_0) hisR ?_
  intro p e s m args below meth c s₁ Bd hml0 hP hK
  obtain ⟨rfl, hZ, hh⟩ := hP
  have hx := Bd.exec
  have hby := Bd.bytes
  have hml : c.maxLocals = 5 := hml0
  have hown : s.vm.findClass "com/example/barwright/barwright/DigitsIsDigitPinLaw" = some m.cls := findClass_of_methodNamed Bd.named
  have hnm := (name_of_methodNamed Bd.named Bd.method).1
  have X0 : Stand p l e room_1 s m #[(.int p1), (.int p2)] below meth c s₁ [] 0 0 := Stand.of_body Bd
  have e0 : s₁.heap = h0 := by rw [← hh, Bd.state]; rfl
  have N0 := Fr.nil n0
  show own_Go p.tables e below (own_Fin below s (Q0 Z p1 p2 h0 n0) 0 0) (s₁.setTop (entryFrame m #[(.int p1), (.int p2)] maxLocals))
  refine own_go (S' := s₁.setTop (mkF m 0 #[.val (.int p1), .val (.int p2), .unset, .unset, .unset] [])) (fun t k => castTop (ef_0 m p1 p2) k) ?_
  show own_Go p.tables e below _ (s₁.setTop (mkF m 0 #[.val (.int p1), .val (.int p2), .unset, .unset, .unset] []))
  refine own_go (fun _ => XS.bipush X0.here hx rfl (hb hby at_0)) ?_
  show own_Go p.tables e below _ (s₁.setTop (mkF m 2 #[.val (.int p1), .val (.int p2), .unset, .unset, .unset] [(.int (44 : Int32))]))
  refine own_go (fun _ => XS.iloadN X0.here hx rfl (hb hby at_2) rfl) ?_
  show own_Go p.tables e below _ (s₁.setTop (mkF m 3 #[.val (.int p1), .val (.int p2), .unset, .unset, .unset] [(.int p2), (.int (44 : Int32))]))
  refine own_go (fun _ => XS.bipush X0.here hx rfl (hb hby at_3)) ?_
  show own_Go p.tables e below _ (s₁.setTop (mkF m 5 #[.val (.int p1), .val (.int p2), .unset, .unset, .unset] [(.int (15 : Int32)), (.int p2), (.int (44 : Int32))]))
  refine own_go (fun _ => XS.iand X0.here hx rfl (hb hby at_5) rfl) ?_
  show own_Go p.tables e below _ (s₁.setTop (mkF m 6 #[.val (.int p1), .val (.int p2), .unset, .unset, .unset] [(.int (p2 &&& (15 : Int32))), (.int (44 : Int32))]))
  refine own_go (fun _ => XS.iadd X0.here hx rfl (hb hby at_6) rfl) ?_
  show own_Go p.tables e below _ (s₁.setTop (mkF m 7 #[.val (.int p1), .val (.int p2), .unset, .unset, .unset] [(.int ((44 : Int32) + (p2 &&& (15 : Int32))))]))
  refine own_go (fun _ => XS.istoreN X0.here hx rfl (hb hby at_7) rfl (l' := #[.val (.int p1), .val (.int p2), .val (.int ((44 : Int32) + (p2 &&& (15 : Int32)))), .unset, .unset]) rfl) ?_
  show own_Go p.tables e below _ (s₁.setTop (mkF m 8 #[.val (.int p1), .val (.int p2), .val (.int ((44 : Int32) + (p2 &&& (15 : Int32)))), .unset, .unset] []))
  refine own_go (fun _ => XS.iloadN X0.here hx rfl (hb hby at_8) rfl) ?_
  show own_Go p.tables e below _ (s₁.setTop (mkF m 9 #[.val (.int p1), .val (.int p2), .val (.int ((44 : Int32) + (p2 &&& (15 : Int32)))), .unset, .unset] [(.int p1)]))
  obtain ⟨_, _, ⟨T3, L3, k3, n3⟩, -, X3, ⟨Lc3, hQ3, l3, y3, z3⟩, st3⟩ := Jvm.LawKit.callS X0 hx (y := (⟨"com/example/barwright/barwright/Digits", "isDigit", "(I)Z"⟩ : MethodName)) hown (mvT hZ (hw _ (List.mem_of_getElem? (i := 0) rfl))) (mvT hZ (hw _ (List.mem_of_getElem? (i := 1) rfl))) (mvT hZ (hw _ (List.mem_of_getElem? (i := 2) rfl))) (mvT hZ (hw _ (List.mem_of_getElem? (i := 3) rfl))) (by decide) (backOf (W := 0) (rm1 l Z a0 hw [] p1 h0 n0 Z0 ) hZ (hw _ (List.mem_of_getElem? (i := 3) rfl)) (hw _ (List.mem_of_getElem? (i := 2) rfl)) (by decide) (by decide)) (g := (mkF m 9 #[.val (.int p1), .val (.int p2), .val (.int ((44 : Int32) + (p2 &&& (15 : Int32)))), .unset, .unset] [(.int p1)])) rfl (by rw [hml]; rfl) (argsL := [(.int p1)]) (rest := []) (lenOf pd_0 rfl) rfl (by show 2 * 0 + _ ≤ _; exact Nat.le_of_eq rfl) (hb hby at_9) (fun _ _ => ⟨rfl, e0, (by decide : 0 + 0 ≤ _), (by decide : 0 + 0 ≤ _)⟩)
  dsimp only [Pt.U, Pt.locs, Pt.cells, Pt.slots] at X3 l3 y3 z3 st3 hQ3
  subst l3 y3 z3
  obtain ⟨rfl, N3q, e3⟩ := hQ3
  have N3 := Fr.app N0 N3q
  refine own_go st3 ?_
  show own_Go p.tables e below _ (T3.setTop (mkF m 12 #[.val (.int p1), .val (.int p2), .val (.int ((44 : Int32) + (p2 &&& (15 : Int32)))), .unset, .unset] [(.int (own_f1 p1))]))
  refine own_go (fun _ => XS.iloadN X3.here hx rfl (hb hby at_12) rfl) ?_
  show own_Go p.tables e below _ (T3.setTop (mkF m 13 #[.val (.int p1), .val (.int p2), .val (.int ((44 : Int32) + (p2 &&& (15 : Int32)))), .unset, .unset] [(.int p1), (.int (own_f1 p1))]))
  obtain ⟨_, _, ⟨T4, L4, k4, n4⟩, -, X4, ⟨Lc4, hQ4, l4, y4, z4⟩, st4⟩ := Jvm.LawKit.callS X3 hx (y := (⟨"com/example/barwright/barwright/DigitsIsDigitPinLaw", "ref", "(I)Z"⟩ : MethodName)) hown (mvT hZ (hw _ (List.mem_of_getElem? (i := 4) rfl))) (mvT hZ (hw _ (List.mem_of_getElem? (i := 5) rfl))) (mvT hZ (hw _ (List.mem_of_getElem? (i := 6) rfl))) (mvT hZ (hw _ (List.mem_of_getElem? (i := 7) rfl))) (by decide) (backOf (W := 1) (rm2 l Z a0 hw [] p1 h0 n0 Z0 ) hZ (hw _ (List.mem_of_getElem? (i := 7) rfl)) (hw _ (List.mem_of_getElem? (i := 6) rfl)) (by decide) (by decide)) (g := (mkF m 13 #[.val (.int p1), .val (.int p2), .val (.int ((44 : Int32) + (p2 &&& (15 : Int32)))), .unset, .unset] [(.int p1), (.int (own_f1 p1))])) rfl (by rw [hml]; rfl) (argsL := [(.int p1)]) (rest := [(.int (own_f1 p1))]) (lenOf pd_0 rfl) rfl (by show 2 * 0 + _ ≤ _; exact Nat.le_of_eq rfl) (hb hby at_13) (fun _ _ => ⟨rfl, e3, (by decide : 0 + 0 ≤ _), (by decide : 0 + 0 ≤ _)⟩)
  dsimp only [Pt.U, Pt.locs, Pt.cells, Pt.slots] at X4 l4 y4 z4 st4 hQ4
  subst l4 y4 z4
  obtain ⟨rfl, N4q, e4⟩ := hQ4
  have N4 := Fr.app N3 N4q
  refine own_go st4 ?_
  refine own_go (S' := T4.setTop (mkF m 24 #[.val (.int p1), .val (.int p2), .val (.int ((44 : Int32) + (p2 &&& (15 : Int32)))), .unset, .unset] [(.int (if (own_f1 p1) = (own_f2 p1) then (1 : Int32) else (0 : Int32)))])) (fun t kt => ?_) ?_
  · skip
    show Steps p.tables e below (T4.setTop (mkF m 16 #[.val (.int p1), .val (.int p2), .val (.int ((44 : Int32) + (p2 &&& (15 : Int32)))), .unset, .unset] [(.int (own_f2 p1)), (.int (own_f1 p1))])) _
    by_cases hc5_16 : (own_f1 p1) = (own_f2 p1)
    · skip
      refine XS.icmpNo X4.here hx rfl (hb hby at_16) rfl (teq hc5_16).2 ?_
      show Steps p.tables e below (T4.setTop (mkF m 19 #[.val (.int p1), .val (.int p2), .val (.int ((44 : Int32) + (p2 &&& (15 : Int32)))), .unset, .unset] [])) _
      refine XS.iconst X4.here hx rfl (hb hby at_19) ?_
      show Steps p.tables e below (T4.setTop (mkF m 20 #[.val (.int p1), .val (.int p2), .val (.int ((44 : Int32) + (p2 &&& (15 : Int32)))), .unset, .unset] [(.int (1 : Int32))])) _
      refine XS.goto X4.here hx rfl (pc0 := 20) (pc' := 24) rfl (hb hby at_20) (by decide) (by decide) ?_
      show Steps p.tables e below (T4.setTop (mkF m 24 #[.val (.int p1), .val (.int p2), .val (.int ((44 : Int32) + (p2 &&& (15 : Int32)))), .unset, .unset] [(.int (1 : Int32))])) _
      simp only [if_pos hc5_16] at kt
      exact kt
    · skip
      refine XS.icmpYes X4.here hx rfl (pc0 := 16) (pc' := 23) rfl (hb hby at_16) rfl (feq hc5_16).2 (by decide) (by decide) ?_
      show Steps p.tables e below (T4.setTop (mkF m 23 #[.val (.int p1), .val (.int p2), .val (.int ((44 : Int32) + (p2 &&& (15 : Int32)))), .unset, .unset] [])) _
      refine XS.iconst X4.here hx rfl (hb hby at_23) ?_
      show Steps p.tables e below (T4.setTop (mkF m 24 #[.val (.int p1), .val (.int p2), .val (.int ((44 : Int32) + (p2 &&& (15 : Int32)))), .unset, .unset] [(.int (0 : Int32))])) _
      simp only [if_neg hc5_16] at kt
      exact kt
  show own_Go p.tables e below _ (T4.setTop (mkF m 24 #[.val (.int p1), .val (.int p2), .val (.int ((44 : Int32) + (p2 &&& (15 : Int32)))), .unset, .unset] [(.int (if (own_f1 p1) = (own_f2 p1) then (1 : Int32) else (0 : Int32)))]))
  refine own_go (fun _ => XS.istoreN X4.here hx rfl (hb hby at_24) rfl (l' := #[.val (.int p1), .val (.int p2), .val (.int ((44 : Int32) + (p2 &&& (15 : Int32)))), .val (.int (if (own_f1 p1) = (own_f2 p1) then (1 : Int32) else (0 : Int32))), .unset]) rfl) ?_
  show own_Go p.tables e below _ (T4.setTop (mkF m 25 #[.val (.int p1), .val (.int p2), .val (.int ((44 : Int32) + (p2 &&& (15 : Int32)))), .val (.int (if (own_f1 p1) = (own_f2 p1) then (1 : Int32) else (0 : Int32))), .unset] []))
  refine own_go (fun _ => XS.iloadN X4.here hx rfl (hb hby at_25) rfl) ?_
  show own_Go p.tables e below _ (T4.setTop (mkF m 26 #[.val (.int p1), .val (.int p2), .val (.int ((44 : Int32) + (p2 &&& (15 : Int32)))), .val (.int (if (own_f1 p1) = (own_f2 p1) then (1 : Int32) else (0 : Int32))), .unset] [(.int ((44 : Int32) + (p2 &&& (15 : Int32))))]))
  obtain ⟨_, _, ⟨T6, L6, k6, n6⟩, -, X6, ⟨Lc6, hQ6, l6, y6, z6⟩, st6⟩ := Jvm.LawKit.callS X4 hx (y := (⟨"com/example/barwright/barwright/Digits", "isDigit", "(I)Z"⟩ : MethodName)) hown (mvT hZ (hw _ (List.mem_of_getElem? (i := 0) rfl))) (mvT hZ (hw _ (List.mem_of_getElem? (i := 1) rfl))) (mvT hZ (hw _ (List.mem_of_getElem? (i := 2) rfl))) (mvT hZ (hw _ (List.mem_of_getElem? (i := 3) rfl))) (by decide) (backOf (W := 0) (rm1 l Z a0 hw [] ((44 : Int32) + (p2 &&& (15 : Int32))) h0 n0 Z0 ) hZ (hw _ (List.mem_of_getElem? (i := 3) rfl)) (hw _ (List.mem_of_getElem? (i := 2) rfl)) (by decide) (by decide)) (g := (mkF m 26 #[.val (.int p1), .val (.int p2), .val (.int ((44 : Int32) + (p2 &&& (15 : Int32)))), .val (.int (if (own_f1 p1) = (own_f2 p1) then (1 : Int32) else (0 : Int32))), .unset] [(.int ((44 : Int32) + (p2 &&& (15 : Int32))))])) rfl (by rw [hml]; rfl) (argsL := [(.int ((44 : Int32) + (p2 &&& (15 : Int32))))]) (rest := []) (lenOf pd_0 rfl) rfl (by show 2 * 0 + _ ≤ _; exact Nat.le_of_eq rfl) (hb hby at_26) (fun _ _ => ⟨rfl, e4, (by decide : 0 + 0 ≤ _), (by decide : 0 + 0 ≤ _)⟩)
  dsimp only [Pt.U, Pt.locs, Pt.cells, Pt.slots] at X6 l6 y6 z6 st6 hQ6
  subst l6 y6 z6
  obtain ⟨rfl, N6q, e6⟩ := hQ6
  have N6 := Fr.app N4 N6q
  refine own_go st6 ?_
  show own_Go p.tables e below _ (T6.setTop (mkF m 29 #[.val (.int p1), .val (.int p2), .val (.int ((44 : Int32) + (p2 &&& (15 : Int32)))), .val (.int (if (own_f1 p1) = (own_f2 p1) then (1 : Int32) else (0 : Int32))), .unset] [(.int (own_f1 ((44 : Int32) + (p2 &&& (15 : Int32)))))]))
  refine own_go (fun _ => XS.iloadN X6.here hx rfl (hb hby at_29) rfl) ?_
  show own_Go p.tables e below _ (T6.setTop (mkF m 30 #[.val (.int p1), .val (.int p2), .val (.int ((44 : Int32) + (p2 &&& (15 : Int32)))), .val (.int (if (own_f1 p1) = (own_f2 p1) then (1 : Int32) else (0 : Int32))), .unset] [(.int ((44 : Int32) + (p2 &&& (15 : Int32)))), (.int (own_f1 ((44 : Int32) + (p2 &&& (15 : Int32)))))]))
  obtain ⟨_, _, ⟨T7, L7, k7, n7⟩, -, X7, ⟨Lc7, hQ7, l7, y7, z7⟩, st7⟩ := Jvm.LawKit.callS X6 hx (y := (⟨"com/example/barwright/barwright/DigitsIsDigitPinLaw", "ref", "(I)Z"⟩ : MethodName)) hown (mvT hZ (hw _ (List.mem_of_getElem? (i := 4) rfl))) (mvT hZ (hw _ (List.mem_of_getElem? (i := 5) rfl))) (mvT hZ (hw _ (List.mem_of_getElem? (i := 6) rfl))) (mvT hZ (hw _ (List.mem_of_getElem? (i := 7) rfl))) (by decide) (backOf (W := 1) (rm2 l Z a0 hw [] ((44 : Int32) + (p2 &&& (15 : Int32))) h0 n0 Z0 ) hZ (hw _ (List.mem_of_getElem? (i := 7) rfl)) (hw _ (List.mem_of_getElem? (i := 6) rfl)) (by decide) (by decide)) (g := (mkF m 30 #[.val (.int p1), .val (.int p2), .val (.int ((44 : Int32) + (p2 &&& (15 : Int32)))), .val (.int (if (own_f1 p1) = (own_f2 p1) then (1 : Int32) else (0 : Int32))), .unset] [(.int ((44 : Int32) + (p2 &&& (15 : Int32)))), (.int (own_f1 ((44 : Int32) + (p2 &&& (15 : Int32)))))])) rfl (by rw [hml]; rfl) (argsL := [(.int ((44 : Int32) + (p2 &&& (15 : Int32))))]) (rest := [(.int (own_f1 ((44 : Int32) + (p2 &&& (15 : Int32)))))]) (lenOf pd_0 rfl) rfl (by show 2 * 0 + _ ≤ _; exact Nat.le_of_eq rfl) (hb hby at_30) (fun _ _ => ⟨rfl, e6, (by decide : 0 + 0 ≤ _), (by decide : 0 + 0 ≤ _)⟩)
  dsimp only [Pt.U, Pt.locs, Pt.cells, Pt.slots] at X7 l7 y7 z7 st7 hQ7
  subst l7 y7 z7
  obtain ⟨rfl, N7q, e7⟩ := hQ7
  have N7 := Fr.app N6 N7q
  refine own_go st7 ?_
  refine own_go (S' := T7.setTop (mkF m 41 #[.val (.int p1), .val (.int p2), .val (.int ((44 : Int32) + (p2 &&& (15 : Int32)))), .val (.int (if (own_f1 p1) = (own_f2 p1) then (1 : Int32) else (0 : Int32))), .unset] [(.int (if (own_f1 ((44 : Int32) + (p2 &&& (15 : Int32)))) = (own_f2 ((44 : Int32) + (p2 &&& (15 : Int32)))) then (1 : Int32) else (0 : Int32)))])) (fun t kt => ?_) ?_
  · skip
    show Steps p.tables e below (T7.setTop (mkF m 33 #[.val (.int p1), .val (.int p2), .val (.int ((44 : Int32) + (p2 &&& (15 : Int32)))), .val (.int (if (own_f1 p1) = (own_f2 p1) then (1 : Int32) else (0 : Int32))), .unset] [(.int (own_f2 ((44 : Int32) + (p2 &&& (15 : Int32))))), (.int (own_f1 ((44 : Int32) + (p2 &&& (15 : Int32)))))])) _
    by_cases hc8_33 : (own_f1 ((44 : Int32) + (p2 &&& (15 : Int32)))) = (own_f2 ((44 : Int32) + (p2 &&& (15 : Int32))))
    · skip
      refine XS.icmpNo X7.here hx rfl (hb hby at_33) rfl (teq hc8_33).2 ?_
      show Steps p.tables e below (T7.setTop (mkF m 36 #[.val (.int p1), .val (.int p2), .val (.int ((44 : Int32) + (p2 &&& (15 : Int32)))), .val (.int (if (own_f1 p1) = (own_f2 p1) then (1 : Int32) else (0 : Int32))), .unset] [])) _
      refine XS.iconst X7.here hx rfl (hb hby at_36) ?_
      show Steps p.tables e below (T7.setTop (mkF m 37 #[.val (.int p1), .val (.int p2), .val (.int ((44 : Int32) + (p2 &&& (15 : Int32)))), .val (.int (if (own_f1 p1) = (own_f2 p1) then (1 : Int32) else (0 : Int32))), .unset] [(.int (1 : Int32))])) _
      refine XS.goto X7.here hx rfl (pc0 := 37) (pc' := 41) rfl (hb hby at_37) (by decide) (by decide) ?_
      show Steps p.tables e below (T7.setTop (mkF m 41 #[.val (.int p1), .val (.int p2), .val (.int ((44 : Int32) + (p2 &&& (15 : Int32)))), .val (.int (if (own_f1 p1) = (own_f2 p1) then (1 : Int32) else (0 : Int32))), .unset] [(.int (1 : Int32))])) _
      simp only [if_pos hc8_33] at kt
      exact kt
    · skip
      refine XS.icmpYes X7.here hx rfl (pc0 := 33) (pc' := 40) rfl (hb hby at_33) rfl (feq hc8_33).2 (by decide) (by decide) ?_
      show Steps p.tables e below (T7.setTop (mkF m 40 #[.val (.int p1), .val (.int p2), .val (.int ((44 : Int32) + (p2 &&& (15 : Int32)))), .val (.int (if (own_f1 p1) = (own_f2 p1) then (1 : Int32) else (0 : Int32))), .unset] [])) _
      refine XS.iconst X7.here hx rfl (hb hby at_40) ?_
      show Steps p.tables e below (T7.setTop (mkF m 41 #[.val (.int p1), .val (.int p2), .val (.int ((44 : Int32) + (p2 &&& (15 : Int32)))), .val (.int (if (own_f1 p1) = (own_f2 p1) then (1 : Int32) else (0 : Int32))), .unset] [(.int (0 : Int32))])) _
      simp only [if_neg hc8_33] at kt
      exact kt
  show own_Go p.tables e below _ (T7.setTop (mkF m 41 #[.val (.int p1), .val (.int p2), .val (.int ((44 : Int32) + (p2 &&& (15 : Int32)))), .val (.int (if (own_f1 p1) = (own_f2 p1) then (1 : Int32) else (0 : Int32))), .unset] [(.int (if (own_f1 ((44 : Int32) + (p2 &&& (15 : Int32)))) = (own_f2 ((44 : Int32) + (p2 &&& (15 : Int32)))) then (1 : Int32) else (0 : Int32)))]))
  refine own_go (fun _ => XS.istore X7.here hx rfl (hb hby at_41) rfl (l' := #[.val (.int p1), .val (.int p2), .val (.int ((44 : Int32) + (p2 &&& (15 : Int32)))), .val (.int (if (own_f1 p1) = (own_f2 p1) then (1 : Int32) else (0 : Int32))), .val (.int (if (own_f1 ((44 : Int32) + (p2 &&& (15 : Int32)))) = (own_f2 ((44 : Int32) + (p2 &&& (15 : Int32)))) then (1 : Int32) else (0 : Int32)))]) rfl) ?_
  show own_Go p.tables e below _ (T7.setTop (mkF m 43 #[.val (.int p1), .val (.int p2), .val (.int ((44 : Int32) + (p2 &&& (15 : Int32)))), .val (.int (if (own_f1 p1) = (own_f2 p1) then (1 : Int32) else (0 : Int32))), .val (.int (if (own_f1 ((44 : Int32) + (p2 &&& (15 : Int32)))) = (own_f2 ((44 : Int32) + (p2 &&& (15 : Int32)))) then (1 : Int32) else (0 : Int32)))] []))
  refine own_go (fun _ => XS.iloadN X7.here hx rfl (hb hby at_43) rfl) ?_
  show own_Go p.tables e below _ (T7.setTop (mkF m 44 #[.val (.int p1), .val (.int p2), .val (.int ((44 : Int32) + (p2 &&& (15 : Int32)))), .val (.int (if (own_f1 p1) = (own_f2 p1) then (1 : Int32) else (0 : Int32))), .val (.int (if (own_f1 ((44 : Int32) + (p2 &&& (15 : Int32)))) = (own_f2 ((44 : Int32) + (p2 &&& (15 : Int32)))) then (1 : Int32) else (0 : Int32)))] [(.int (if (own_f1 p1) = (own_f2 p1) then (1 : Int32) else (0 : Int32)))]))
  by_cases hc9_44 : (if (own_f1 p1) = (own_f2 p1) then (1 : Int32) else (0 : Int32)) = (0 : Int32)
  · skip
    refine own_go (fun _ => XS.ifYes X7.here hx rfl (pc0 := 44) (pc' := 56) rfl (hb hby at_44) rfl ((if0 _ _).trans (teq hc9_44).1) (by decide) (by decide)) ?_
    show own_Go p.tables e below _ (T7.setTop (mkF m 56 #[.val (.int p1), .val (.int p2), .val (.int ((44 : Int32) + (p2 &&& (15 : Int32)))), .val (.int (if (own_f1 p1) = (own_f2 p1) then (1 : Int32) else (0 : Int32))), .val (.int (if (own_f1 ((44 : Int32) + (p2 &&& (15 : Int32)))) = (own_f2 ((44 : Int32) + (p2 &&& (15 : Int32)))) then (1 : Int32) else (0 : Int32)))] []))
    refine own_go (fun _ => XS.iconst X7.here hx rfl (hb hby at_56)) ?_
    show own_Go p.tables e below _ (T7.setTop (mkF m 57 #[.val (.int p1), .val (.int p2), .val (.int ((44 : Int32) + (p2 &&& (15 : Int32)))), .val (.int (if (own_f1 p1) = (own_f2 p1) then (1 : Int32) else (0 : Int32))), .val (.int (if (own_f1 ((44 : Int32) + (p2 &&& (15 : Int32)))) = (own_f2 ((44 : Int32) + (p2 &&& (15 : Int32)))) then (1 : Int32) else (0 : Int32)))] [(.int (0 : Int32))]))
    refine own_retN X7 Bd.notSynchronized hx (t := .boolean) Bd.returns (by simp) (hb hby at_57) (show Q0 Z p1 p2 h0 n0 _ T7.heap _ from by rw [e7]; exact ⟨(own_val ((if_pos hc9_44).trans rfl)), N7⟩) (by decide) (by decide)
  · skip
    refine own_go (fun _ => XS.ifNo X7.here hx rfl (hb hby at_44) rfl ((if0 _ _).trans (feq hc9_44).1)) ?_
    show own_Go p.tables e below _ (T7.setTop (mkF m 47 #[.val (.int p1), .val (.int p2), .val (.int ((44 : Int32) + (p2 &&& (15 : Int32)))), .val (.int (if (own_f1 p1) = (own_f2 p1) then (1 : Int32) else (0 : Int32))), .val (.int (if (own_f1 ((44 : Int32) + (p2 &&& (15 : Int32)))) = (own_f2 ((44 : Int32) + (p2 &&& (15 : Int32)))) then (1 : Int32) else (0 : Int32)))] []))
    refine own_go (fun _ => XS.iload X7.here hx rfl (hb hby at_47) rfl) ?_
    show own_Go p.tables e below _ (T7.setTop (mkF m 49 #[.val (.int p1), .val (.int p2), .val (.int ((44 : Int32) + (p2 &&& (15 : Int32)))), .val (.int (if (own_f1 p1) = (own_f2 p1) then (1 : Int32) else (0 : Int32))), .val (.int (if (own_f1 ((44 : Int32) + (p2 &&& (15 : Int32)))) = (own_f2 ((44 : Int32) + (p2 &&& (15 : Int32)))) then (1 : Int32) else (0 : Int32)))] [(.int (if (own_f1 ((44 : Int32) + (p2 &&& (15 : Int32)))) = (own_f2 ((44 : Int32) + (p2 &&& (15 : Int32)))) then (1 : Int32) else (0 : Int32)))]))
    by_cases hc10_49 : (if (own_f1 ((44 : Int32) + (p2 &&& (15 : Int32)))) = (own_f2 ((44 : Int32) + (p2 &&& (15 : Int32)))) then (1 : Int32) else (0 : Int32)) = (0 : Int32)
    · skip
      refine own_go (fun _ => XS.ifYes X7.here hx rfl (pc0 := 49) (pc' := 56) rfl (hb hby at_49) rfl ((if0 _ _).trans (teq hc10_49).1) (by decide) (by decide)) ?_
      show own_Go p.tables e below _ (T7.setTop (mkF m 56 #[.val (.int p1), .val (.int p2), .val (.int ((44 : Int32) + (p2 &&& (15 : Int32)))), .val (.int (if (own_f1 p1) = (own_f2 p1) then (1 : Int32) else (0 : Int32))), .val (.int (if (own_f1 ((44 : Int32) + (p2 &&& (15 : Int32)))) = (own_f2 ((44 : Int32) + (p2 &&& (15 : Int32)))) then (1 : Int32) else (0 : Int32)))] []))
      refine own_go (fun _ => XS.iconst X7.here hx rfl (hb hby at_56)) ?_
      show own_Go p.tables e below _ (T7.setTop (mkF m 57 #[.val (.int p1), .val (.int p2), .val (.int ((44 : Int32) + (p2 &&& (15 : Int32)))), .val (.int (if (own_f1 p1) = (own_f2 p1) then (1 : Int32) else (0 : Int32))), .val (.int (if (own_f1 ((44 : Int32) + (p2 &&& (15 : Int32)))) = (own_f2 ((44 : Int32) + (p2 &&& (15 : Int32)))) then (1 : Int32) else (0 : Int32)))] [(.int (0 : Int32))]))
      refine own_retN X7 Bd.notSynchronized hx (t := .boolean) Bd.returns (by simp) (hb hby at_57) (show Q0 Z p1 p2 h0 n0 _ T7.heap _ from by rw [e7]; exact ⟨(own_val ((if_neg hc9_44).trans ((if_pos hc10_49).trans rfl))), N7⟩) (by decide) (by decide)
    · skip
      refine own_go (fun _ => XS.ifNo X7.here hx rfl (hb hby at_49) rfl ((if0 _ _).trans (feq hc10_49).1)) ?_
      show own_Go p.tables e below _ (T7.setTop (mkF m 52 #[.val (.int p1), .val (.int p2), .val (.int ((44 : Int32) + (p2 &&& (15 : Int32)))), .val (.int (if (own_f1 p1) = (own_f2 p1) then (1 : Int32) else (0 : Int32))), .val (.int (if (own_f1 ((44 : Int32) + (p2 &&& (15 : Int32)))) = (own_f2 ((44 : Int32) + (p2 &&& (15 : Int32)))) then (1 : Int32) else (0 : Int32)))] []))
      refine own_go (fun _ => XS.iconst X7.here hx rfl (hb hby at_52)) ?_
      show own_Go p.tables e below _ (T7.setTop (mkF m 53 #[.val (.int p1), .val (.int p2), .val (.int ((44 : Int32) + (p2 &&& (15 : Int32)))), .val (.int (if (own_f1 p1) = (own_f2 p1) then (1 : Int32) else (0 : Int32))), .val (.int (if (own_f1 ((44 : Int32) + (p2 &&& (15 : Int32)))) = (own_f2 ((44 : Int32) + (p2 &&& (15 : Int32)))) then (1 : Int32) else (0 : Int32)))] [(.int (1 : Int32))]))
      refine own_go (fun _ => XS.goto X7.here hx rfl (pc0 := 53) (pc' := 57) rfl (hb hby at_53) (by decide) (by decide)) ?_
      show own_Go p.tables e below _ (T7.setTop (mkF m 57 #[.val (.int p1), .val (.int p2), .val (.int ((44 : Int32) + (p2 &&& (15 : Int32)))), .val (.int (if (own_f1 p1) = (own_f2 p1) then (1 : Int32) else (0 : Int32))), .val (.int (if (own_f1 ((44 : Int32) + (p2 &&& (15 : Int32)))) = (own_f2 ((44 : Int32) + (p2 &&& (15 : Int32)))) then (1 : Int32) else (0 : Int32)))] [(.int (1 : Int32))]))
      refine own_retN X7 Bd.notSynchronized hx (t := .boolean) Bd.returns (by simp) (hb hby at_57) (show Q0 Z p1 p2 h0 n0 _ T7.heap _ from by rw [e7]; exact ⟨(own_val ((if_neg hc9_44).trans ((if_neg hc10_49).trans rfl))), N7⟩) (by decide) (by decide)
theorem own_same (c : Int32) : own_f1 c = own_f2 c := by
  have a48 : (48 : Int32).toInt = 48 := rfl
  have a57 : (57 : Int32).toInt = 57 := rfl
  unfold own_f1 own_f2
  by_cases h1 : c < 48
  · rw [if_pos h1]
    rw [Int32.lt_iff_toInt_lt] at h1
    have e : ∀ k : Int32, 48 ≤ k.toInt → ¬ c = k := fun k hk h => by rw [h] at h1; omega
    rw [if_neg (e 48 (by decide)), if_neg (e 49 (by decide)), if_neg (e 50 (by decide)), if_neg (e 51 (by decide)), if_neg (e 52 (by decide)), if_neg (e 53 (by decide)), if_neg (e 54 (by decide)), if_neg (e 55 (by decide)), if_neg (e 56 (by decide)), if_neg (e 57 (by decide))]
  · rw [if_neg h1]
    rw [Int32.lt_iff_toInt_lt] at h1
    by_cases h2 : 57 < c
    · rw [if_pos h2]
      rw [Int32.lt_iff_toInt_lt] at h2
      have e : ∀ k : Int32, k.toInt ≤ 57 → ¬ c = k := fun k hk h => by rw [h] at h2; omega
      rw [if_neg (e 48 (by decide)), if_neg (e 49 (by decide)), if_neg (e 50 (by decide)), if_neg (e 51 (by decide)), if_neg (e 52 (by decide)), if_neg (e 53 (by decide)), if_neg (e 54 (by decide)), if_neg (e 55 (by decide)), if_neg (e 56 (by decide)), if_neg (e 57 (by decide))]
    · rw [if_neg h2]
      rw [Int32.lt_iff_toInt_lt] at h2
      have e : ∀ k : Int32, c.toInt = k.toInt → c = k := fun k hk => Int32.toInt_inj.mp hk
      have h3 : c.toInt = 48 ∨ c.toInt = 49 ∨ c.toInt = 50 ∨ c.toInt = 51 ∨ c.toInt = 52 ∨ c.toInt = 53 ∨ c.toInt = 54 ∨ c.toInt = 55 ∨ c.toInt = 56 ∨ c.toInt = 57 := by omega
      rcases h3 with h | h | h | h | h | h | h | h | h | h
      · rw [e 48 h]; decide
      · rw [e 49 h]; decide
      · rw [e 50 h]; decide
      · rw [e 51 h]; decide
      · rw [e 52 h]; decide
      · rw [e 53 h]; decide
      · rw [e 54 h]; decide
      · rw [e 55 h]; decide
      · rw [e 56 h]; decide
      · rw [e 57 h]; decide
theorem own_law (a b : Int32) : own_f0 a b = 1 := by
  unfold own_f0
  simp only [own_same, if_true]
  decide
set_option maxRecDepth 65536 in
set_option maxHeartbeats 40000000 in
theorem comes_1 {Post : Tables → Env → Array Value → State → Outcome → State → Prop} (hpost : ∀ tb e args s v u, (limb_1_1.after args s (.returned v) u = true ∧ limb_1_2.after args s (.returned v) u = true ∧ True) → FrameEnd s (.returned v) u (Jvm.fieldLocs frame_1_writes args s ++ Jvm.arrayLocs frame_1_arrays args s ++ Jvm.staticLocs frame_1_statics s) 0 0 → Post tb e args s (.returned v) u) :
    ArmFor flags0 classFile x code maxLocals ret World_1 tables_1 room_1 Calls_1 rest_1 Pre_1 Post := by
  intro l hfl _ _ p e ha hc hk s m args below hf hA hF happ hP
  obtain ⟨hcalls, hrest, hpre⟩ := hP
  obtain ⟨-, -, -, hnamed, -, -, -, hat⟩ := (Spec.applies_iff hf).mp happ
  obtain ⟨hg, hn⟩ := and_e (Cond.before_iff.mp (show (Jvm.Cond.and given_1 narrow_1).before args s = true from hpre))
  obtain ⟨g1, g2⟩ := and_e hg
  obtain ⟨g3, g4⟩ := and_e g2
  obtain ⟨w0, w1, rfl⟩ : ∃ w0 w1 : Value, args = #[w0, w1] := by
    have hs : args.size = 2 := by simpa [Cond.value, given_1] using g1
    obtain ⟨L⟩ := args
    match L, hs with
    | [w0, w1], _ => exact ⟨w0, w1, rfl⟩
  have hw := fun d (hd : d ∈ tables_1) => atoms_spec (ws := Jvm.Cond.code x code maxLocals ret :: tables_1) hat d (List.mem_cons_of_mem _ hd)
  have hfit : Fit s := fun {y c} hc i hi => by
    obtain ⟨ha, rfl⟩ := Array.getElem?_eq_some_iff.mp hc
    have q := List.all_eq_true.mp ((Array.all_eq_true_iff_forall_mem.mp hF) _ (Array.getElem_mem ha)) i (List.mem_range.mpr hi)
    simpa [Array.getElem?_eq_getElem hi] using q
  obtain ⟨i0, ei0⟩ := is_v g3
  obtain rfl : w0 = (.int i0) := Option.some.inj ei0
  obtain ⟨i1, ei1⟩ := is_v g4
  obtain rfl : w1 = (.int i1) := Option.some.inj ei1
  obtain ⟨n, o, h1, h2, h3, _, L, rfl, ⟨rfl, N⟩, hq⟩ := rm0 l s _ hw tables_1 i0 i1  s.heap s.heap.size (Nat.le_refl _)   p e ha hc hk s m _ below hf ((Spec.applies_iff_loose hf).mp happ).1 ⟨rfl, State.Warmed39.refl s, rfl⟩ trivial
  refine ⟨n, _, h1, h2, h3, hpost _ _ _ _ _ _ ⟨Cond.after_iff.mpr rfl, Cond.after_iff.mpr (eq_i res_at (Term.int_eval (1)) (congrArg Value.int (own_law i0 i1))), trivial⟩ ⟨hq.1, hq.2.1, (hq.2.2.sift fun y hy => Or.inr (N y hy)).mono (by decide) (by decide)⟩⟩
theorem main_1_1 : Claimed_1_1 := comes_1 fun _ _ _ _ _ _ h hF => ⟨h.1, hF⟩
theorem main_1_2 : Claimed_1_2 := comes_1 fun _ _ _ _ _ _ h hF => ⟨h.2.1, hF⟩
end Jvm.Pilot.@@N@@
namespace Jvm.Pilot.@@N@@
open Jvm Jvm.ClassFile Sem Op Lib Jvm.Free Jvm.Stand Jvm.Pilot.@@N@@.Jvm.D
/-! MADE BY PROGRAM (witnessworld.py) out of the Statement's table words and the real class files: 9 classes; the members and pool entries that the words name. The judged class is class 1, her method 2. -/
namespace start1
open Jvm.ClassFile
def u (s : String) : CpInfo := .utf8 (stringToUtf16 s)
/-- a pool by its gaps: so many unusable entries, then the entry; so many at the end -/
def gap : Nat → List CpInfo → List CpInfo
  | 0, r => r
  | n + 1, r => .unusable :: gap n r
def poolList (es : List (Nat × CpInfo)) (last : Nat) : List CpInfo := es.foldr (fun e r => gap e.1 (e.2 :: r)) (gap last [])
def pool (es : List (Nat × CpInfo)) (last : Nat) : Array CpInfo := ⟨poolList es last⟩
def fileOf (pool : Array CpInfo) (this : Nat) (attrs : Array Attribute := #[]) (ms : Array MethodInfo := #[]) (fl : Nat := 33) (sup : Nat := 0) (ifs : Array Nat := #[]) (fds : Array FieldInfo := #[]) : ClassFile where
  minorVersion := 0
  majorVersion := 65
  constantPool := pool
  accessFlags := fl
  thisClass := this
  superClass := sup
  interfaces := ifs
  fields := fds
  methods := ms
  attributes := attrs
def plain (name : String) (sup : Option ClassId) : Class where
  name := name
  kind := .ordinary
  loader := none
  accessFlags := 33
  super := sup
  interfaces := #[]
  cf := none
  fields := #[]
  methods := #[]
  instanceTypes := #[]
  staticTypes := #[]
  resolved := #[]
  callSites := []
  init := .initialized
  statics := none
  mirror := none

def pool0 : Array CpInfo := pool [(5, u "<init>"), (0, u "()V"), (1, .class_ 10), (1, u "java/lang/Object")] 113

def k0m0 : Method := { name := "<init>", desc := "()V", sig := { parameters := [], returnType := none }, accessFlags := 1, code := none }
/-- java/lang/Object -/
def k0 : Class := { plain "java/lang/Object" none with
  accessFlags := 33
  interfaces := #[]
  cf := some (fileOf pool0 8 #[] #[{ accessFlags := 1, nameIndex := 5, descriptorIndex := 6, attributes := #[] }] 33 0 #[] #[])
  fields := #[]
  methods := #[k0m0]
  instanceTypes := #[]
  staticTypes := #[]
  resolved := Array.replicate 124 none
  statics := none }

def pool1 : Array CpInfo := pool [(2, .class_ 4), (1, u "java/lang/Object"), (0, u "<init>"), (0, u "()V"), (0, .methodref 8 9), (0, .class_ 10), (0, .nameAndType 11 12), (0, u "com/example/barwright/barwright/Digits"), (0, u "isDigit"), (0, u "(I)Z"), (0, .methodref 14 15), (0, .class_ 16), (0, .nameAndType 17 12), (0, u "com/example/barwright/barwright/DigitsIsDigitPinLaw"), (0, u "ref"), (3, u "law"), (0, u "(II)Z")] 2

def k1m0 : Method := { name := "<init>", desc := "()V", sig := { parameters := [], returnType := none }, accessFlags := 2, code := none }
def k1c1 : Code := { maxStack := 2, maxLocals := 1, code := method_2_code, exceptionTable := #[], attributes := #[] }
def k1m1 : Method := { name := "ref", desc := "(I)Z", sig := { parameters := [.int], returnType := some .boolean }, accessFlags := 10, code := some k1c1 }
def k1c2 : Code := { maxStack := 3, maxLocals := 5, code := code, exceptionTable := #[], attributes := #[] }
def k1m2 : Method := { name := "law", desc := "(II)Z", sig := { parameters := [.int, .int], returnType := some .boolean }, accessFlags := 9, code := some k1c2 }
/-- com/example/barwright/barwright/DigitsIsDigitPinLaw -/
def k1 : Class := { plain "com/example/barwright/barwright/DigitsIsDigitPinLaw" (some 0) with
  accessFlags := 49
  interfaces := #[]
  cf := some (fileOf pool1 14 #[] #[{ accessFlags := 2, nameIndex := 5, descriptorIndex := 6, attributes := #[] }, { accessFlags := 10, nameIndex := 17, descriptorIndex := 12, attributes := #[] }, { accessFlags := 9, nameIndex := 21, descriptorIndex := 22, attributes := #[] }] 49 2 #[] #[])
  fields := #[]
  methods := #[k1m0, k1m1, k1m2]
  instanceTypes := #[]
  staticTypes := #[]
  resolved := Array.replicate 25 none
  statics := none }

def pool2 : Array CpInfo := pool [(2, .class_ 4), (1, u "java/lang/Object"), (0, u "<init>"), (0, u "()V"), (11, .class_ 20), (1, u "com/example/barwright/barwright/Digits"), (70, u "(I)Z"), (29, u "isDigit")] 38

def k2m0 : Method := { name := "<init>", desc := "()V", sig := { parameters := [], returnType := none }, accessFlags := 2, code := none }
def k2c1 : Code := { maxStack := 2, maxLocals := 1, code := prog_13_method_6_code, exceptionTable := #[], attributes := #[] }
def k2m1 : Method := { name := "isDigit", desc := "(I)Z", sig := { parameters := [.int], returnType := some .boolean }, accessFlags := 8, code := some k2c1 }
/-- com/example/barwright/barwright/Digits -/
def k2 : Class := { plain "com/example/barwright/barwright/Digits" (some 0) with
  accessFlags := 48
  interfaces := #[]
  cf := some (fileOf pool2 18 #[] #[{ accessFlags := 2, nameIndex := 5, descriptorIndex := 6, attributes := #[] }, { accessFlags := 8, nameIndex := 121, descriptorIndex := 91, attributes := #[] }] 48 2 #[] #[])
  fields := #[]
  methods := #[k2m0, k2m1]
  instanceTypes := #[]
  staticTypes := #[]
  resolved := Array.replicate 160 none
  statics := none }

def pool3 : Array CpInfo := pool [(1, u "java/lang/Cloneable"), (0, .class_ 1), (0, u "java/lang/Object"), (0, .class_ 3)] 3

/-- java/lang/Cloneable -/
def k3 : Class := { plain "java/lang/Cloneable" (some 0) with
  accessFlags := 1537
  interfaces := #[]
  cf := some (fileOf pool3 2 #[] #[] 1537 4 #[] #[])
  fields := #[]
  methods := #[]
  instanceTypes := #[]
  staticTypes := #[]
  resolved := Array.replicate 8 none
  statics := none }

def pool4 : Array CpInfo := pool [(1, u "java/io/Serializable"), (0, .class_ 1), (0, u "java/lang/Object"), (0, .class_ 3)] 3

/-- java/io/Serializable -/
def k4 : Class := { plain "java/io/Serializable" (some 0) with
  accessFlags := 1537
  interfaces := #[]
  cf := some (fileOf pool4 2 #[] #[] 1537 4 #[] #[])
  fields := #[]
  methods := #[]
  instanceTypes := #[]
  staticTypes := #[]
  resolved := Array.replicate 8 none
  statics := none }

/-- the primitive byte -/
def k5 : Class := { plain "byte" none with kind := .primitive 'B', accessFlags := 0x411 }
/-- [B -/
def k6 : Class := { plain "[B" (some 0) with kind := .array 5 .byte, interfaces := #[3, 4], accessFlags := 1041 }

/-- the primitive int -/
def k7 : Class := { plain "int" none with kind := .primitive 'I', accessFlags := 0x411 }
/-- [I -/
def k8 : Class := { plain "[I" (some 0) with kind := .array 7 .int, interfaces := #[3, 4], accessFlags := 1041 }

def heap : Heap := #[]
def classes : Array Class := #[k0, k1, k2, k3, k4, k5, k6, k7, k8]
def interned : List (Array UInt16 × Addr) := []
def slotsUsed : Nat := 0
def theMethod : MethodId := ⟨1, 2⟩
def args0 : Array Value := #[.int 50, .int 7]
def aboutOver (below : List Frame) : State where
  vm := { classes := classes, interned := interned.toArray }
  heap := heap
  slotsUsed := slotsUsed
  threads := #[{ frames := .invoking theMethod args0 :: below }]
def below0 : List Frame := [.native { method := ⟨0, 0⟩, args := #[] }]
def about1 : State := aboutOver below0
def p0 : Program := .bare "" "" ""
def e0 : Env := launch0.env 0 0 0
theorem w_frames : about1.frames = Frame.invoking theMethod args0 :: below0 := rfl
set_option maxRecDepth 65536 in
theorem w_args : argsFit about1.vm theMethod args0 = true := by decide +kernel
set_option maxRecDepth 65536 in
theorem w_heap : heapFits about1 = true := by decide +kernel
set_option maxRecDepth 65536 in
theorem w_runnable : about1.curStatus? = some .runnable := by decide +kernel
set_option maxRecDepth 65536 in
theorem w_alone : about1.alone = true := by decide +kernel
set_option maxRecDepth 65536 in
theorem w_named : about1.methodNamed? x = some theMethod := by decide +kernel
set_option maxRecDepth 65536 in
theorem w_hears : about1.hears theMethod below0 = true := by decide +kernel
set_option maxRecDepth 65536 in
theorem w_ripe : about1.ripe theMethod args0 below0 = true := by decide +kernel
theorem w_running : about1.status = .running := rfl
set_option maxRecDepth 65536 in
theorem w_room : about1.hasRoom e0.platform room_1 = true :=
  launch0.hasRoom_least _ room_1 (by decide +kernel) (by decide +kernel) (by decide +kernel) (by decide +kernel) (by decide +kernel) (by decide +kernel)
theorem allAtoms_all (ts : List Jvm.Cond) (a : Array Jvm.Value) (st : Jvm.State) : (allAtoms ts).before a st = ts.all (fun c => c.before a st) := by
  induction ts with
  | nil => rfl
  | cons c t ih =>
    show (Jvm.Cond.and c (allAtoms t)).before a st = _
    rw [Jvm.Cond.before_and, ih, List.all_cons]
def words1 : List Jvm.Cond := Jvm.Cond.code x code maxLocals ret :: tables_1
/-- a 'code' word, met by the world's own term for the bytes: nothing is compared byte by byte -/
theorem code_word {y : MethodName} {bytes : ByteArray} {mx : Nat} {rt : Option FieldType} {a : Array Value} {s : State} {m : MethodId} {meth : Method} {c : Code} (h1 : s.methodNamed? y = some m) (h2 : s.vm.method? m = some meth) (h3 : meth.code = some c) (h4 : c.code = bytes)
    (h5 : (c.maxLocals == mx && c.exceptionTable.isEmpty && decide (c.maxStack ≤ mostOperands) && decide (meth.sig.returnType = rt) && !meth.locks && decide (parseMethodDescriptor y.desc = some meth.sig)) = true) : (Jvm.Cond.code y bytes mx rt).before a s = true := by
  simp only [Bool.and_eq_true, beq_iff_eq, Bool.not_eq_true', decide_eq_true_eq] at h5
  obtain ⟨⟨⟨⟨⟨g1, g2⟩, g3⟩, g4⟩, g5⟩, g6⟩ := h5
  simp [Cond.before, Cond.holds, Cond.value, h1, h2, h3, h4, g1, g2, g3, g4, g5, g6]
def isCode : Jvm.Cond → Bool
  | .code _ _ _ _ => true
  | _ => false
theorem all_split {L : List Jvm.Cond} {P : Jvm.Cond → Bool} (h1 : L.all (fun c => isCode c || P c) = true) (h2 : ∀ c ∈ L.filter isCode, P c = true) : L.all P = true := by
  refine List.all_eq_true.mpr fun c hc => ?_
  have h := List.all_eq_true.mp h1 c hc
  rcases Bool.eq_false_or_eq_true (isCode c) with hi | hi
  · exact h2 c (List.mem_filter.mpr ⟨hc, hi⟩)
  · simpa [hi] using h
set_option maxRecDepth 65536 in
theorem w_c0 : (Jvm.Cond.code x code maxLocals ret).before args0 about1 = true := code_word (m := ⟨1, 2⟩) (meth := k1m2) (c := k1c2) (by decide +kernel) rfl rfl rfl (by decide +kernel)
set_option maxRecDepth 65536 in
theorem w_c1 : (Jvm.Cond.code ({ cls := "com/example/barwright/barwright/Digits", name := "isDigit", desc := "(I)Z" } : Jvm.MethodName) prog_13_method_6_code (1 : Nat) (Option.some Jvm.ClassFile.FieldType.boolean)).before args0 about1 = true := code_word (m := ⟨2, 1⟩) (meth := k2m1) (c := k2c1) (by decide +kernel) rfl rfl rfl (by decide +kernel)
set_option maxRecDepth 65536 in
theorem w_c2 : (Jvm.Cond.code ({ cls := "com/example/barwright/barwright/DigitsIsDigitPinLaw", name := "ref", desc := "(I)Z" } : Jvm.MethodName) method_2_code (1 : Nat) (Option.some Jvm.ClassFile.FieldType.boolean)).before args0 about1 = true := code_word (m := ⟨1, 1⟩) (meth := k1m1) (c := k1c1) (by decide +kernel) rfl rfl rfl (by decide +kernel)
def codes1 : List Jvm.Cond := [Jvm.Cond.code x code maxLocals ret, Jvm.Cond.code ({ cls := "com/example/barwright/barwright/Digits", name := "isDigit", desc := "(I)Z" } : Jvm.MethodName) prog_13_method_6_code (1 : Nat) (Option.some Jvm.ClassFile.FieldType.boolean), Jvm.Cond.code ({ cls := "com/example/barwright/barwright/DigitsIsDigitPinLaw", name := "ref", desc := "(I)Z" } : Jvm.MethodName) method_2_code (1 : Nat) (Option.some Jvm.ClassFile.FieldType.boolean)]
set_option maxRecDepth 65536 in
theorem codes_eq : words1.filter isCode = codes1 := rfl
theorem w_codes : ∀ c ∈ words1.filter isCode, c.before args0 about1 = true := by
  rw [codes_eq]
  intro c hc
  simp only [codes1, List.mem_cons, List.not_mem_nil, or_false] at hc
  rcases hc with rfl | rfl | rfl
  · exact w_c0
  · exact w_c1
  · exact w_c2
set_option maxRecDepth 65536 in
theorem w_t1 : words1.all (fun c => isCode c || c.before args0 about1) = true := by decide +kernel
theorem w_tables : (allAtoms (Jvm.Cond.code x code maxLocals ret :: tables_1)).before args0 about1 = true := by
  rw [allAtoms_all]
  show words1.all (fun c => c.before args0 about1) = true
  refine all_split ?_ w_codes
  rw [w_t1]
set_option maxRecDepth 65536 in
theorem w_case : (Jvm.Cond.and given_1 narrow_1).before args0 about1 = true := by decide +kernel
theorem w_applies : (headSpec (Jvm.Cond.code x code maxLocals ret :: tables_1) room_1).applies x e0.platform about1 = true :=
  (Spec.applies_iff w_frames).mpr ⟨w_running, w_runnable, w_alone, w_named, w_hears, w_ripe, w_room, w_tables⟩
theorem atStart : AtStart classFile x code maxLocals ret World_1 tables_1 room_1 Calls_1 rest_1 Pre_1 launch0 p0 e0 about1 theMethod args0 below0 :=
  ⟨lists_1, trivial, launch0.admits_env _ _ _, launch0.least_env, fairChoices_fair.cas, fairChoices_fair.clock, w_frames, w_args, w_heap, w_applies, trivial, trivial, w_case⟩
end start1
theorem witness_1 : WitnessClaimed_1 := ⟨start1.p0, start1.e0, start1.about1, start1.theMethod, start1.args0, start1.below0, start1.atStart⟩
end Jvm.Pilot.@@N@@
