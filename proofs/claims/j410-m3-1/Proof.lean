import JvmDerived
import JvmDerived.Pilot.@@N@@Statement
import JvmDerived.Pilot.@@N@@Code
set_option linter.unusedVariables false
set_option linter.unusedSimpArgs false
namespace Jvm.Pilot.@@N@@
open Jvm Jvm.ClassFile Sem Op Lib Jvm.Free Jvm.Stand Jvm.LawKit Jvm.RoadKit Bundle Jvm.Pilot.@@N@@.Jvm.D
/-- from the state S the run comes to an end that meets F -/
def own_Go (tb : Tables) (e : Env) (below : List Frame) (F : State → Outcome → Prop) (S : State) : Prop := ∃ s₂ o, Steps tb e below S s₂ ∧ F s₂ o
/-- the end: it returned what Q says, over the heap that Q says -/
def own_Fin (below : List Frame) (s : State) (Q : Option Value → Heap → List Loc → Prop) (k n : Nat) : State → Outcome → Prop := fun s₂ o => s₂.status = .running ∧ Ended s₂ below o ∧ ∃ v L, o = .returned v ∧ Q v s₂.heap L ∧ FrameEnd s o s₂ L k n
theorem own_go {tb : Tables} {e : Env} {below : List Frame} {F : State → Outcome → Prop} {S S' : State} (h : ∀ t, Steps tb e below S' t → Steps tb e below S t) (k : own_Go tb e below F S') : own_Go tb e below F S := by
  obtain ⟨t, o, h1, h2⟩ := k
  exact ⟨t, o, h t h1, h2⟩
theorem own_via {tb : Tables} {e : Env} {below : List Frame} {F : State → Outcome → Prop} {S S' : State} (h : Steps tb e below S S') (k : own_Go tb e below F S') : own_Go tb e below F S := by
  obtain ⟨t, o, h1, h2⟩ := k
  exact ⟨t, o, h.trans h1, h2⟩
section OwnRet
variable {p : Program} {l : Launch} {e : Env} {R : Room} {s : State} {m : MethodId} {args : Array Value} {below : List Frame} {meth : Method} {c : Code} {T : State} {locs : List Loc} {cells slots : Nat} {Q : Option Value → Heap → List Loc → Prop} {K N : Nat}
theorem own_retN (X : Stand p l e R s m args below meth c T locs cells slots) (hlocks : meth.locks = false) (hx : p.tables.exec = Jvm.exec) {pc : Nat} {Ls : Array Slot} {z : Int32} {rest : List Value} {t : FieldType} (hret : meth.sig.returnType = some t) (ht : t = .boolean ∨ t = .byte ∨ t = .char ∨ t = .short) (hd : decode c.code pc = .ok (.ireturn, 1)) (hQ : Q (some (.int (nar t z))) T.heap locs) (hk : cells ≤ K) (hn : slots ≤ N) :
    own_Go p.tables e below (own_Fin below s Q K N) (T.setTop (mkF m pc Ls (.int z :: rest))) := by
  obtain ⟨fs, hr, hrun, hended, hW, hsame⟩ := X.leave (v := some (.int (nar t z))) (fun h => by rw [hret] at h; cases h) hlocks
  exact ⟨_, _, retN X hx hret ht hd hr, hrun, hended, _, _, rfl, hQ, ⟨_, rfl⟩, hW, hsame.mono hk hn⟩
theorem own_retI (X : Stand p l e R s m args below meth c T locs cells slots) (hlocks : meth.locks = false) (hx : p.tables.exec = Jvm.exec) {pc : Nat} {Ls : Array Slot} {z : Int32} {rest : List Value} (hret : meth.sig.returnType = some .int) (hd : decode c.code pc = .ok (.ireturn, 1)) (hQ : Q (some (.int z)) T.heap locs) (hk : cells ≤ K) (hn : slots ≤ N) :
    own_Go p.tables e below (own_Fin below s Q K N) (T.setTop (mkF m pc Ls (.int z :: rest))) := by
  obtain ⟨fs, hr, hrun, hended, hW, hsame⟩ := X.leave (v := some (.int z)) (fun h => by rw [hret] at h; cases h) hlocks
  exact ⟨_, _, retOut X hx (i := .ireturn) hret rfl (Or.inl ⟨rfl, Or.inl rfl, _, rfl⟩) hd hr, hrun, hended, _, _, rfl, hQ, ⟨_, rfl⟩, hW, hsame.mono hk hn⟩
theorem own_retJ (X : Stand p l e R s m args below meth c T locs cells slots) (hlocks : meth.locks = false) (hx : p.tables.exec = Jvm.exec) {pc : Nat} {Ls : Array Slot} {z : Int64} {rest : List Value} (hret : meth.sig.returnType = some .long) (hd : decode c.code pc = .ok (.lreturn, 1)) (hQ : Q (some (.long z)) T.heap locs) (hk : cells ≤ K) (hn : slots ≤ N) :
    own_Go p.tables e below (own_Fin below s Q K N) (T.setTop (mkF m pc Ls (.long z :: rest))) := by
  obtain ⟨fs, hr, hrun, hended, hW, hsame⟩ := X.leave (v := some (.long z)) (fun h => by rw [hret] at h; cases h) hlocks
  exact ⟨_, _, retOut X hx (i := .lreturn) hret rfl (Or.inr (Or.inl ⟨rfl, rfl, _, rfl⟩)) hd hr, hrun, hended, _, _, rfl, hQ, ⟨_, rfl⟩, hW, hsame.mono hk hn⟩
theorem own_retA (X : Stand p l e R s m args below meth c T locs cells slots) (hlocks : meth.locks = false) (hx : p.tables.exec = Jvm.exec) {pc : Nat} {Ls : Array Slot} {w : Value} {rest : List Value} {t : FieldType} (hret : meth.sig.returnType = some t) (ht : t.isReference = true) (hn' : narrow t w = w) (hw : w.isRef = true) (hd : decode c.code pc = .ok (.areturn, 1)) (hQ : Q (some w) T.heap locs) (hk : cells ≤ K) (hn : slots ≤ N) :
    own_Go p.tables e below (own_Fin below s Q K N) (T.setTop (mkF m pc Ls (w :: rest))) := by
  obtain ⟨fs, hr, hrun, hended, hW, hsame⟩ := X.leave (v := some w) (fun h => by rw [hret] at h; cases h) hlocks
  exact ⟨_, _, retOut X hx (i := .areturn) hret hn' (Or.inr (Or.inr (Or.inr (Or.inr ⟨rfl, ht, hw⟩)))) hd hr, hrun, hended, _, _, rfl, hQ, ⟨_, rfl⟩, hW, hsame.mono hk hn⟩
theorem own_ret0 (X : Stand p l e R s m args below meth c T locs cells slots) (hlocks : meth.locks = false) (hx : p.tables.exec = Jvm.exec) {pc : Nat} {Ls : Array Slot} (hret : meth.sig.returnType = none) (hd : decode c.code pc = .ok (.return_, 1)) (hQ : Q none T.heap locs) (hk : cells ≤ K) (hn : slots ≤ N) :
    own_Go p.tables e below (own_Fin below s Q K N) (T.setTop (mkF m pc Ls [])) := by
  obtain ⟨fs, hr, hrun, hended, hW, hsame⟩ := X.leave (v := none) (fun _ => rfl) hlocks
  exact ⟨_, _, X.returnOut hx hret hd hr, hrun, hended, _, _, rfl, hQ, ⟨_, rfl⟩, hW, hsame.mono hk hn⟩
/-- the end where String constants may have been made meanwhile -/
def own_FinW (below : List Frame) (s : State) (Q : Option Value → Heap → List Loc → Prop) (k n : Nat) : State → Outcome → Prop := fun s₂ o => s₂.status = .running ∧ Ended s₂ below o ∧ ∃ v L, o = .returned v ∧ Q v s₂.heap L ∧ ReturnedEndW s o s₂ L k n
theorem own_more {s t : State} {o : Outcome} {L : List Loc} {k n K N : Nat} (h : ReturnedEndW s o t L k n) (hk : k ≤ K) (hn : n ≤ N) : ReturnedEndW s o t L K N := ⟨h.1, h.2.1, h.2.2.1, h.2.2.2.mono hk hn⟩
variable {vm₁ : Vm} {n₁ : Nat}
theorem own_retNW (X : Stand p l e R (s.setVm vm₁) m args below meth c T locs cells slots) (hS : s.Since vm₁ n₁) (hn₁ : n₁ ≤ T.heap.size) (hlocks : meth.locks = false) (hx : p.tables.exec = Jvm.exec) {pc : Nat} {Ls : Array Slot} {z : Int32} {rest : List Value} {t : FieldType} (hret : meth.sig.returnType = some t) (ht : t = .boolean ∨ t = .byte ∨ t = .char ∨ t = .short) (hd : decode c.code pc = .ok (.ireturn, 1)) (hQ : Q (some (.int (nar t z))) T.heap locs) (hk : cells ≤ K) (hn : slots ≤ N) :
    own_Go p.tables e below (own_FinW below s Q K N) (T.setTop (mkF m pc Ls (.int z :: rest))) := by
  obtain ⟨fs, hr, hrun, hended, hE⟩ := X.leaveW hS hn₁ (v := some (.int (nar t z))) (fun h => by rw [hret] at h; cases h) hlocks
  exact ⟨_, _, retN X hx hret ht hd hr, hrun, hended, _, _, rfl, hQ, own_more hE hk hn⟩
theorem own_retAW (X : Stand p l e R (s.setVm vm₁) m args below meth c T locs cells slots) (hS : s.Since vm₁ n₁) (hn₁ : n₁ ≤ T.heap.size) (hlocks : meth.locks = false) (hx : p.tables.exec = Jvm.exec) {pc : Nat} {Ls : Array Slot} {w : Value} {rest : List Value} {t : FieldType} (hret : meth.sig.returnType = some t) (ht : t.isReference = true) (hn' : narrow t w = w) (hw : w.isRef = true) (hd : decode c.code pc = .ok (.areturn, 1)) (hQ : Q (some w) T.heap locs) (hk : cells ≤ K) (hn : slots ≤ N) :
    own_Go p.tables e below (own_FinW below s Q K N) (T.setTop (mkF m pc Ls (w :: rest))) := by
  obtain ⟨fs, hr, hrun, hended, hE⟩ := X.leaveW hS hn₁ (v := some w) (fun h => by rw [hret] at h; cases h) hlocks
  exact ⟨_, _, retOut X hx (i := .areturn) hret hn' (Or.inr (Or.inr (Or.inr (Or.inr ⟨rfl, ht, hw⟩)))) hd hr, hrun, hended, _, _, rfl, hQ, own_more hE hk hn⟩
theorem own_ret0W (X : Stand p l e R (s.setVm vm₁) m args below meth c T locs cells slots) (hS : s.Since vm₁ n₁) (hn₁ : n₁ ≤ T.heap.size) (hlocks : meth.locks = false) (hx : p.tables.exec = Jvm.exec) {pc : Nat} {Ls : Array Slot} (hret : meth.sig.returnType = none) (hd : decode c.code pc = .ok (.return_, 1)) (hQ : Q none T.heap locs) (hk : cells ≤ K) (hn : slots ≤ N) :
    own_Go p.tables e below (own_FinW below s Q K N) (T.setTop (mkF m pc Ls [])) := by
  obtain ⟨fs, hr, hrun, hended, hE⟩ := X.leaveW hS hn₁ (v := none) (fun _ => rfl) hlocks
  exact ⟨_, _, X.returnOut hx hret hd hr, hrun, hended, _, _, rfl, hQ, own_more hE hk hn⟩
end OwnRet
theorem own_val {x y : Int32} (h : y = x) : some (Value.int x) = some (Value.int y) := by rw [h]
theorem own_valJ {x y : Int64} (h : y = x) : some (Value.long x) = some (Value.long y) := by rw [h]
theorem own_valV {x y : Value} (h : y = x) : some x = some y := by rw [h]
theorem own_valR {x y : Addr} (h : y = x) : some (Value.ref x) = some (Value.ref y) := by rw [h]
theorem own_cat {v : Value} (h : v.isRef = true) : v.category = 1 := by rcases ref_cases h with rfl | ⟨z, rfl⟩ <;> rfl
theorem own_narR {v : Value} {C : String} (h : v.isRef = true) : narrow (.object C) v = v := by rcases ref_cases h with rfl | ⟨z, rfl⟩ <;> rfl
theorem own_fitR {v : Value} {C : String} (h : v.isRef = true) : fits (.object C) v = true := by rcases ref_cases h with rfl | ⟨z, rfl⟩ <;> rfl
theorem own_narA {v : Value} {t : FieldType} (h : v.isRef = true) : narrow (.array t) v = v := by rcases ref_cases h with rfl | ⟨z, rfl⟩ <;> rfl
theorem own_fitA {v : Value} {t : FieldType} (h : v.isRef = true) : fits (.array t) v = true := by rcases ref_cases h with rfl | ⟨z, rfl⟩ <;> rfl
theorem own_dne {p : Prop} (h : p) : ¬ ¬ p := fun q => q h
theorem d1_0 : decode prog_56_method_5_code 0 = .ok (.lload_n 1, 1) := by decide +kernel
theorem d1_1 : decode prog_56_method_5_code 1 = .ok (.ldc2_w 37, 3) := by decide +kernel
theorem d1_4 : decode prog_56_method_5_code 4 = .ok (.lmul, 1) := by decide +kernel
theorem d1_5 : decode prog_56_method_5_code 5 = .ok (.lstore 5, 2) := by decide +kernel
theorem d1_7 : decode prog_56_method_5_code 7 = .ok (.aload_n 0, 1) := by decide +kernel
theorem d1_8 : decode prog_56_method_5_code 8 = .ok (.getfield 33, 3) := by decide +kernel
theorem d1_11 : decode prog_56_method_5_code 11 = .ok (.ifCond .eq 18, 3) := by decide +kernel
theorem d1_14 : decode prog_56_method_5_code 14 = .ok (.lload 5, 2) := by decide +kernel
theorem d1_16 : decode prog_56_method_5_code 16 = .ok (.lload_n 3, 1) := by decide +kernel
theorem d1_17 : decode prog_56_method_5_code 17 = .ok (.lcmp, 1) := by decide +kernel
theorem d1_18 : decode prog_56_method_5_code 18 = .ok (.ifCond .lt 7, 3) := by decide +kernel
theorem d1_21 : decode prog_56_method_5_code 21 = .ok (.iconst 1, 1) := by decide +kernel
theorem d1_22 : decode prog_56_method_5_code 22 = .ok (.goto 19, 3) := by decide +kernel
theorem d1_25 : decode prog_56_method_5_code 25 = .ok (.iconst 0, 1) := by decide +kernel
theorem d1_26 : decode prog_56_method_5_code 26 = .ok (.goto 15, 3) := by decide +kernel
theorem d1_29 : decode prog_56_method_5_code 29 = .ok (.lload 5, 2) := by decide +kernel
theorem d1_31 : decode prog_56_method_5_code 31 = .ok (.lload_n 3, 1) := by decide +kernel
theorem d1_32 : decode prog_56_method_5_code 32 = .ok (.lcmp, 1) := by decide +kernel
theorem d1_33 : decode prog_56_method_5_code 33 = .ok (.ifCond .le 7, 3) := by decide +kernel
theorem d1_36 : decode prog_56_method_5_code 36 = .ok (.iconst 1, 1) := by decide +kernel
theorem d1_37 : decode prog_56_method_5_code 37 = .ok (.goto 4, 3) := by decide +kernel
theorem d1_40 : decode prog_56_method_5_code 40 = .ok (.iconst 0, 1) := by decide +kernel
theorem d1_41 : decode prog_56_method_5_code 41 = .ok (.ireturn, 1) := by decide +kernel
theorem pn_1 : plainName "com/example/pathgauge/pathgauge/prbs/CheckProfile" = true := by first | (simp [plainName, overriddenIn]; done) | decide +kernel
theorem ef_1 (m : MethodId) (a1 : Addr) (q2 : Int64) (q3 : Int64) : entryFrame m #[(.ref a1), (.long q2), (.long q3)] 7 = mkF m 0 #[.val (.ref a1), .val (.long q2), .second, .val (.long q3), .second, .unset, .unset] [] := by first | (simp [entryFrame, mkF, argsToLocals, Value.category]; done) | rfl
def own_f1 (q2 : Int64) (q3 : Int64) (w4 : Int32) : Int32 :=
  if w4 = (0 : Int32) then (if (0 : Int32) < (lcmpW (q2 * (1000 : Int64)) q3) then (1 : Int32)
    else (0 : Int32))
  else if (lcmpW (q2 * (1000 : Int64)) q3) < (0 : Int32) then (0 : Int32)
  else (1 : Int32)
def Q1 (Z : State) (a1 : Addr) (q2 : Int64) (q3 : Int64) (w4 : Int32) (h0 : Heap) (n0 : Nat) (v : Option Value) (h : Heap) (L : List Loc) : Prop := v = some (.int (own_f1 q2 q3 w4)) ∧ Fr n0 L ∧ h = h0
set_option maxRecDepth 65536 in
set_option maxHeartbeats 40000000 in
theorem rm1 (l : Launch) (Z : State) (a0 : Array Value) (hw : ∀ d ∈ tables_1, d.before a0 Z = true) (ws : List Jvm.Cond) (a1 : Addr) (q2 : Int64) (q3 : Int64) (w4 : Int32) (h0 : Heap) (n0 : Nat) (Z0 : n0 ≤ h0.size) (F_thresholdIncluded_a1 : Fld Z h0 a1 "com/example/pathgauge/pathgauge/prbs/CheckProfile" "thresholdIncluded" "Z" (.int w4)) :
    MetFree l (⟨"com/example/pathgauge/pathgauge/prbs/CheckProfile", "severe", "(JJ)Z"⟩ : MethodName) (head1 (Jvm.Cond.code (⟨"com/example/pathgauge/pathgauge/prbs/CheckProfile", "severe", "(JJ)Z"⟩ : MethodName) prog_56_method_5_code 7 (some .boolean) :: ws) ({ frames := 0, cells := 0, slots := 0, locals := 0 } : Room)) (fun a U => a = #[(.ref a1), (.long q2), (.long q3)] ∧ Z.Warmed39 U.vm ∧ U.heap = h0) (fun _ _ _ _ _ => True) (fun _ U o U' => ∃ v L, o = .returned v ∧ Q1 Z a1 q2 q3 w4 h0 n0 v U'.heap L ∧ FrameEnd U o U' L ({ frames := 0, cells := 0, slots := 0, locals := 0 } : Room).cells ({ frames := 0, cells := 0, slots := 0, locals := 0 } : Room).slots) := by
  refine MetFree.of_bodySF (plainFor_of_name pn_1) hisR ?_
  intro p e s m args below meth c s₁ Bd hml0 hP hK
  obtain ⟨rfl, hZ, hh⟩ := hP
  have hx := Bd.exec
  have hby := Bd.bytes
  have hml : c.maxLocals = 7 := hml0
  have hown : s.vm.findClass "com/example/pathgauge/pathgauge/prbs/CheckProfile" = some m.cls := findClass_of_methodNamed Bd.named
  have hnm := (name_of_methodNamed Bd.named Bd.method).1
  have X0 : Stand p l e ({ frames := 0, cells := 0, slots := 0, locals := 0 } : Room) s m #[(.ref a1), (.long q2), (.long q3)] below meth c s₁ [] 0 0 := Stand.of_body Bd
  have e0 : s₁.heap = h0 := by rw [← hh, Bd.state]; rfl
  have N0 := Fr.nil n0
  show own_Go p.tables e below (own_Fin below s (Q1 Z a1 q2 q3 w4 h0 n0) ({ frames := 0, cells := 0, slots := 0, locals := 0 } : Room).cells ({ frames := 0, cells := 0, slots := 0, locals := 0 } : Room).slots) (s₁.setTop (entryFrame m #[(.ref a1), (.long q2), (.long q3)] 7))
  refine own_go (S' := s₁.setTop (mkF m 0 #[.val (.ref a1), .val (.long q2), .second, .val (.long q3), .second, .unset, .unset] [])) (fun t k => castTop (ef_1 m a1 q2 q3) k) ?_
  show own_Go p.tables e below _ (s₁.setTop (mkF m 0 #[.val (.ref a1), .val (.long q2), .second, .val (.long q3), .second, .unset, .unset] []))
  refine own_go (fun _ => XS.lloadN X0.here hx rfl (hb hby d1_0) rfl) ?_
  show own_Go p.tables e below _ (s₁.setTop (mkF m 1 #[.val (.ref a1), .val (.long q2), .second, .val (.long q3), .second, .unset, .unset] [(.long q2)]))
  refine own_go (X0.ldc2Long hx hown (mvT hZ (hw _ (List.mem_of_getElem? (i := 10) rfl))) (g := (mkF m 1 #[.val (.ref a1), .val (.long q2), .second, .val (.long q3), .second, .unset, .unset] [(.long q2)])) rfl (hb hby d1_1)) ?_
  show own_Go p.tables e below _ (s₁.setTop (mkF m 4 #[.val (.ref a1), .val (.long q2), .second, .val (.long q3), .second, .unset, .unset] [(.long (1000 : Int64)), (.long q2)]))
  refine own_go (fun _ => XS.lmul X0.here hx rfl (hb hby d1_4) rfl) ?_
  show own_Go p.tables e below _ (s₁.setTop (mkF m 5 #[.val (.ref a1), .val (.long q2), .second, .val (.long q3), .second, .unset, .unset] [(.long (q2 * (1000 : Int64)))]))
  refine own_go (fun _ => XS.lstore X0.here hx rfl (hb hby d1_5) rfl (l' := #[.val (.ref a1), .val (.long q2), .second, .val (.long q3), .second, .val (.long (q2 * (1000 : Int64))), .second]) rfl) ?_
  show own_Go p.tables e below _ (s₁.setTop (mkF m 7 #[.val (.ref a1), .val (.long q2), .second, .val (.long q3), .second, .val (.long (q2 * (1000 : Int64))), .second] []))
  refine own_go (fun _ => XS.aloadN X0.here hx rfl (hb hby d1_7) rfl rfl) ?_
  show own_Go p.tables e below _ (s₁.setTop (mkF m 8 #[.val (.ref a1), .val (.long q2), .second, .val (.long q3), .second, .val (.long (q2 * (1000 : Int64))), .second] [(.ref a1)]))
  obtain ⟨T5, X5, e5, st5⟩ := getF X0 hx hZ hown (host := "") (Or.inl (hw _ (List.mem_of_getElem? (i := 11) rfl))) Via.refl e0 F_thresholdIncluded_a1 (g := (mkF m 8 #[.val (.ref a1), .val (.long q2), .second, .val (.long q3), .second, .val (.long (q2 * (1000 : Int64))), .second] [(.ref a1)])) rfl rfl (hb hby d1_8)
  refine own_go st5 ?_
  show own_Go p.tables e below _ (T5.setTop (mkF m 11 #[.val (.ref a1), .val (.long q2), .second, .val (.long q3), .second, .val (.long (q2 * (1000 : Int64))), .second] [(.int w4)]))
  by_cases hc6_11 : w4 = (0 : Int32)
  · skip
    refine own_go (fun _ => XS.ifYes X5.here hx rfl (pc0 := 11) (pc' := 29) rfl (hb hby d1_11) rfl ((if0 _ _).trans (teq hc6_11).1) (by decide) (by decide)) ?_
    show own_Go p.tables e below _ (T5.setTop (mkF m 29 #[.val (.ref a1), .val (.long q2), .second, .val (.long q3), .second, .val (.long (q2 * (1000 : Int64))), .second] []))
    refine own_go (fun _ => XS.lload X5.here hx rfl (hb hby d1_29) rfl) ?_
    show own_Go p.tables e below _ (T5.setTop (mkF m 31 #[.val (.ref a1), .val (.long q2), .second, .val (.long q3), .second, .val (.long (q2 * (1000 : Int64))), .second] [(.long (q2 * (1000 : Int64)))]))
    refine own_go (fun _ => XS.lloadN X5.here hx rfl (hb hby d1_31) rfl) ?_
    show own_Go p.tables e below _ (T5.setTop (mkF m 32 #[.val (.ref a1), .val (.long q2), .second, .val (.long q3), .second, .val (.long (q2 * (1000 : Int64))), .second] [(.long q3), (.long (q2 * (1000 : Int64)))]))
    refine own_go (fun _ => XS.lcmp X5.here hx rfl (hb hby d1_32) rfl) ?_
    show own_Go p.tables e below _ (T5.setTop (mkF m 33 #[.val (.ref a1), .val (.long q2), .second, .val (.long q3), .second, .val (.long (q2 * (1000 : Int64))), .second] [(.int (lcmpW (q2 * (1000 : Int64)) q3))]))
    by_cases hc7_33 : (0 : Int32) < (lcmpW (q2 * (1000 : Int64)) q3)
    · skip
      refine own_go (fun _ => XS.ifNo X5.here hx rfl (hb hby d1_33) rfl ((if0 _ _).trans (tlt hc7_33).2.2.2)) ?_
      show own_Go p.tables e below _ (T5.setTop (mkF m 36 #[.val (.ref a1), .val (.long q2), .second, .val (.long q3), .second, .val (.long (q2 * (1000 : Int64))), .second] []))
      refine own_go (fun _ => XS.iconst X5.here hx rfl (hb hby d1_36)) ?_
      show own_Go p.tables e below _ (T5.setTop (mkF m 37 #[.val (.ref a1), .val (.long q2), .second, .val (.long q3), .second, .val (.long (q2 * (1000 : Int64))), .second] [(.int (1 : Int32))]))
      refine own_go (fun _ => XS.goto X5.here hx rfl (pc0 := 37) (pc' := 41) rfl (hb hby d1_37) (by decide) (by decide)) ?_
      show own_Go p.tables e below _ (T5.setTop (mkF m 41 #[.val (.ref a1), .val (.long q2), .second, .val (.long q3), .second, .val (.long (q2 * (1000 : Int64))), .second] [(.int (1 : Int32))]))
      refine own_retN X5 Bd.notSynchronized hx (t := .boolean) Bd.returns (by simp) (hb hby d1_41) (show Q1 Z a1 q2 q3 w4 h0 n0 _ T5.heap _ from by rw [e5]; exact ⟨(own_val ((if_pos hc6_11).trans ((if_pos hc7_33).trans rfl))), N0, rfl⟩) (by decide) (by decide)
    · skip
      refine own_go (fun _ => XS.ifYes X5.here hx rfl (pc0 := 33) (pc' := 40) rfl (hb hby d1_33) rfl ((if0 _ _).trans (flt hc7_33).2.2.2) (by decide) (by decide)) ?_
      show own_Go p.tables e below _ (T5.setTop (mkF m 40 #[.val (.ref a1), .val (.long q2), .second, .val (.long q3), .second, .val (.long (q2 * (1000 : Int64))), .second] []))
      refine own_go (fun _ => XS.iconst X5.here hx rfl (hb hby d1_40)) ?_
      show own_Go p.tables e below _ (T5.setTop (mkF m 41 #[.val (.ref a1), .val (.long q2), .second, .val (.long q3), .second, .val (.long (q2 * (1000 : Int64))), .second] [(.int (0 : Int32))]))
      refine own_retN X5 Bd.notSynchronized hx (t := .boolean) Bd.returns (by simp) (hb hby d1_41) (show Q1 Z a1 q2 q3 w4 h0 n0 _ T5.heap _ from by rw [e5]; exact ⟨(own_val ((if_pos hc6_11).trans ((if_neg hc7_33).trans rfl))), N0, rfl⟩) (by decide) (by decide)
  · skip
    refine own_go (fun _ => XS.ifNo X5.here hx rfl (hb hby d1_11) rfl ((if0 _ _).trans (feq hc6_11).1)) ?_
    show own_Go p.tables e below _ (T5.setTop (mkF m 14 #[.val (.ref a1), .val (.long q2), .second, .val (.long q3), .second, .val (.long (q2 * (1000 : Int64))), .second] []))
    refine own_go (fun _ => XS.lload X5.here hx rfl (hb hby d1_14) rfl) ?_
    show own_Go p.tables e below _ (T5.setTop (mkF m 16 #[.val (.ref a1), .val (.long q2), .second, .val (.long q3), .second, .val (.long (q2 * (1000 : Int64))), .second] [(.long (q2 * (1000 : Int64)))]))
    refine own_go (fun _ => XS.lloadN X5.here hx rfl (hb hby d1_16) rfl) ?_
    show own_Go p.tables e below _ (T5.setTop (mkF m 17 #[.val (.ref a1), .val (.long q2), .second, .val (.long q3), .second, .val (.long (q2 * (1000 : Int64))), .second] [(.long q3), (.long (q2 * (1000 : Int64)))]))
    refine own_go (fun _ => XS.lcmp X5.here hx rfl (hb hby d1_17) rfl) ?_
    show own_Go p.tables e below _ (T5.setTop (mkF m 18 #[.val (.ref a1), .val (.long q2), .second, .val (.long q3), .second, .val (.long (q2 * (1000 : Int64))), .second] [(.int (lcmpW (q2 * (1000 : Int64)) q3))]))
    by_cases hc8_18 : (lcmpW (q2 * (1000 : Int64)) q3) < (0 : Int32)
    · skip
      refine own_go (fun _ => XS.ifYes X5.here hx rfl (pc0 := 18) (pc' := 25) rfl (hb hby d1_18) rfl ((if0 _ _).trans (tlt hc8_18).1) (by decide) (by decide)) ?_
      show own_Go p.tables e below _ (T5.setTop (mkF m 25 #[.val (.ref a1), .val (.long q2), .second, .val (.long q3), .second, .val (.long (q2 * (1000 : Int64))), .second] []))
      refine own_go (fun _ => XS.iconst X5.here hx rfl (hb hby d1_25)) ?_
      show own_Go p.tables e below _ (T5.setTop (mkF m 26 #[.val (.ref a1), .val (.long q2), .second, .val (.long q3), .second, .val (.long (q2 * (1000 : Int64))), .second] [(.int (0 : Int32))]))
      refine own_go (fun _ => XS.goto X5.here hx rfl (pc0 := 26) (pc' := 41) rfl (hb hby d1_26) (by decide) (by decide)) ?_
      show own_Go p.tables e below _ (T5.setTop (mkF m 41 #[.val (.ref a1), .val (.long q2), .second, .val (.long q3), .second, .val (.long (q2 * (1000 : Int64))), .second] [(.int (0 : Int32))]))
      refine own_retN X5 Bd.notSynchronized hx (t := .boolean) Bd.returns (by simp) (hb hby d1_41) (show Q1 Z a1 q2 q3 w4 h0 n0 _ T5.heap _ from by rw [e5]; exact ⟨(own_val ((if_neg hc6_11).trans ((if_pos hc8_18).trans rfl))), N0, rfl⟩) (by decide) (by decide)
    · skip
      refine own_go (fun _ => XS.ifNo X5.here hx rfl (hb hby d1_18) rfl ((if0 _ _).trans (flt hc8_18).1)) ?_
      show own_Go p.tables e below _ (T5.setTop (mkF m 21 #[.val (.ref a1), .val (.long q2), .second, .val (.long q3), .second, .val (.long (q2 * (1000 : Int64))), .second] []))
      refine own_go (fun _ => XS.iconst X5.here hx rfl (hb hby d1_21)) ?_
      show own_Go p.tables e below _ (T5.setTop (mkF m 22 #[.val (.ref a1), .val (.long q2), .second, .val (.long q3), .second, .val (.long (q2 * (1000 : Int64))), .second] [(.int (1 : Int32))]))
      refine own_go (fun _ => XS.goto X5.here hx rfl (pc0 := 22) (pc' := 41) rfl (hb hby d1_22) (by decide) (by decide)) ?_
      show own_Go p.tables e below _ (T5.setTop (mkF m 41 #[.val (.ref a1), .val (.long q2), .second, .val (.long q3), .second, .val (.long (q2 * (1000 : Int64))), .second] [(.int (1 : Int32))]))
      refine own_retN X5 Bd.notSynchronized hx (t := .boolean) Bd.returns (by simp) (hb hby d1_41) (show Q1 Z a1 q2 q3 w4 h0 n0 _ T5.heap _ from by rw [e5]; exact ⟨(own_val ((if_neg hc6_11).trans ((if_neg hc8_18).trans rfl))), N0, rfl⟩) (by decide) (by decide)
theorem pn_0 : plainName "com/example/pathgauge/pathgauge/prbs/CheckProfileSeverePinLaw" = true := by first | (simp [plainName, overriddenIn]; done) | decide +kernel
theorem pd_0 : parseMethodDescriptor "(JJ)Z" = some ⟨[.long, .long], some .boolean⟩ := by decide +kernel
theorem ef_0 (m : MethodId) (q1 : Int64) (q2 : Int64) (p3 : Int32) (p4 : Int32) : entryFrame m #[(.long q1), (.long q2), (.int p3), (.int p4)] maxLocals = mkF m 0 #[.val (.long q1), .second, .val (.long q2), .second, .val (.int p3), .val (.int p4), .unset, .unset, .unset, .unset, .unset, .unset, .unset, .unset, .unset, .unset, .unset, .unset, .unset] [] := by first | (simp [entryFrame, mkF, argsToLocals, Value.category, maxLocals]; done) | rfl
def own_v0_42 (q2 : Int64) (p3 : Int32) : Int64 := (if (p3 &&& (8 : Int32)) = (0 : Int32) then ((q2 &&& (4503599627370495 : Int64)) + (1 : Int64)) else ((((q2 &&& (4503599627370495 : Int64)) / (1000 : Int64)) + (1 : Int64)) * (1000 : Int64)))
def own_v0_86 (q1 : Int64) (q2 : Int64) (p3 : Int32) : Int64 := (if (p3 &&& (1 : Int32)) = (0 : Int32) then (if (lcmpW ((((own_v0_42 q2 p3) / (1000 : Int64)) + (((p3 >>> ((1 : Int32) &&& 31)) &&& (3 : Int32)).toInt64)) - (1 : Int64)) (0 : Int64)) < (0 : Int32) then (0 : Int64) else ((((own_v0_42 q2 p3) / (1000 : Int64)) + (((p3 >>> ((1 : Int32) &&& 31)) &&& (3 : Int32)).toInt64)) - (1 : Int64))) else (q1 &&& (4503599627370495 : Int64)))
def own_v0_128 (q1 : Int64) (q2 : Int64) (p3 : Int32) : Int32 := (if (0 : Int32) < (lcmpW (own_v0_86 q1 q2 p3) ((own_v0_42 q2 p3) / (1000 : Int64))) then (1 : Int32) else (0 : Int32))
def own_v0_128a (q1 : Int64) (q2 : Int64) (p3 : Int32) : Int32 := (if (0 : Int32) < (lcmpW (own_v0_86 q1 q2 p3) ((own_v0_42 q2 p3) / (1000 : Int64))) then (1 : Int32) else (if (lcmpW (own_v0_86 q1 q2 p3) ((own_v0_42 q2 p3) / (1000 : Int64))) = (0 : Int32) then (if (lcmpW ((own_v0_42 q2 p3) - (own_v0_42 q2 p3) / (1000 : Int64) * (1000 : Int64)) (0 : Int64)) = (0 : Int32) then (1 : Int32) else (0 : Int32)) else (0 : Int32)))
def own_f0 (q1 : Int64) (q2 : Int64) (p3 : Int32) (p4 : Int32) : Int32 :=
  if (p4 &&& (1 : Int32)) = (0 : Int32) then (if (own_f1 (own_v0_86 q1 q2 p3) (own_v0_42 q2 p3) (0 : Int32)) = (own_v0_128 q1 q2 p3) then (1 : Int32)
    else (0 : Int32))
  else if (own_f1 (own_v0_86 q1 q2 p3) (own_v0_42 q2 p3) (1 : Int32)) = (own_v0_128a q1 q2 p3) then (1 : Int32)
  else (0 : Int32)
def Q0 (Z : State) (q1 : Int64) (q2 : Int64) (p3 : Int32) (p4 : Int32) (s_CheckProfile_M2100 : Addr) (s_CheckProfile_G821 : Addr) (h0 : Heap) (n0 : Nat) (v : Option Value) (h : Heap) (L : List Loc) : Prop := v = some (.int (own_f0 q1 q2 p3 p4)) ∧ Fr n0 L
set_option maxRecDepth 65536 in
set_option maxHeartbeats 40000000 in
theorem rm0 (l : Launch) (Z : State) (a0 : Array Value) (hw : ∀ d ∈ tables_1, d.before a0 Z = true) (ws : List Jvm.Cond) (q1 : Int64) (q2 : Int64) (p3 : Int32) (p4 : Int32) (s_CheckProfile_M2100 : Addr) (s_CheckProfile_G821 : Addr) (h0 : Heap) (n0 : Nat) (Z0 : n0 ≤ h0.size) (S_CheckProfile_M2100 : Sta Z Z.heap "com/example/pathgauge/pathgauge/prbs/CheckProfile" "M2100" "Lcom/example/pathgauge/pathgauge/prbs/CheckProfile;" (.ref s_CheckProfile_M2100)) (E_s_CheckProfile_M2100 : Exa Z h0 s_CheckProfile_M2100 "com/example/pathgauge/pathgauge/prbs/CheckProfile") (F_ti_s_CheckProfile_M2100 : Fld Z h0 s_CheckProfile_M2100 "com/example/pathgauge/pathgauge/prbs/CheckProfile" "thresholdIncluded" "Z" (.int (1 : Int32))) (S_CheckProfile_G821 : Sta Z Z.heap "com/example/pathgauge/pathgauge/prbs/CheckProfile" "G821" "Lcom/example/pathgauge/pathgauge/prbs/CheckProfile;" (.ref s_CheckProfile_G821)) (E_s_CheckProfile_G821 : Exa Z h0 s_CheckProfile_G821 "com/example/pathgauge/pathgauge/prbs/CheckProfile") (F_ti_s_CheckProfile_G821 : Fld Z h0 s_CheckProfile_G821 "com/example/pathgauge/pathgauge/prbs/CheckProfile" "thresholdIncluded" "Z" (.int (0 : Int32))) (O0 : Old Z n0 h0) :
    MetFree l x (head1 (Jvm.Cond.code x code maxLocals ret :: ws) room_1) (fun a U => a = #[(.long q1), (.long q2), (.int p3), (.int p4)] ∧ Z.Warmed39 U.vm ∧ U.heap = h0) (fun _ _ _ _ _ => True) (fun _ U o U' => ∃ v L, o = .returned v ∧ Q0 Z q1 q2 p3 p4 s_CheckProfile_M2100 s_CheckProfile_G821 h0 n0 v U'.heap L ∧ FrameEnd U o U' L 0 0) := by
  refine MetFree.of_bodySF (plainFor_of_name pn_0) hisR ?_
  intro p e s m args below meth c s₁ Bd hml0 hP hK
  obtain ⟨rfl, hZ, hh⟩ := hP
  have hx := Bd.exec
  have hby := Bd.bytes
  have hml : c.maxLocals = 19 := hml0
  have hown : s.vm.findClass "com/example/pathgauge/pathgauge/prbs/CheckProfileSeverePinLaw" = some m.cls := findClass_of_methodNamed Bd.named
  have hnm := (name_of_methodNamed Bd.named Bd.method).1
  have X0 : Stand p l e room_1 s m #[(.long q1), (.long q2), (.int p3), (.int p4)] below meth c s₁ [] 0 0 := Stand.of_body Bd
  have e0 : s₁.heap = h0 := by rw [← hh, Bd.state]; rfl
  have N0 := Fr.nil n0
  show own_Go p.tables e below (own_Fin below s (Q0 Z q1 q2 p3 p4 s_CheckProfile_M2100 s_CheckProfile_G821 h0 n0) 0 0) (s₁.setTop (entryFrame m #[(.long q1), (.long q2), (.int p3), (.int p4)] maxLocals))
  refine own_go (S' := s₁.setTop (mkF m 0 #[.val (.long q1), .second, .val (.long q2), .second, .val (.int p3), .val (.int p4), .unset, .unset, .unset, .unset, .unset, .unset, .unset, .unset, .unset, .unset, .unset, .unset, .unset] [])) (fun t k => castTop (ef_0 m q1 q2 p3 p4) k) ?_
  show own_Go p.tables e below _ (s₁.setTop (mkF m 0 #[.val (.long q1), .second, .val (.long q2), .second, .val (.int p3), .val (.int p4), .unset, .unset, .unset, .unset, .unset, .unset, .unset, .unset, .unset, .unset, .unset, .unset, .unset] []))
  refine own_go (fun _ => XS.iload X0.here hx rfl (hb hby at_0) rfl) ?_
  show own_Go p.tables e below _ (s₁.setTop (mkF m 2 #[.val (.long q1), .second, .val (.long q2), .second, .val (.int p3), .val (.int p4), .unset, .unset, .unset, .unset, .unset, .unset, .unset, .unset, .unset, .unset, .unset, .unset, .unset] [(.int p4)]))
  refine own_go (fun _ => XS.iconst X0.here hx rfl (hb hby at_2)) ?_
  show own_Go p.tables e below _ (s₁.setTop (mkF m 3 #[.val (.long q1), .second, .val (.long q2), .second, .val (.int p3), .val (.int p4), .unset, .unset, .unset, .unset, .unset, .unset, .unset, .unset, .unset, .unset, .unset, .unset, .unset] [(.int (1 : Int32)), (.int p4)]))
  refine own_go (fun _ => XS.iand X0.here hx rfl (hb hby at_3) rfl) ?_
  show own_Go p.tables e below _ (s₁.setTop (mkF m 4 #[.val (.long q1), .second, .val (.long q2), .second, .val (.int p3), .val (.int p4), .unset, .unset, .unset, .unset, .unset, .unset, .unset, .unset, .unset, .unset, .unset, .unset, .unset] [(.int (p4 &&& (1 : Int32)))]))
  by_cases hc5_4 : (p4 &&& (1 : Int32)) = (0 : Int32)
  · skip
    refine own_go (fun _ => XS.ifYes X0.here hx rfl (pc0 := 4) (pc' := 11) rfl (hb hby at_4) rfl ((if0 _ _).trans (teq hc5_4).1) (by decide) (by decide)) ?_
    show own_Go p.tables e below _ (s₁.setTop (mkF m 11 #[.val (.long q1), .second, .val (.long q2), .second, .val (.int p3), .val (.int p4), .unset, .unset, .unset, .unset, .unset, .unset, .unset, .unset, .unset, .unset, .unset, .unset, .unset] []))
    refine own_go (fun _ => XS.iconst X0.here hx rfl (hb hby at_11)) ?_
    show own_Go p.tables e below _ (s₁.setTop (mkF m 12 #[.val (.long q1), .second, .val (.long q2), .second, .val (.int p3), .val (.int p4), .unset, .unset, .unset, .unset, .unset, .unset, .unset, .unset, .unset, .unset, .unset, .unset, .unset] [(.int (0 : Int32))]))
    refine own_go (fun _ => XS.istore X0.here hx rfl (hb hby at_12) rfl (l' := #[.val (.long q1), .second, .val (.long q2), .second, .val (.int p3), .val (.int p4), .val (.int (0 : Int32)), .unset, .unset, .unset, .unset, .unset, .unset, .unset, .unset, .unset, .unset, .unset, .unset]) rfl) ?_
    show own_Go p.tables e below _ (s₁.setTop (mkF m 14 #[.val (.long q1), .second, .val (.long q2), .second, .val (.int p3), .val (.int p4), .val (.int (0 : Int32)), .unset, .unset, .unset, .unset, .unset, .unset, .unset, .unset, .unset, .unset, .unset, .unset] []))
    refine own_go (fun _ => XS.iload X0.here hx rfl (hb hby at_14) rfl) ?_
    show own_Go p.tables e below _ (s₁.setTop (mkF m 16 #[.val (.long q1), .second, .val (.long q2), .second, .val (.int p3), .val (.int p4), .val (.int (0 : Int32)), .unset, .unset, .unset, .unset, .unset, .unset, .unset, .unset, .unset, .unset, .unset, .unset] [(.int (0 : Int32))]))
    refine own_go (fun _ => XS.ifYes X0.here hx rfl (pc0 := 16) (pc' := 25) rfl (hb hby at_16) rfl ((if0 _ _).trans (teq (by decide : (0 : Int32) = (0 : Int32))).1) (by decide) (by decide)) ?_
    show own_Go p.tables e below _ (s₁.setTop (mkF m 25 #[.val (.long q1), .second, .val (.long q2), .second, .val (.int p3), .val (.int p4), .val (.int (0 : Int32)), .unset, .unset, .unset, .unset, .unset, .unset, .unset, .unset, .unset, .unset, .unset, .unset] []))
    obtain ⟨T6, X6, e6, st6⟩ := getS2 X0 hx hZ hown (host := "") (Or.inl (hw _ (List.mem_of_getElem? (i := 13) rfl))) Via.refl e0 (S_CheckProfile_G821.ext O0.2) (g := (mkF m 25 #[.val (.long q1), .second, .val (.long q2), .second, .val (.int p3), .val (.int p4), .val (.int (0 : Int32)), .unset, .unset, .unset, .unset, .unset, .unset, .unset, .unset, .unset, .unset, .unset, .unset] [])) rfl (hb hby at_25)
    refine own_go st6 ?_
    show own_Go p.tables e below _ (T6.setTop (mkF m 28 #[.val (.long q1), .second, .val (.long q2), .second, .val (.int p3), .val (.int p4), .val (.int (0 : Int32)), .unset, .unset, .unset, .unset, .unset, .unset, .unset, .unset, .unset, .unset, .unset, .unset] [(.ref s_CheckProfile_G821)]))
    refine own_go (fun _ => XS.astore X6.here hx rfl (hb hby at_28) rfl rfl (l' := #[.val (.long q1), .second, .val (.long q2), .second, .val (.int p3), .val (.int p4), .val (.int (0 : Int32)), .val (.ref s_CheckProfile_G821), .unset, .unset, .unset, .unset, .unset, .unset, .unset, .unset, .unset, .unset, .unset]) rfl) ?_
    show own_Go p.tables e below _ (T6.setTop (mkF m 30 #[.val (.long q1), .second, .val (.long q2), .second, .val (.int p3), .val (.int p4), .val (.int (0 : Int32)), .val (.ref s_CheckProfile_G821), .unset, .unset, .unset, .unset, .unset, .unset, .unset, .unset, .unset, .unset, .unset] []))
    refine own_go (fun _ => XS.lloadN X6.here hx rfl (hb hby at_30) rfl) ?_
    show own_Go p.tables e below _ (T6.setTop (mkF m 31 #[.val (.long q1), .second, .val (.long q2), .second, .val (.int p3), .val (.int p4), .val (.int (0 : Int32)), .val (.ref s_CheckProfile_G821), .unset, .unset, .unset, .unset, .unset, .unset, .unset, .unset, .unset, .unset, .unset] [(.long q2)]))
    refine own_go (X6.ldc2Long hx hown (mvT hZ (hw _ (List.mem_of_getElem? (i := 3) rfl))) (g := (mkF m 31 #[.val (.long q1), .second, .val (.long q2), .second, .val (.int p3), .val (.int p4), .val (.int (0 : Int32)), .val (.ref s_CheckProfile_G821), .unset, .unset, .unset, .unset, .unset, .unset, .unset, .unset, .unset, .unset, .unset] [(.long q2)])) rfl (hb hby at_31)) ?_
    show own_Go p.tables e below _ (T6.setTop (mkF m 34 #[.val (.long q1), .second, .val (.long q2), .second, .val (.int p3), .val (.int p4), .val (.int (0 : Int32)), .val (.ref s_CheckProfile_G821), .unset, .unset, .unset, .unset, .unset, .unset, .unset, .unset, .unset, .unset, .unset] [(.long (4503599627370495 : Int64)), (.long q2)]))
    refine own_go (fun _ => XS.land X6.here hx rfl (hb hby at_34) rfl) ?_
    show own_Go p.tables e below _ (T6.setTop (mkF m 35 #[.val (.long q1), .second, .val (.long q2), .second, .val (.int p3), .val (.int p4), .val (.int (0 : Int32)), .val (.ref s_CheckProfile_G821), .unset, .unset, .unset, .unset, .unset, .unset, .unset, .unset, .unset, .unset, .unset] [(.long (q2 &&& (4503599627370495 : Int64)))]))
    refine own_go (fun _ => XS.lstore X6.here hx rfl (hb hby at_35) rfl (l' := #[.val (.long q1), .second, .val (.long q2), .second, .val (.int p3), .val (.int p4), .val (.int (0 : Int32)), .val (.ref s_CheckProfile_G821), .val (.long (q2 &&& (4503599627370495 : Int64))), .second, .unset, .unset, .unset, .unset, .unset, .unset, .unset, .unset, .unset]) rfl) ?_
    show own_Go p.tables e below _ (T6.setTop (mkF m 37 #[.val (.long q1), .second, .val (.long q2), .second, .val (.int p3), .val (.int p4), .val (.int (0 : Int32)), .val (.ref s_CheckProfile_G821), .val (.long (q2 &&& (4503599627370495 : Int64))), .second, .unset, .unset, .unset, .unset, .unset, .unset, .unset, .unset, .unset] []))
    refine own_go (fun _ => XS.iload X6.here hx rfl (hb hby at_37) rfl) ?_
    show own_Go p.tables e below _ (T6.setTop (mkF m 39 #[.val (.long q1), .second, .val (.long q2), .second, .val (.int p3), .val (.int p4), .val (.int (0 : Int32)), .val (.ref s_CheckProfile_G821), .val (.long (q2 &&& (4503599627370495 : Int64))), .second, .unset, .unset, .unset, .unset, .unset, .unset, .unset, .unset, .unset] [(.int p3)]))
    refine own_go (fun _ => XS.bipush X6.here hx rfl (hb hby at_39)) ?_
    show own_Go p.tables e below _ (T6.setTop (mkF m 41 #[.val (.long q1), .second, .val (.long q2), .second, .val (.int p3), .val (.int p4), .val (.int (0 : Int32)), .val (.ref s_CheckProfile_G821), .val (.long (q2 &&& (4503599627370495 : Int64))), .second, .unset, .unset, .unset, .unset, .unset, .unset, .unset, .unset, .unset] [(.int (8 : Int32)), (.int p3)]))
    refine own_go (fun _ => XS.iand X6.here hx rfl (hb hby at_41) rfl) ?_
    refine own_go (S' := T6.setTop (mkF m 64 #[.val (.long q1), .second, .val (.long q2), .second, .val (.int p3), .val (.int p4), .val (.int (0 : Int32)), .val (.ref s_CheckProfile_G821), .val (.long (q2 &&& (4503599627370495 : Int64))), .second, .unset, .unset, .unset, .unset, .unset, .unset, .unset, .unset, .unset] [(.long (own_v0_42 q2 p3))])) (fun t kt => ?_) ?_
    · skip
      show Steps p.tables e below (T6.setTop (mkF m 42 #[.val (.long q1), .second, .val (.long q2), .second, .val (.int p3), .val (.int p4), .val (.int (0 : Int32)), .val (.ref s_CheckProfile_G821), .val (.long (q2 &&& (4503599627370495 : Int64))), .second, .unset, .unset, .unset, .unset, .unset, .unset, .unset, .unset, .unset] [(.int (p3 &&& (8 : Int32)))])) _
      by_cases hc7_42 : (p3 &&& (8 : Int32)) = (0 : Int32)
      · skip
        refine XS.ifYes X6.here hx rfl (pc0 := 42) (pc' := 60) rfl (hb hby at_42) rfl ((if0 _ _).trans (teq hc7_42).1) (by decide) (by decide) ?_
        show Steps p.tables e below (T6.setTop (mkF m 60 #[.val (.long q1), .second, .val (.long q2), .second, .val (.int p3), .val (.int p4), .val (.int (0 : Int32)), .val (.ref s_CheckProfile_G821), .val (.long (q2 &&& (4503599627370495 : Int64))), .second, .unset, .unset, .unset, .unset, .unset, .unset, .unset, .unset, .unset] [])) _
        refine XS.lload X6.here hx rfl (hb hby at_60) rfl ?_
        show Steps p.tables e below (T6.setTop (mkF m 62 #[.val (.long q1), .second, .val (.long q2), .second, .val (.int p3), .val (.int p4), .val (.int (0 : Int32)), .val (.ref s_CheckProfile_G821), .val (.long (q2 &&& (4503599627370495 : Int64))), .second, .unset, .unset, .unset, .unset, .unset, .unset, .unset, .unset, .unset] [(.long (q2 &&& (4503599627370495 : Int64)))])) _
        refine XS.lconst X6.here hx rfl (hb hby at_62) ?_
        show Steps p.tables e below (T6.setTop (mkF m 63 #[.val (.long q1), .second, .val (.long q2), .second, .val (.int p3), .val (.int p4), .val (.int (0 : Int32)), .val (.ref s_CheckProfile_G821), .val (.long (q2 &&& (4503599627370495 : Int64))), .second, .unset, .unset, .unset, .unset, .unset, .unset, .unset, .unset, .unset] [(.long (1 : Int64)), (.long (q2 &&& (4503599627370495 : Int64)))])) _
        refine XS.ladd X6.here hx rfl (hb hby at_63) rfl ?_
        show Steps p.tables e below (T6.setTop (mkF m 64 #[.val (.long q1), .second, .val (.long q2), .second, .val (.int p3), .val (.int p4), .val (.int (0 : Int32)), .val (.ref s_CheckProfile_G821), .val (.long (q2 &&& (4503599627370495 : Int64))), .second, .unset, .unset, .unset, .unset, .unset, .unset, .unset, .unset, .unset] [(.long ((q2 &&& (4503599627370495 : Int64)) + (1 : Int64)))])) _
        rw [show (own_v0_42 q2 p3) = ((q2 &&& (4503599627370495 : Int64)) + (1 : Int64)) from ((if_pos hc7_42).trans rfl)] at kt
        exact kt
      · skip
        refine XS.ifNo X6.here hx rfl (hb hby at_42) rfl ((if0 _ _).trans (feq hc7_42).1) ?_
        show Steps p.tables e below (T6.setTop (mkF m 45 #[.val (.long q1), .second, .val (.long q2), .second, .val (.int p3), .val (.int p4), .val (.int (0 : Int32)), .val (.ref s_CheckProfile_G821), .val (.long (q2 &&& (4503599627370495 : Int64))), .second, .unset, .unset, .unset, .unset, .unset, .unset, .unset, .unset, .unset] [])) _
        refine XS.lload X6.here hx rfl (hb hby at_45) rfl ?_
        show Steps p.tables e below (T6.setTop (mkF m 47 #[.val (.long q1), .second, .val (.long q2), .second, .val (.int p3), .val (.int p4), .val (.int (0 : Int32)), .val (.ref s_CheckProfile_G821), .val (.long (q2 &&& (4503599627370495 : Int64))), .second, .unset, .unset, .unset, .unset, .unset, .unset, .unset, .unset, .unset] [(.long (q2 &&& (4503599627370495 : Int64)))])) _
        refine (X6.ldc2Long hx hown (mvT hZ (hw _ (List.mem_of_getElem? (i := 4) rfl))) (g := (mkF m 47 #[.val (.long q1), .second, .val (.long q2), .second, .val (.int p3), .val (.int p4), .val (.int (0 : Int32)), .val (.ref s_CheckProfile_G821), .val (.long (q2 &&& (4503599627370495 : Int64))), .second, .unset, .unset, .unset, .unset, .unset, .unset, .unset, .unset, .unset] [(.long (q2 &&& (4503599627370495 : Int64)))])) rfl (hb hby at_47)) _ ?_
        show Steps p.tables e below (T6.setTop (mkF m 50 #[.val (.long q1), .second, .val (.long q2), .second, .val (.int p3), .val (.int p4), .val (.int (0 : Int32)), .val (.ref s_CheckProfile_G821), .val (.long (q2 &&& (4503599627370495 : Int64))), .second, .unset, .unset, .unset, .unset, .unset, .unset, .unset, .unset, .unset] [(.long (1000 : Int64)), (.long (q2 &&& (4503599627370495 : Int64)))])) _
        refine XS.ldiv X6.here hx rfl (hb hby at_50) rfl (by decide) ?_
        show Steps p.tables e below (T6.setTop (mkF m 51 #[.val (.long q1), .second, .val (.long q2), .second, .val (.int p3), .val (.int p4), .val (.int (0 : Int32)), .val (.ref s_CheckProfile_G821), .val (.long (q2 &&& (4503599627370495 : Int64))), .second, .unset, .unset, .unset, .unset, .unset, .unset, .unset, .unset, .unset] [(.long ((q2 &&& (4503599627370495 : Int64)) / (1000 : Int64)))])) _
        refine XS.lconst X6.here hx rfl (hb hby at_51) ?_
        show Steps p.tables e below (T6.setTop (mkF m 52 #[.val (.long q1), .second, .val (.long q2), .second, .val (.int p3), .val (.int p4), .val (.int (0 : Int32)), .val (.ref s_CheckProfile_G821), .val (.long (q2 &&& (4503599627370495 : Int64))), .second, .unset, .unset, .unset, .unset, .unset, .unset, .unset, .unset, .unset] [(.long (1 : Int64)), (.long ((q2 &&& (4503599627370495 : Int64)) / (1000 : Int64)))])) _
        refine XS.ladd X6.here hx rfl (hb hby at_52) rfl ?_
        show Steps p.tables e below (T6.setTop (mkF m 53 #[.val (.long q1), .second, .val (.long q2), .second, .val (.int p3), .val (.int p4), .val (.int (0 : Int32)), .val (.ref s_CheckProfile_G821), .val (.long (q2 &&& (4503599627370495 : Int64))), .second, .unset, .unset, .unset, .unset, .unset, .unset, .unset, .unset, .unset] [(.long (((q2 &&& (4503599627370495 : Int64)) / (1000 : Int64)) + (1 : Int64)))])) _
        refine (X6.ldc2Long hx hown (mvT hZ (hw _ (List.mem_of_getElem? (i := 4) rfl))) (g := (mkF m 53 #[.val (.long q1), .second, .val (.long q2), .second, .val (.int p3), .val (.int p4), .val (.int (0 : Int32)), .val (.ref s_CheckProfile_G821), .val (.long (q2 &&& (4503599627370495 : Int64))), .second, .unset, .unset, .unset, .unset, .unset, .unset, .unset, .unset, .unset] [(.long (((q2 &&& (4503599627370495 : Int64)) / (1000 : Int64)) + (1 : Int64)))])) rfl (hb hby at_53)) _ ?_
        show Steps p.tables e below (T6.setTop (mkF m 56 #[.val (.long q1), .second, .val (.long q2), .second, .val (.int p3), .val (.int p4), .val (.int (0 : Int32)), .val (.ref s_CheckProfile_G821), .val (.long (q2 &&& (4503599627370495 : Int64))), .second, .unset, .unset, .unset, .unset, .unset, .unset, .unset, .unset, .unset] [(.long (1000 : Int64)), (.long (((q2 &&& (4503599627370495 : Int64)) / (1000 : Int64)) + (1 : Int64)))])) _
        refine XS.lmul X6.here hx rfl (hb hby at_56) rfl ?_
        show Steps p.tables e below (T6.setTop (mkF m 57 #[.val (.long q1), .second, .val (.long q2), .second, .val (.int p3), .val (.int p4), .val (.int (0 : Int32)), .val (.ref s_CheckProfile_G821), .val (.long (q2 &&& (4503599627370495 : Int64))), .second, .unset, .unset, .unset, .unset, .unset, .unset, .unset, .unset, .unset] [(.long ((((q2 &&& (4503599627370495 : Int64)) / (1000 : Int64)) + (1 : Int64)) * (1000 : Int64)))])) _
        refine XS.goto X6.here hx rfl (pc0 := 57) (pc' := 64) rfl (hb hby at_57) (by decide) (by decide) ?_
        show Steps p.tables e below (T6.setTop (mkF m 64 #[.val (.long q1), .second, .val (.long q2), .second, .val (.int p3), .val (.int p4), .val (.int (0 : Int32)), .val (.ref s_CheckProfile_G821), .val (.long (q2 &&& (4503599627370495 : Int64))), .second, .unset, .unset, .unset, .unset, .unset, .unset, .unset, .unset, .unset] [(.long ((((q2 &&& (4503599627370495 : Int64)) / (1000 : Int64)) + (1 : Int64)) * (1000 : Int64)))])) _
        rw [show (own_v0_42 q2 p3) = ((((q2 &&& (4503599627370495 : Int64)) / (1000 : Int64)) + (1 : Int64)) * (1000 : Int64)) from ((if_neg hc7_42).trans rfl)] at kt
        exact kt
    show own_Go p.tables e below _ (T6.setTop (mkF m 64 #[.val (.long q1), .second, .val (.long q2), .second, .val (.int p3), .val (.int p4), .val (.int (0 : Int32)), .val (.ref s_CheckProfile_G821), .val (.long (q2 &&& (4503599627370495 : Int64))), .second, .unset, .unset, .unset, .unset, .unset, .unset, .unset, .unset, .unset] [(.long (own_v0_42 q2 p3))]))
    refine own_go (fun _ => XS.lstore X6.here hx rfl (hb hby at_64) rfl (l' := #[.val (.long q1), .second, .val (.long q2), .second, .val (.int p3), .val (.int p4), .val (.int (0 : Int32)), .val (.ref s_CheckProfile_G821), .val (.long (q2 &&& (4503599627370495 : Int64))), .second, .val (.long (own_v0_42 q2 p3)), .second, .unset, .unset, .unset, .unset, .unset, .unset, .unset]) rfl) ?_
    show own_Go p.tables e below _ (T6.setTop (mkF m 66 #[.val (.long q1), .second, .val (.long q2), .second, .val (.int p3), .val (.int p4), .val (.int (0 : Int32)), .val (.ref s_CheckProfile_G821), .val (.long (q2 &&& (4503599627370495 : Int64))), .second, .val (.long (own_v0_42 q2 p3)), .second, .unset, .unset, .unset, .unset, .unset, .unset, .unset] []))
    refine own_go (fun _ => XS.lload X6.here hx rfl (hb hby at_66) rfl) ?_
    show own_Go p.tables e below _ (T6.setTop (mkF m 68 #[.val (.long q1), .second, .val (.long q2), .second, .val (.int p3), .val (.int p4), .val (.int (0 : Int32)), .val (.ref s_CheckProfile_G821), .val (.long (q2 &&& (4503599627370495 : Int64))), .second, .val (.long (own_v0_42 q2 p3)), .second, .unset, .unset, .unset, .unset, .unset, .unset, .unset] [(.long (own_v0_42 q2 p3))]))
    refine own_go (X6.ldc2Long hx hown (mvT hZ (hw _ (List.mem_of_getElem? (i := 4) rfl))) (g := (mkF m 68 #[.val (.long q1), .second, .val (.long q2), .second, .val (.int p3), .val (.int p4), .val (.int (0 : Int32)), .val (.ref s_CheckProfile_G821), .val (.long (q2 &&& (4503599627370495 : Int64))), .second, .val (.long (own_v0_42 q2 p3)), .second, .unset, .unset, .unset, .unset, .unset, .unset, .unset] [(.long (own_v0_42 q2 p3))])) rfl (hb hby at_68)) ?_
    show own_Go p.tables e below _ (T6.setTop (mkF m 71 #[.val (.long q1), .second, .val (.long q2), .second, .val (.int p3), .val (.int p4), .val (.int (0 : Int32)), .val (.ref s_CheckProfile_G821), .val (.long (q2 &&& (4503599627370495 : Int64))), .second, .val (.long (own_v0_42 q2 p3)), .second, .unset, .unset, .unset, .unset, .unset, .unset, .unset] [(.long (1000 : Int64)), (.long (own_v0_42 q2 p3))]))
    refine own_go (fun _ => XS.ldiv X6.here hx rfl (hb hby at_71) rfl (by decide)) ?_
    show own_Go p.tables e below _ (T6.setTop (mkF m 72 #[.val (.long q1), .second, .val (.long q2), .second, .val (.int p3), .val (.int p4), .val (.int (0 : Int32)), .val (.ref s_CheckProfile_G821), .val (.long (q2 &&& (4503599627370495 : Int64))), .second, .val (.long (own_v0_42 q2 p3)), .second, .unset, .unset, .unset, .unset, .unset, .unset, .unset] [(.long ((own_v0_42 q2 p3) / (1000 : Int64)))]))
    refine own_go (fun _ => XS.lstore X6.here hx rfl (hb hby at_72) rfl (l' := #[.val (.long q1), .second, .val (.long q2), .second, .val (.int p3), .val (.int p4), .val (.int (0 : Int32)), .val (.ref s_CheckProfile_G821), .val (.long (q2 &&& (4503599627370495 : Int64))), .second, .val (.long (own_v0_42 q2 p3)), .second, .val (.long ((own_v0_42 q2 p3) / (1000 : Int64))), .second, .unset, .unset, .unset, .unset, .unset]) rfl) ?_
    show own_Go p.tables e below _ (T6.setTop (mkF m 74 #[.val (.long q1), .second, .val (.long q2), .second, .val (.int p3), .val (.int p4), .val (.int (0 : Int32)), .val (.ref s_CheckProfile_G821), .val (.long (q2 &&& (4503599627370495 : Int64))), .second, .val (.long (own_v0_42 q2 p3)), .second, .val (.long ((own_v0_42 q2 p3) / (1000 : Int64))), .second, .unset, .unset, .unset, .unset, .unset] []))
    refine own_go (fun _ => XS.lload X6.here hx rfl (hb hby at_74) rfl) ?_
    show own_Go p.tables e below _ (T6.setTop (mkF m 76 #[.val (.long q1), .second, .val (.long q2), .second, .val (.int p3), .val (.int p4), .val (.int (0 : Int32)), .val (.ref s_CheckProfile_G821), .val (.long (q2 &&& (4503599627370495 : Int64))), .second, .val (.long (own_v0_42 q2 p3)), .second, .val (.long ((own_v0_42 q2 p3) / (1000 : Int64))), .second, .unset, .unset, .unset, .unset, .unset] [(.long (own_v0_42 q2 p3))]))
    refine own_go (X6.ldc2Long hx hown (mvT hZ (hw _ (List.mem_of_getElem? (i := 4) rfl))) (g := (mkF m 76 #[.val (.long q1), .second, .val (.long q2), .second, .val (.int p3), .val (.int p4), .val (.int (0 : Int32)), .val (.ref s_CheckProfile_G821), .val (.long (q2 &&& (4503599627370495 : Int64))), .second, .val (.long (own_v0_42 q2 p3)), .second, .val (.long ((own_v0_42 q2 p3) / (1000 : Int64))), .second, .unset, .unset, .unset, .unset, .unset] [(.long (own_v0_42 q2 p3))])) rfl (hb hby at_76)) ?_
    show own_Go p.tables e below _ (T6.setTop (mkF m 79 #[.val (.long q1), .second, .val (.long q2), .second, .val (.int p3), .val (.int p4), .val (.int (0 : Int32)), .val (.ref s_CheckProfile_G821), .val (.long (q2 &&& (4503599627370495 : Int64))), .second, .val (.long (own_v0_42 q2 p3)), .second, .val (.long ((own_v0_42 q2 p3) / (1000 : Int64))), .second, .unset, .unset, .unset, .unset, .unset] [(.long (1000 : Int64)), (.long (own_v0_42 q2 p3))]))
    refine own_go (fun _ => XS.lrem X6.here hx rfl (hb hby at_79) rfl (by decide)) ?_
    show own_Go p.tables e below _ (T6.setTop (mkF m 80 #[.val (.long q1), .second, .val (.long q2), .second, .val (.int p3), .val (.int p4), .val (.int (0 : Int32)), .val (.ref s_CheckProfile_G821), .val (.long (q2 &&& (4503599627370495 : Int64))), .second, .val (.long (own_v0_42 q2 p3)), .second, .val (.long ((own_v0_42 q2 p3) / (1000 : Int64))), .second, .unset, .unset, .unset, .unset, .unset] [(.long ((own_v0_42 q2 p3) - (own_v0_42 q2 p3) / (1000 : Int64) * (1000 : Int64)))]))
    refine own_go (fun _ => XS.lstore X6.here hx rfl (hb hby at_80) rfl (l' := #[.val (.long q1), .second, .val (.long q2), .second, .val (.int p3), .val (.int p4), .val (.int (0 : Int32)), .val (.ref s_CheckProfile_G821), .val (.long (q2 &&& (4503599627370495 : Int64))), .second, .val (.long (own_v0_42 q2 p3)), .second, .val (.long ((own_v0_42 q2 p3) / (1000 : Int64))), .second, .val (.long ((own_v0_42 q2 p3) - (own_v0_42 q2 p3) / (1000 : Int64) * (1000 : Int64))), .second, .unset, .unset, .unset]) rfl) ?_
    show own_Go p.tables e below _ (T6.setTop (mkF m 82 #[.val (.long q1), .second, .val (.long q2), .second, .val (.int p3), .val (.int p4), .val (.int (0 : Int32)), .val (.ref s_CheckProfile_G821), .val (.long (q2 &&& (4503599627370495 : Int64))), .second, .val (.long (own_v0_42 q2 p3)), .second, .val (.long ((own_v0_42 q2 p3) / (1000 : Int64))), .second, .val (.long ((own_v0_42 q2 p3) - (own_v0_42 q2 p3) / (1000 : Int64) * (1000 : Int64))), .second, .unset, .unset, .unset] []))
    refine own_go (fun _ => XS.iload X6.here hx rfl (hb hby at_82) rfl) ?_
    show own_Go p.tables e below _ (T6.setTop (mkF m 84 #[.val (.long q1), .second, .val (.long q2), .second, .val (.int p3), .val (.int p4), .val (.int (0 : Int32)), .val (.ref s_CheckProfile_G821), .val (.long (q2 &&& (4503599627370495 : Int64))), .second, .val (.long (own_v0_42 q2 p3)), .second, .val (.long ((own_v0_42 q2 p3) / (1000 : Int64))), .second, .val (.long ((own_v0_42 q2 p3) - (own_v0_42 q2 p3) / (1000 : Int64) * (1000 : Int64))), .second, .unset, .unset, .unset] [(.int p3)]))
    refine own_go (fun _ => XS.iconst X6.here hx rfl (hb hby at_84)) ?_
    show own_Go p.tables e below _ (T6.setTop (mkF m 85 #[.val (.long q1), .second, .val (.long q2), .second, .val (.int p3), .val (.int p4), .val (.int (0 : Int32)), .val (.ref s_CheckProfile_G821), .val (.long (q2 &&& (4503599627370495 : Int64))), .second, .val (.long (own_v0_42 q2 p3)), .second, .val (.long ((own_v0_42 q2 p3) / (1000 : Int64))), .second, .val (.long ((own_v0_42 q2 p3) - (own_v0_42 q2 p3) / (1000 : Int64) * (1000 : Int64))), .second, .unset, .unset, .unset] [(.int (1 : Int32)), (.int p3)]))
    refine own_go (fun _ => XS.iand X6.here hx rfl (hb hby at_85) rfl) ?_
    refine own_go (S' := T6.setTop (mkF m 123 #[.val (.long q1), .second, .val (.long q2), .second, .val (.int p3), .val (.int p4), .val (.int (0 : Int32)), .val (.ref s_CheckProfile_G821), .val (.long (q2 &&& (4503599627370495 : Int64))), .second, .val (.long (own_v0_42 q2 p3)), .second, .val (.long ((own_v0_42 q2 p3) / (1000 : Int64))), .second, .val (.long ((own_v0_42 q2 p3) - (own_v0_42 q2 p3) / (1000 : Int64) * (1000 : Int64))), .second, .val (.long (own_v0_86 q1 q2 p3)), .second, .unset] [])) (fun t kt => ?_) ?_
    · skip
      show Steps p.tables e below (T6.setTop (mkF m 86 #[.val (.long q1), .second, .val (.long q2), .second, .val (.int p3), .val (.int p4), .val (.int (0 : Int32)), .val (.ref s_CheckProfile_G821), .val (.long (q2 &&& (4503599627370495 : Int64))), .second, .val (.long (own_v0_42 q2 p3)), .second, .val (.long ((own_v0_42 q2 p3) / (1000 : Int64))), .second, .val (.long ((own_v0_42 q2 p3) - (own_v0_42 q2 p3) / (1000 : Int64) * (1000 : Int64))), .second, .unset, .unset, .unset] [(.int (p3 &&& (1 : Int32)))])) _
      by_cases hc8_86 : (p3 &&& (1 : Int32)) = (0 : Int32)
      · skip
        refine XS.ifNo X6.here hx rfl (hb hby at_86) rfl ((if0 _ _).trans (teq hc8_86).2) ?_
        show Steps p.tables e below (T6.setTop (mkF m 89 #[.val (.long q1), .second, .val (.long q2), .second, .val (.int p3), .val (.int p4), .val (.int (0 : Int32)), .val (.ref s_CheckProfile_G821), .val (.long (q2 &&& (4503599627370495 : Int64))), .second, .val (.long (own_v0_42 q2 p3)), .second, .val (.long ((own_v0_42 q2 p3) / (1000 : Int64))), .second, .val (.long ((own_v0_42 q2 p3) - (own_v0_42 q2 p3) / (1000 : Int64) * (1000 : Int64))), .second, .unset, .unset, .unset] [])) _
        refine XS.lload X6.here hx rfl (hb hby at_89) rfl ?_
        show Steps p.tables e below (T6.setTop (mkF m 91 #[.val (.long q1), .second, .val (.long q2), .second, .val (.int p3), .val (.int p4), .val (.int (0 : Int32)), .val (.ref s_CheckProfile_G821), .val (.long (q2 &&& (4503599627370495 : Int64))), .second, .val (.long (own_v0_42 q2 p3)), .second, .val (.long ((own_v0_42 q2 p3) / (1000 : Int64))), .second, .val (.long ((own_v0_42 q2 p3) - (own_v0_42 q2 p3) / (1000 : Int64) * (1000 : Int64))), .second, .unset, .unset, .unset] [(.long ((own_v0_42 q2 p3) / (1000 : Int64)))])) _
        refine XS.iload X6.here hx rfl (hb hby at_91) rfl ?_
        show Steps p.tables e below (T6.setTop (mkF m 93 #[.val (.long q1), .second, .val (.long q2), .second, .val (.int p3), .val (.int p4), .val (.int (0 : Int32)), .val (.ref s_CheckProfile_G821), .val (.long (q2 &&& (4503599627370495 : Int64))), .second, .val (.long (own_v0_42 q2 p3)), .second, .val (.long ((own_v0_42 q2 p3) / (1000 : Int64))), .second, .val (.long ((own_v0_42 q2 p3) - (own_v0_42 q2 p3) / (1000 : Int64) * (1000 : Int64))), .second, .unset, .unset, .unset] [(.int p3), (.long ((own_v0_42 q2 p3) / (1000 : Int64)))])) _
        refine XS.iconst X6.here hx rfl (hb hby at_93) ?_
        show Steps p.tables e below (T6.setTop (mkF m 94 #[.val (.long q1), .second, .val (.long q2), .second, .val (.int p3), .val (.int p4), .val (.int (0 : Int32)), .val (.ref s_CheckProfile_G821), .val (.long (q2 &&& (4503599627370495 : Int64))), .second, .val (.long (own_v0_42 q2 p3)), .second, .val (.long ((own_v0_42 q2 p3) / (1000 : Int64))), .second, .val (.long ((own_v0_42 q2 p3) - (own_v0_42 q2 p3) / (1000 : Int64) * (1000 : Int64))), .second, .unset, .unset, .unset] [(.int (1 : Int32)), (.int p3), (.long ((own_v0_42 q2 p3) / (1000 : Int64)))])) _
        refine XS.ishr X6.here hx rfl (hb hby at_94) rfl ?_
        show Steps p.tables e below (T6.setTop (mkF m 95 #[.val (.long q1), .second, .val (.long q2), .second, .val (.int p3), .val (.int p4), .val (.int (0 : Int32)), .val (.ref s_CheckProfile_G821), .val (.long (q2 &&& (4503599627370495 : Int64))), .second, .val (.long (own_v0_42 q2 p3)), .second, .val (.long ((own_v0_42 q2 p3) / (1000 : Int64))), .second, .val (.long ((own_v0_42 q2 p3) - (own_v0_42 q2 p3) / (1000 : Int64) * (1000 : Int64))), .second, .unset, .unset, .unset] [(.int (p3 >>> ((1 : Int32) &&& 31))), (.long ((own_v0_42 q2 p3) / (1000 : Int64)))])) _
        refine XS.iconst X6.here hx rfl (hb hby at_95) ?_
        show Steps p.tables e below (T6.setTop (mkF m 96 #[.val (.long q1), .second, .val (.long q2), .second, .val (.int p3), .val (.int p4), .val (.int (0 : Int32)), .val (.ref s_CheckProfile_G821), .val (.long (q2 &&& (4503599627370495 : Int64))), .second, .val (.long (own_v0_42 q2 p3)), .second, .val (.long ((own_v0_42 q2 p3) / (1000 : Int64))), .second, .val (.long ((own_v0_42 q2 p3) - (own_v0_42 q2 p3) / (1000 : Int64) * (1000 : Int64))), .second, .unset, .unset, .unset] [(.int (3 : Int32)), (.int (p3 >>> ((1 : Int32) &&& 31))), (.long ((own_v0_42 q2 p3) / (1000 : Int64)))])) _
        refine XS.iand X6.here hx rfl (hb hby at_96) rfl ?_
        show Steps p.tables e below (T6.setTop (mkF m 97 #[.val (.long q1), .second, .val (.long q2), .second, .val (.int p3), .val (.int p4), .val (.int (0 : Int32)), .val (.ref s_CheckProfile_G821), .val (.long (q2 &&& (4503599627370495 : Int64))), .second, .val (.long (own_v0_42 q2 p3)), .second, .val (.long ((own_v0_42 q2 p3) / (1000 : Int64))), .second, .val (.long ((own_v0_42 q2 p3) - (own_v0_42 q2 p3) / (1000 : Int64) * (1000 : Int64))), .second, .unset, .unset, .unset] [(.int ((p3 >>> ((1 : Int32) &&& 31)) &&& (3 : Int32))), (.long ((own_v0_42 q2 p3) / (1000 : Int64)))])) _
        refine XS.i2l X6.here hx rfl (hb hby at_97) rfl ?_
        show Steps p.tables e below (T6.setTop (mkF m 98 #[.val (.long q1), .second, .val (.long q2), .second, .val (.int p3), .val (.int p4), .val (.int (0 : Int32)), .val (.ref s_CheckProfile_G821), .val (.long (q2 &&& (4503599627370495 : Int64))), .second, .val (.long (own_v0_42 q2 p3)), .second, .val (.long ((own_v0_42 q2 p3) / (1000 : Int64))), .second, .val (.long ((own_v0_42 q2 p3) - (own_v0_42 q2 p3) / (1000 : Int64) * (1000 : Int64))), .second, .unset, .unset, .unset] [(.long (((p3 >>> ((1 : Int32) &&& 31)) &&& (3 : Int32)).toInt64)), (.long ((own_v0_42 q2 p3) / (1000 : Int64)))])) _
        refine XS.ladd X6.here hx rfl (hb hby at_98) rfl ?_
        show Steps p.tables e below (T6.setTop (mkF m 99 #[.val (.long q1), .second, .val (.long q2), .second, .val (.int p3), .val (.int p4), .val (.int (0 : Int32)), .val (.ref s_CheckProfile_G821), .val (.long (q2 &&& (4503599627370495 : Int64))), .second, .val (.long (own_v0_42 q2 p3)), .second, .val (.long ((own_v0_42 q2 p3) / (1000 : Int64))), .second, .val (.long ((own_v0_42 q2 p3) - (own_v0_42 q2 p3) / (1000 : Int64) * (1000 : Int64))), .second, .unset, .unset, .unset] [(.long (((own_v0_42 q2 p3) / (1000 : Int64)) + (((p3 >>> ((1 : Int32) &&& 31)) &&& (3 : Int32)).toInt64)))])) _
        refine XS.lconst X6.here hx rfl (hb hby at_99) ?_
        show Steps p.tables e below (T6.setTop (mkF m 100 #[.val (.long q1), .second, .val (.long q2), .second, .val (.int p3), .val (.int p4), .val (.int (0 : Int32)), .val (.ref s_CheckProfile_G821), .val (.long (q2 &&& (4503599627370495 : Int64))), .second, .val (.long (own_v0_42 q2 p3)), .second, .val (.long ((own_v0_42 q2 p3) / (1000 : Int64))), .second, .val (.long ((own_v0_42 q2 p3) - (own_v0_42 q2 p3) / (1000 : Int64) * (1000 : Int64))), .second, .unset, .unset, .unset] [(.long (1 : Int64)), (.long (((own_v0_42 q2 p3) / (1000 : Int64)) + (((p3 >>> ((1 : Int32) &&& 31)) &&& (3 : Int32)).toInt64)))])) _
        refine XS.lsub X6.here hx rfl (hb hby at_100) rfl ?_
        show Steps p.tables e below (T6.setTop (mkF m 101 #[.val (.long q1), .second, .val (.long q2), .second, .val (.int p3), .val (.int p4), .val (.int (0 : Int32)), .val (.ref s_CheckProfile_G821), .val (.long (q2 &&& (4503599627370495 : Int64))), .second, .val (.long (own_v0_42 q2 p3)), .second, .val (.long ((own_v0_42 q2 p3) / (1000 : Int64))), .second, .val (.long ((own_v0_42 q2 p3) - (own_v0_42 q2 p3) / (1000 : Int64) * (1000 : Int64))), .second, .unset, .unset, .unset] [(.long ((((own_v0_42 q2 p3) / (1000 : Int64)) + (((p3 >>> ((1 : Int32) &&& 31)) &&& (3 : Int32)).toInt64)) - (1 : Int64)))])) _
        refine XS.lstore X6.here hx rfl (hb hby at_101) rfl (l' := #[.val (.long q1), .second, .val (.long q2), .second, .val (.int p3), .val (.int p4), .val (.int (0 : Int32)), .val (.ref s_CheckProfile_G821), .val (.long (q2 &&& (4503599627370495 : Int64))), .second, .val (.long (own_v0_42 q2 p3)), .second, .val (.long ((own_v0_42 q2 p3) / (1000 : Int64))), .second, .val (.long ((own_v0_42 q2 p3) - (own_v0_42 q2 p3) / (1000 : Int64) * (1000 : Int64))), .second, .val (.long ((((own_v0_42 q2 p3) / (1000 : Int64)) + (((p3 >>> ((1 : Int32) &&& 31)) &&& (3 : Int32)).toInt64)) - (1 : Int64))), .second, .unset]) rfl ?_
        show Steps p.tables e below (T6.setTop (mkF m 103 #[.val (.long q1), .second, .val (.long q2), .second, .val (.int p3), .val (.int p4), .val (.int (0 : Int32)), .val (.ref s_CheckProfile_G821), .val (.long (q2 &&& (4503599627370495 : Int64))), .second, .val (.long (own_v0_42 q2 p3)), .second, .val (.long ((own_v0_42 q2 p3) / (1000 : Int64))), .second, .val (.long ((own_v0_42 q2 p3) - (own_v0_42 q2 p3) / (1000 : Int64) * (1000 : Int64))), .second, .val (.long ((((own_v0_42 q2 p3) / (1000 : Int64)) + (((p3 >>> ((1 : Int32) &&& 31)) &&& (3 : Int32)).toInt64)) - (1 : Int64))), .second, .unset] [])) _
        refine XS.lload X6.here hx rfl (hb hby at_103) rfl ?_
        show Steps p.tables e below (T6.setTop (mkF m 105 #[.val (.long q1), .second, .val (.long q2), .second, .val (.int p3), .val (.int p4), .val (.int (0 : Int32)), .val (.ref s_CheckProfile_G821), .val (.long (q2 &&& (4503599627370495 : Int64))), .second, .val (.long (own_v0_42 q2 p3)), .second, .val (.long ((own_v0_42 q2 p3) / (1000 : Int64))), .second, .val (.long ((own_v0_42 q2 p3) - (own_v0_42 q2 p3) / (1000 : Int64) * (1000 : Int64))), .second, .val (.long ((((own_v0_42 q2 p3) / (1000 : Int64)) + (((p3 >>> ((1 : Int32) &&& 31)) &&& (3 : Int32)).toInt64)) - (1 : Int64))), .second, .unset] [(.long ((((own_v0_42 q2 p3) / (1000 : Int64)) + (((p3 >>> ((1 : Int32) &&& 31)) &&& (3 : Int32)).toInt64)) - (1 : Int64)))])) _
        refine XS.lconst X6.here hx rfl (hb hby at_105) ?_
        show Steps p.tables e below (T6.setTop (mkF m 106 #[.val (.long q1), .second, .val (.long q2), .second, .val (.int p3), .val (.int p4), .val (.int (0 : Int32)), .val (.ref s_CheckProfile_G821), .val (.long (q2 &&& (4503599627370495 : Int64))), .second, .val (.long (own_v0_42 q2 p3)), .second, .val (.long ((own_v0_42 q2 p3) / (1000 : Int64))), .second, .val (.long ((own_v0_42 q2 p3) - (own_v0_42 q2 p3) / (1000 : Int64) * (1000 : Int64))), .second, .val (.long ((((own_v0_42 q2 p3) / (1000 : Int64)) + (((p3 >>> ((1 : Int32) &&& 31)) &&& (3 : Int32)).toInt64)) - (1 : Int64))), .second, .unset] [(.long (0 : Int64)), (.long ((((own_v0_42 q2 p3) / (1000 : Int64)) + (((p3 >>> ((1 : Int32) &&& 31)) &&& (3 : Int32)).toInt64)) - (1 : Int64)))])) _
        refine XS.lcmp X6.here hx rfl (hb hby at_106) rfl ?_
        show Steps p.tables e below (T6.setTop (mkF m 107 #[.val (.long q1), .second, .val (.long q2), .second, .val (.int p3), .val (.int p4), .val (.int (0 : Int32)), .val (.ref s_CheckProfile_G821), .val (.long (q2 &&& (4503599627370495 : Int64))), .second, .val (.long (own_v0_42 q2 p3)), .second, .val (.long ((own_v0_42 q2 p3) / (1000 : Int64))), .second, .val (.long ((own_v0_42 q2 p3) - (own_v0_42 q2 p3) / (1000 : Int64) * (1000 : Int64))), .second, .val (.long ((((own_v0_42 q2 p3) / (1000 : Int64)) + (((p3 >>> ((1 : Int32) &&& 31)) &&& (3 : Int32)).toInt64)) - (1 : Int64))), .second, .unset] [(.int (lcmpW ((((own_v0_42 q2 p3) / (1000 : Int64)) + (((p3 >>> ((1 : Int32) &&& 31)) &&& (3 : Int32)).toInt64)) - (1 : Int64)) (0 : Int64)))])) _
        by_cases hc9_107 : (lcmpW ((((own_v0_42 q2 p3) / (1000 : Int64)) + (((p3 >>> ((1 : Int32) &&& 31)) &&& (3 : Int32)).toInt64)) - (1 : Int64)) (0 : Int64)) < (0 : Int32)
        · skip
          refine XS.ifNo X6.here hx rfl (hb hby at_107) rfl ((if0 _ _).trans (tlt hc9_107).2.1) ?_
          show Steps p.tables e below (T6.setTop (mkF m 110 #[.val (.long q1), .second, .val (.long q2), .second, .val (.int p3), .val (.int p4), .val (.int (0 : Int32)), .val (.ref s_CheckProfile_G821), .val (.long (q2 &&& (4503599627370495 : Int64))), .second, .val (.long (own_v0_42 q2 p3)), .second, .val (.long ((own_v0_42 q2 p3) / (1000 : Int64))), .second, .val (.long ((own_v0_42 q2 p3) - (own_v0_42 q2 p3) / (1000 : Int64) * (1000 : Int64))), .second, .val (.long ((((own_v0_42 q2 p3) / (1000 : Int64)) + (((p3 >>> ((1 : Int32) &&& 31)) &&& (3 : Int32)).toInt64)) - (1 : Int64))), .second, .unset] [])) _
          refine XS.lconst X6.here hx rfl (hb hby at_110) ?_
          show Steps p.tables e below (T6.setTop (mkF m 111 #[.val (.long q1), .second, .val (.long q2), .second, .val (.int p3), .val (.int p4), .val (.int (0 : Int32)), .val (.ref s_CheckProfile_G821), .val (.long (q2 &&& (4503599627370495 : Int64))), .second, .val (.long (own_v0_42 q2 p3)), .second, .val (.long ((own_v0_42 q2 p3) / (1000 : Int64))), .second, .val (.long ((own_v0_42 q2 p3) - (own_v0_42 q2 p3) / (1000 : Int64) * (1000 : Int64))), .second, .val (.long ((((own_v0_42 q2 p3) / (1000 : Int64)) + (((p3 >>> ((1 : Int32) &&& 31)) &&& (3 : Int32)).toInt64)) - (1 : Int64))), .second, .unset] [(.long (0 : Int64))])) _
          refine XS.lstore X6.here hx rfl (hb hby at_111) rfl (l' := #[.val (.long q1), .second, .val (.long q2), .second, .val (.int p3), .val (.int p4), .val (.int (0 : Int32)), .val (.ref s_CheckProfile_G821), .val (.long (q2 &&& (4503599627370495 : Int64))), .second, .val (.long (own_v0_42 q2 p3)), .second, .val (.long ((own_v0_42 q2 p3) / (1000 : Int64))), .second, .val (.long ((own_v0_42 q2 p3) - (own_v0_42 q2 p3) / (1000 : Int64) * (1000 : Int64))), .second, .val (.long (0 : Int64)), .second, .unset]) rfl ?_
          show Steps p.tables e below (T6.setTop (mkF m 113 #[.val (.long q1), .second, .val (.long q2), .second, .val (.int p3), .val (.int p4), .val (.int (0 : Int32)), .val (.ref s_CheckProfile_G821), .val (.long (q2 &&& (4503599627370495 : Int64))), .second, .val (.long (own_v0_42 q2 p3)), .second, .val (.long ((own_v0_42 q2 p3) / (1000 : Int64))), .second, .val (.long ((own_v0_42 q2 p3) - (own_v0_42 q2 p3) / (1000 : Int64) * (1000 : Int64))), .second, .val (.long (0 : Int64)), .second, .unset] [])) _
          refine XS.goto X6.here hx rfl (pc0 := 113) (pc' := 123) rfl (hb hby at_113) (by decide) (by decide) ?_
          show Steps p.tables e below (T6.setTop (mkF m 123 #[.val (.long q1), .second, .val (.long q2), .second, .val (.int p3), .val (.int p4), .val (.int (0 : Int32)), .val (.ref s_CheckProfile_G821), .val (.long (q2 &&& (4503599627370495 : Int64))), .second, .val (.long (own_v0_42 q2 p3)), .second, .val (.long ((own_v0_42 q2 p3) / (1000 : Int64))), .second, .val (.long ((own_v0_42 q2 p3) - (own_v0_42 q2 p3) / (1000 : Int64) * (1000 : Int64))), .second, .val (.long (0 : Int64)), .second, .unset] [])) _
          rw [show (own_v0_86 q1 q2 p3) = (0 : Int64) from ((if_pos hc8_86).trans ((if_pos hc9_107).trans rfl))] at kt
          exact kt
        · skip
          refine XS.ifYes X6.here hx rfl (pc0 := 107) (pc' := 123) rfl (hb hby at_107) rfl ((if0 _ _).trans (flt hc9_107).2.1) (by decide) (by decide) ?_
          show Steps p.tables e below (T6.setTop (mkF m 123 #[.val (.long q1), .second, .val (.long q2), .second, .val (.int p3), .val (.int p4), .val (.int (0 : Int32)), .val (.ref s_CheckProfile_G821), .val (.long (q2 &&& (4503599627370495 : Int64))), .second, .val (.long (own_v0_42 q2 p3)), .second, .val (.long ((own_v0_42 q2 p3) / (1000 : Int64))), .second, .val (.long ((own_v0_42 q2 p3) - (own_v0_42 q2 p3) / (1000 : Int64) * (1000 : Int64))), .second, .val (.long ((((own_v0_42 q2 p3) / (1000 : Int64)) + (((p3 >>> ((1 : Int32) &&& 31)) &&& (3 : Int32)).toInt64)) - (1 : Int64))), .second, .unset] [])) _
          rw [show (own_v0_86 q1 q2 p3) = ((((own_v0_42 q2 p3) / (1000 : Int64)) + (((p3 >>> ((1 : Int32) &&& 31)) &&& (3 : Int32)).toInt64)) - (1 : Int64)) from ((if_pos hc8_86).trans ((if_neg hc9_107).trans rfl))] at kt
          exact kt
      · skip
        refine XS.ifYes X6.here hx rfl (pc0 := 86) (pc' := 116) rfl (hb hby at_86) rfl ((if0 _ _).trans (feq hc8_86).2) (by decide) (by decide) ?_
        show Steps p.tables e below (T6.setTop (mkF m 116 #[.val (.long q1), .second, .val (.long q2), .second, .val (.int p3), .val (.int p4), .val (.int (0 : Int32)), .val (.ref s_CheckProfile_G821), .val (.long (q2 &&& (4503599627370495 : Int64))), .second, .val (.long (own_v0_42 q2 p3)), .second, .val (.long ((own_v0_42 q2 p3) / (1000 : Int64))), .second, .val (.long ((own_v0_42 q2 p3) - (own_v0_42 q2 p3) / (1000 : Int64) * (1000 : Int64))), .second, .unset, .unset, .unset] [])) _
        refine XS.lloadN X6.here hx rfl (hb hby at_116) rfl ?_
        show Steps p.tables e below (T6.setTop (mkF m 117 #[.val (.long q1), .second, .val (.long q2), .second, .val (.int p3), .val (.int p4), .val (.int (0 : Int32)), .val (.ref s_CheckProfile_G821), .val (.long (q2 &&& (4503599627370495 : Int64))), .second, .val (.long (own_v0_42 q2 p3)), .second, .val (.long ((own_v0_42 q2 p3) / (1000 : Int64))), .second, .val (.long ((own_v0_42 q2 p3) - (own_v0_42 q2 p3) / (1000 : Int64) * (1000 : Int64))), .second, .unset, .unset, .unset] [(.long q1)])) _
        refine (X6.ldc2Long hx hown (mvT hZ (hw _ (List.mem_of_getElem? (i := 3) rfl))) (g := (mkF m 117 #[.val (.long q1), .second, .val (.long q2), .second, .val (.int p3), .val (.int p4), .val (.int (0 : Int32)), .val (.ref s_CheckProfile_G821), .val (.long (q2 &&& (4503599627370495 : Int64))), .second, .val (.long (own_v0_42 q2 p3)), .second, .val (.long ((own_v0_42 q2 p3) / (1000 : Int64))), .second, .val (.long ((own_v0_42 q2 p3) - (own_v0_42 q2 p3) / (1000 : Int64) * (1000 : Int64))), .second, .unset, .unset, .unset] [(.long q1)])) rfl (hb hby at_117)) _ ?_
        show Steps p.tables e below (T6.setTop (mkF m 120 #[.val (.long q1), .second, .val (.long q2), .second, .val (.int p3), .val (.int p4), .val (.int (0 : Int32)), .val (.ref s_CheckProfile_G821), .val (.long (q2 &&& (4503599627370495 : Int64))), .second, .val (.long (own_v0_42 q2 p3)), .second, .val (.long ((own_v0_42 q2 p3) / (1000 : Int64))), .second, .val (.long ((own_v0_42 q2 p3) - (own_v0_42 q2 p3) / (1000 : Int64) * (1000 : Int64))), .second, .unset, .unset, .unset] [(.long (4503599627370495 : Int64)), (.long q1)])) _
        refine XS.land X6.here hx rfl (hb hby at_120) rfl ?_
        show Steps p.tables e below (T6.setTop (mkF m 121 #[.val (.long q1), .second, .val (.long q2), .second, .val (.int p3), .val (.int p4), .val (.int (0 : Int32)), .val (.ref s_CheckProfile_G821), .val (.long (q2 &&& (4503599627370495 : Int64))), .second, .val (.long (own_v0_42 q2 p3)), .second, .val (.long ((own_v0_42 q2 p3) / (1000 : Int64))), .second, .val (.long ((own_v0_42 q2 p3) - (own_v0_42 q2 p3) / (1000 : Int64) * (1000 : Int64))), .second, .unset, .unset, .unset] [(.long (q1 &&& (4503599627370495 : Int64)))])) _
        refine XS.lstore X6.here hx rfl (hb hby at_121) rfl (l' := #[.val (.long q1), .second, .val (.long q2), .second, .val (.int p3), .val (.int p4), .val (.int (0 : Int32)), .val (.ref s_CheckProfile_G821), .val (.long (q2 &&& (4503599627370495 : Int64))), .second, .val (.long (own_v0_42 q2 p3)), .second, .val (.long ((own_v0_42 q2 p3) / (1000 : Int64))), .second, .val (.long ((own_v0_42 q2 p3) - (own_v0_42 q2 p3) / (1000 : Int64) * (1000 : Int64))), .second, .val (.long (q1 &&& (4503599627370495 : Int64))), .second, .unset]) rfl ?_
        show Steps p.tables e below (T6.setTop (mkF m 123 #[.val (.long q1), .second, .val (.long q2), .second, .val (.int p3), .val (.int p4), .val (.int (0 : Int32)), .val (.ref s_CheckProfile_G821), .val (.long (q2 &&& (4503599627370495 : Int64))), .second, .val (.long (own_v0_42 q2 p3)), .second, .val (.long ((own_v0_42 q2 p3) / (1000 : Int64))), .second, .val (.long ((own_v0_42 q2 p3) - (own_v0_42 q2 p3) / (1000 : Int64) * (1000 : Int64))), .second, .val (.long (q1 &&& (4503599627370495 : Int64))), .second, .unset] [])) _
        rw [show (own_v0_86 q1 q2 p3) = (q1 &&& (4503599627370495 : Int64)) from ((if_neg hc8_86).trans rfl)] at kt
        exact kt
    show own_Go p.tables e below _ (T6.setTop (mkF m 123 #[.val (.long q1), .second, .val (.long q2), .second, .val (.int p3), .val (.int p4), .val (.int (0 : Int32)), .val (.ref s_CheckProfile_G821), .val (.long (q2 &&& (4503599627370495 : Int64))), .second, .val (.long (own_v0_42 q2 p3)), .second, .val (.long ((own_v0_42 q2 p3) / (1000 : Int64))), .second, .val (.long ((own_v0_42 q2 p3) - (own_v0_42 q2 p3) / (1000 : Int64) * (1000 : Int64))), .second, .val (.long (own_v0_86 q1 q2 p3)), .second, .unset] []))
    refine own_go (fun _ => XS.lload X6.here hx rfl (hb hby at_123) rfl) ?_
    show own_Go p.tables e below _ (T6.setTop (mkF m 125 #[.val (.long q1), .second, .val (.long q2), .second, .val (.int p3), .val (.int p4), .val (.int (0 : Int32)), .val (.ref s_CheckProfile_G821), .val (.long (q2 &&& (4503599627370495 : Int64))), .second, .val (.long (own_v0_42 q2 p3)), .second, .val (.long ((own_v0_42 q2 p3) / (1000 : Int64))), .second, .val (.long ((own_v0_42 q2 p3) - (own_v0_42 q2 p3) / (1000 : Int64) * (1000 : Int64))), .second, .val (.long (own_v0_86 q1 q2 p3)), .second, .unset] [(.long (own_v0_86 q1 q2 p3))]))
    refine own_go (fun _ => XS.lload X6.here hx rfl (hb hby at_125) rfl) ?_
    show own_Go p.tables e below _ (T6.setTop (mkF m 127 #[.val (.long q1), .second, .val (.long q2), .second, .val (.int p3), .val (.int p4), .val (.int (0 : Int32)), .val (.ref s_CheckProfile_G821), .val (.long (q2 &&& (4503599627370495 : Int64))), .second, .val (.long (own_v0_42 q2 p3)), .second, .val (.long ((own_v0_42 q2 p3) / (1000 : Int64))), .second, .val (.long ((own_v0_42 q2 p3) - (own_v0_42 q2 p3) / (1000 : Int64) * (1000 : Int64))), .second, .val (.long (own_v0_86 q1 q2 p3)), .second, .unset] [(.long ((own_v0_42 q2 p3) / (1000 : Int64))), (.long (own_v0_86 q1 q2 p3))]))
    refine own_go (fun _ => XS.lcmp X6.here hx rfl (hb hby at_127) rfl) ?_
    refine own_go (S' := T6.setTop (mkF m 156 #[.val (.long q1), .second, .val (.long q2), .second, .val (.int p3), .val (.int p4), .val (.int (0 : Int32)), .val (.ref s_CheckProfile_G821), .val (.long (q2 &&& (4503599627370495 : Int64))), .second, .val (.long (own_v0_42 q2 p3)), .second, .val (.long ((own_v0_42 q2 p3) / (1000 : Int64))), .second, .val (.long ((own_v0_42 q2 p3) - (own_v0_42 q2 p3) / (1000 : Int64) * (1000 : Int64))), .second, .val (.long (own_v0_86 q1 q2 p3)), .second, .unset] [(.int (own_v0_128 q1 q2 p3))])) (fun t kt => ?_) ?_
    · skip
      show Steps p.tables e below (T6.setTop (mkF m 128 #[.val (.long q1), .second, .val (.long q2), .second, .val (.int p3), .val (.int p4), .val (.int (0 : Int32)), .val (.ref s_CheckProfile_G821), .val (.long (q2 &&& (4503599627370495 : Int64))), .second, .val (.long (own_v0_42 q2 p3)), .second, .val (.long ((own_v0_42 q2 p3) / (1000 : Int64))), .second, .val (.long ((own_v0_42 q2 p3) - (own_v0_42 q2 p3) / (1000 : Int64) * (1000 : Int64))), .second, .val (.long (own_v0_86 q1 q2 p3)), .second, .unset] [(.int (lcmpW (own_v0_86 q1 q2 p3) ((own_v0_42 q2 p3) / (1000 : Int64))))])) _
      by_cases hc10_128 : (0 : Int32) < (lcmpW (own_v0_86 q1 q2 p3) ((own_v0_42 q2 p3) / (1000 : Int64)))
      · skip
        refine XS.ifYes X6.here hx rfl (pc0 := 128) (pc' := 151) rfl (hb hby at_128) rfl ((if0 _ _).trans (tlt hc10_128).2.2.1) (by decide) (by decide) ?_
        show Steps p.tables e below (T6.setTop (mkF m 151 #[.val (.long q1), .second, .val (.long q2), .second, .val (.int p3), .val (.int p4), .val (.int (0 : Int32)), .val (.ref s_CheckProfile_G821), .val (.long (q2 &&& (4503599627370495 : Int64))), .second, .val (.long (own_v0_42 q2 p3)), .second, .val (.long ((own_v0_42 q2 p3) / (1000 : Int64))), .second, .val (.long ((own_v0_42 q2 p3) - (own_v0_42 q2 p3) / (1000 : Int64) * (1000 : Int64))), .second, .val (.long (own_v0_86 q1 q2 p3)), .second, .unset] [])) _
        refine XS.iconst X6.here hx rfl (hb hby at_151) ?_
        show Steps p.tables e below (T6.setTop (mkF m 152 #[.val (.long q1), .second, .val (.long q2), .second, .val (.int p3), .val (.int p4), .val (.int (0 : Int32)), .val (.ref s_CheckProfile_G821), .val (.long (q2 &&& (4503599627370495 : Int64))), .second, .val (.long (own_v0_42 q2 p3)), .second, .val (.long ((own_v0_42 q2 p3) / (1000 : Int64))), .second, .val (.long ((own_v0_42 q2 p3) - (own_v0_42 q2 p3) / (1000 : Int64) * (1000 : Int64))), .second, .val (.long (own_v0_86 q1 q2 p3)), .second, .unset] [(.int (1 : Int32))])) _
        refine XS.goto X6.here hx rfl (pc0 := 152) (pc' := 156) rfl (hb hby at_152) (by decide) (by decide) ?_
        show Steps p.tables e below (T6.setTop (mkF m 156 #[.val (.long q1), .second, .val (.long q2), .second, .val (.int p3), .val (.int p4), .val (.int (0 : Int32)), .val (.ref s_CheckProfile_G821), .val (.long (q2 &&& (4503599627370495 : Int64))), .second, .val (.long (own_v0_42 q2 p3)), .second, .val (.long ((own_v0_42 q2 p3) / (1000 : Int64))), .second, .val (.long ((own_v0_42 q2 p3) - (own_v0_42 q2 p3) / (1000 : Int64) * (1000 : Int64))), .second, .val (.long (own_v0_86 q1 q2 p3)), .second, .unset] [(.int (1 : Int32))])) _
        rw [show (own_v0_128 q1 q2 p3) = (1 : Int32) from ((if_pos hc10_128).trans rfl)] at kt
        exact kt
      · skip
        refine XS.ifNo X6.here hx rfl (hb hby at_128) rfl ((if0 _ _).trans (flt hc10_128).2.2.1) ?_
        show Steps p.tables e below (T6.setTop (mkF m 131 #[.val (.long q1), .second, .val (.long q2), .second, .val (.int p3), .val (.int p4), .val (.int (0 : Int32)), .val (.ref s_CheckProfile_G821), .val (.long (q2 &&& (4503599627370495 : Int64))), .second, .val (.long (own_v0_42 q2 p3)), .second, .val (.long ((own_v0_42 q2 p3) / (1000 : Int64))), .second, .val (.long ((own_v0_42 q2 p3) - (own_v0_42 q2 p3) / (1000 : Int64) * (1000 : Int64))), .second, .val (.long (own_v0_86 q1 q2 p3)), .second, .unset] [])) _
        refine XS.iload X6.here hx rfl (hb hby at_131) rfl ?_
        show Steps p.tables e below (T6.setTop (mkF m 133 #[.val (.long q1), .second, .val (.long q2), .second, .val (.int p3), .val (.int p4), .val (.int (0 : Int32)), .val (.ref s_CheckProfile_G821), .val (.long (q2 &&& (4503599627370495 : Int64))), .second, .val (.long (own_v0_42 q2 p3)), .second, .val (.long ((own_v0_42 q2 p3) / (1000 : Int64))), .second, .val (.long ((own_v0_42 q2 p3) - (own_v0_42 q2 p3) / (1000 : Int64) * (1000 : Int64))), .second, .val (.long (own_v0_86 q1 q2 p3)), .second, .unset] [(.int (0 : Int32))])) _
        refine XS.ifYes X6.here hx rfl (pc0 := 133) (pc' := 155) rfl (hb hby at_133) rfl ((if0 _ _).trans (teq (by decide : (0 : Int32) = (0 : Int32))).1) (by decide) (by decide) ?_
        show Steps p.tables e below (T6.setTop (mkF m 155 #[.val (.long q1), .second, .val (.long q2), .second, .val (.int p3), .val (.int p4), .val (.int (0 : Int32)), .val (.ref s_CheckProfile_G821), .val (.long (q2 &&& (4503599627370495 : Int64))), .second, .val (.long (own_v0_42 q2 p3)), .second, .val (.long ((own_v0_42 q2 p3) / (1000 : Int64))), .second, .val (.long ((own_v0_42 q2 p3) - (own_v0_42 q2 p3) / (1000 : Int64) * (1000 : Int64))), .second, .val (.long (own_v0_86 q1 q2 p3)), .second, .unset] [])) _
        refine XS.iconst X6.here hx rfl (hb hby at_155) ?_
        show Steps p.tables e below (T6.setTop (mkF m 156 #[.val (.long q1), .second, .val (.long q2), .second, .val (.int p3), .val (.int p4), .val (.int (0 : Int32)), .val (.ref s_CheckProfile_G821), .val (.long (q2 &&& (4503599627370495 : Int64))), .second, .val (.long (own_v0_42 q2 p3)), .second, .val (.long ((own_v0_42 q2 p3) / (1000 : Int64))), .second, .val (.long ((own_v0_42 q2 p3) - (own_v0_42 q2 p3) / (1000 : Int64) * (1000 : Int64))), .second, .val (.long (own_v0_86 q1 q2 p3)), .second, .unset] [(.int (0 : Int32))])) _
        rw [show (own_v0_128 q1 q2 p3) = (0 : Int32) from ((if_neg hc10_128).trans rfl)] at kt
        exact kt
    show own_Go p.tables e below _ (T6.setTop (mkF m 156 #[.val (.long q1), .second, .val (.long q2), .second, .val (.int p3), .val (.int p4), .val (.int (0 : Int32)), .val (.ref s_CheckProfile_G821), .val (.long (q2 &&& (4503599627370495 : Int64))), .second, .val (.long (own_v0_42 q2 p3)), .second, .val (.long ((own_v0_42 q2 p3) / (1000 : Int64))), .second, .val (.long ((own_v0_42 q2 p3) - (own_v0_42 q2 p3) / (1000 : Int64) * (1000 : Int64))), .second, .val (.long (own_v0_86 q1 q2 p3)), .second, .unset] [(.int (own_v0_128 q1 q2 p3))]))
    refine own_go (fun _ => XS.istore X6.here hx rfl (hb hby at_156) rfl (l' := #[.val (.long q1), .second, .val (.long q2), .second, .val (.int p3), .val (.int p4), .val (.int (0 : Int32)), .val (.ref s_CheckProfile_G821), .val (.long (q2 &&& (4503599627370495 : Int64))), .second, .val (.long (own_v0_42 q2 p3)), .second, .val (.long ((own_v0_42 q2 p3) / (1000 : Int64))), .second, .val (.long ((own_v0_42 q2 p3) - (own_v0_42 q2 p3) / (1000 : Int64) * (1000 : Int64))), .second, .val (.long (own_v0_86 q1 q2 p3)), .second, .val (.int (own_v0_128 q1 q2 p3))]) rfl) ?_
    show own_Go p.tables e below _ (T6.setTop (mkF m 158 #[.val (.long q1), .second, .val (.long q2), .second, .val (.int p3), .val (.int p4), .val (.int (0 : Int32)), .val (.ref s_CheckProfile_G821), .val (.long (q2 &&& (4503599627370495 : Int64))), .second, .val (.long (own_v0_42 q2 p3)), .second, .val (.long ((own_v0_42 q2 p3) / (1000 : Int64))), .second, .val (.long ((own_v0_42 q2 p3) - (own_v0_42 q2 p3) / (1000 : Int64) * (1000 : Int64))), .second, .val (.long (own_v0_86 q1 q2 p3)), .second, .val (.int (own_v0_128 q1 q2 p3))] []))
    refine own_go (fun _ => XS.aload X6.here hx rfl (hb hby at_158) rfl rfl) ?_
    show own_Go p.tables e below _ (T6.setTop (mkF m 160 #[.val (.long q1), .second, .val (.long q2), .second, .val (.int p3), .val (.int p4), .val (.int (0 : Int32)), .val (.ref s_CheckProfile_G821), .val (.long (q2 &&& (4503599627370495 : Int64))), .second, .val (.long (own_v0_42 q2 p3)), .second, .val (.long ((own_v0_42 q2 p3) / (1000 : Int64))), .second, .val (.long ((own_v0_42 q2 p3) - (own_v0_42 q2 p3) / (1000 : Int64) * (1000 : Int64))), .second, .val (.long (own_v0_86 q1 q2 p3)), .second, .val (.int (own_v0_128 q1 q2 p3))] [(.ref s_CheckProfile_G821)]))
    refine own_go (fun _ => XS.lload X6.here hx rfl (hb hby at_160) rfl) ?_
    show own_Go p.tables e below _ (T6.setTop (mkF m 162 #[.val (.long q1), .second, .val (.long q2), .second, .val (.int p3), .val (.int p4), .val (.int (0 : Int32)), .val (.ref s_CheckProfile_G821), .val (.long (q2 &&& (4503599627370495 : Int64))), .second, .val (.long (own_v0_42 q2 p3)), .second, .val (.long ((own_v0_42 q2 p3) / (1000 : Int64))), .second, .val (.long ((own_v0_42 q2 p3) - (own_v0_42 q2 p3) / (1000 : Int64) * (1000 : Int64))), .second, .val (.long (own_v0_86 q1 q2 p3)), .second, .val (.int (own_v0_128 q1 q2 p3))] [(.long (own_v0_86 q1 q2 p3)), (.ref s_CheckProfile_G821)]))
    refine own_go (fun _ => XS.lload X6.here hx rfl (hb hby at_162) rfl) ?_
    show own_Go p.tables e below _ (T6.setTop (mkF m 164 #[.val (.long q1), .second, .val (.long q2), .second, .val (.int p3), .val (.int p4), .val (.int (0 : Int32)), .val (.ref s_CheckProfile_G821), .val (.long (q2 &&& (4503599627370495 : Int64))), .second, .val (.long (own_v0_42 q2 p3)), .second, .val (.long ((own_v0_42 q2 p3) / (1000 : Int64))), .second, .val (.long ((own_v0_42 q2 p3) - (own_v0_42 q2 p3) / (1000 : Int64) * (1000 : Int64))), .second, .val (.long (own_v0_86 q1 q2 p3)), .second, .val (.int (own_v0_128 q1 q2 p3))] [(.long (own_v0_42 q2 p3)), (.long (own_v0_86 q1 q2 p3)), (.ref s_CheckProfile_G821)]))
    obtain ⟨cq11, kq11, q11a, q11b, q11c⟩ := isOf hZ e6 E_s_CheckProfile_G821
    obtain ⟨_, _, ⟨T11, L11, k11, n11⟩, -, X11, ⟨Lc11, hQ11, l11, y11, z11⟩, st11⟩ := X6.virtualBack hx (y := (⟨"com/example/pathgauge/pathgauge/prbs/CheckProfile", "severe", "(JJ)Z"⟩ : MethodName)) (z := (⟨"com/example/pathgauge/pathgauge/prbs/CheckProfile", "severe", "(JJ)Z"⟩ : MethodName)) hown (mvT hZ (hw _ (List.mem_of_getElem? (i := 5) rfl))) (mvT hZ (hw _ (List.mem_of_getElem? (i := 6) rfl))) (notFace_of_selects (args := #[]) (mvT hZ (hw _ (List.mem_of_getElem? (i := 8) rfl)))) (mvT hZ (hw _ (List.mem_of_getElem? (i := 8) rfl))) (mvT hZ (hw _ (List.mem_of_getElem? (i := 7) rfl))) (by decide) (backOf (W := 0) (rm1 l Z a0 hw [] s_CheckProfile_G821 (own_v0_86 q1 q2 p3) (own_v0_42 q2 p3) (0 : Int32) h0 n0 Z0 F_ti_s_CheckProfile_G821) hZ (hw _ (List.mem_of_getElem? (i := 9) rfl)) (hw _ (List.mem_of_getElem? (i := 1) rfl)) (by decide) (by decide)) q11a q11c (g := (mkF m 164 #[.val (.long q1), .second, .val (.long q2), .second, .val (.int p3), .val (.int p4), .val (.int (0 : Int32)), .val (.ref s_CheckProfile_G821), .val (.long (q2 &&& (4503599627370495 : Int64))), .second, .val (.long (own_v0_42 q2 p3)), .second, .val (.long ((own_v0_42 q2 p3) / (1000 : Int64))), .second, .val (.long ((own_v0_42 q2 p3) - (own_v0_42 q2 p3) / (1000 : Int64) * (1000 : Int64))), .second, .val (.long (own_v0_86 q1 q2 p3)), .second, .val (.int (own_v0_128 q1 q2 p3))] [(.long (own_v0_42 q2 p3)), (.long (own_v0_86 q1 q2 p3)), (.ref s_CheckProfile_G821)])) rfl (by rw [hml]; rfl) (Steps.refl _) (argsL := [(.long (own_v0_86 q1 q2 p3)), (.long (own_v0_42 q2 p3))]) (rest := []) (lenOf pd_0 rfl) rfl (by show 2 * 0 + _ ≤ _; exact Nat.le_of_eq rfl) (hb hby at_164) (fun _ _ => ⟨rfl, e6, (by decide : 0 + 0 ≤ _), (by decide : 0 + 0 ≤ _)⟩)
    dsimp only [Pt.U, Pt.locs, Pt.cells, Pt.slots] at X11 l11 y11 z11 st11 hQ11
    subst l11 y11 z11
    obtain ⟨rfl, N11q, e11⟩ := hQ11
    have N11 := Fr.app N0 N11q
    refine own_via st11 ?_
    show own_Go p.tables e below _ (T11.setTop (mkF m 167 #[.val (.long q1), .second, .val (.long q2), .second, .val (.int p3), .val (.int p4), .val (.int (0 : Int32)), .val (.ref s_CheckProfile_G821), .val (.long (q2 &&& (4503599627370495 : Int64))), .second, .val (.long (own_v0_42 q2 p3)), .second, .val (.long ((own_v0_42 q2 p3) / (1000 : Int64))), .second, .val (.long ((own_v0_42 q2 p3) - (own_v0_42 q2 p3) / (1000 : Int64) * (1000 : Int64))), .second, .val (.long (own_v0_86 q1 q2 p3)), .second, .val (.int (own_v0_128 q1 q2 p3))] [(.int (own_f1 (own_v0_86 q1 q2 p3) (own_v0_42 q2 p3) (0 : Int32)))]))
    refine own_go (fun _ => XS.iload X11.here hx rfl (hb hby at_167) rfl) ?_
    show own_Go p.tables e below _ (T11.setTop (mkF m 169 #[.val (.long q1), .second, .val (.long q2), .second, .val (.int p3), .val (.int p4), .val (.int (0 : Int32)), .val (.ref s_CheckProfile_G821), .val (.long (q2 &&& (4503599627370495 : Int64))), .second, .val (.long (own_v0_42 q2 p3)), .second, .val (.long ((own_v0_42 q2 p3) / (1000 : Int64))), .second, .val (.long ((own_v0_42 q2 p3) - (own_v0_42 q2 p3) / (1000 : Int64) * (1000 : Int64))), .second, .val (.long (own_v0_86 q1 q2 p3)), .second, .val (.int (own_v0_128 q1 q2 p3))] [(.int (own_v0_128 q1 q2 p3)), (.int (own_f1 (own_v0_86 q1 q2 p3) (own_v0_42 q2 p3) (0 : Int32)))]))
    by_cases hc12_169 : (own_f1 (own_v0_86 q1 q2 p3) (own_v0_42 q2 p3) (0 : Int32)) = (own_v0_128 q1 q2 p3)
    · skip
      refine own_go (fun _ => XS.icmpNo X11.here hx rfl (hb hby at_169) rfl (teq hc12_169).2) ?_
      show own_Go p.tables e below _ (T11.setTop (mkF m 172 #[.val (.long q1), .second, .val (.long q2), .second, .val (.int p3), .val (.int p4), .val (.int (0 : Int32)), .val (.ref s_CheckProfile_G821), .val (.long (q2 &&& (4503599627370495 : Int64))), .second, .val (.long (own_v0_42 q2 p3)), .second, .val (.long ((own_v0_42 q2 p3) / (1000 : Int64))), .second, .val (.long ((own_v0_42 q2 p3) - (own_v0_42 q2 p3) / (1000 : Int64) * (1000 : Int64))), .second, .val (.long (own_v0_86 q1 q2 p3)), .second, .val (.int (own_v0_128 q1 q2 p3))] []))
      refine own_go (fun _ => XS.iconst X11.here hx rfl (hb hby at_172)) ?_
      show own_Go p.tables e below _ (T11.setTop (mkF m 173 #[.val (.long q1), .second, .val (.long q2), .second, .val (.int p3), .val (.int p4), .val (.int (0 : Int32)), .val (.ref s_CheckProfile_G821), .val (.long (q2 &&& (4503599627370495 : Int64))), .second, .val (.long (own_v0_42 q2 p3)), .second, .val (.long ((own_v0_42 q2 p3) / (1000 : Int64))), .second, .val (.long ((own_v0_42 q2 p3) - (own_v0_42 q2 p3) / (1000 : Int64) * (1000 : Int64))), .second, .val (.long (own_v0_86 q1 q2 p3)), .second, .val (.int (own_v0_128 q1 q2 p3))] [(.int (1 : Int32))]))
      refine own_go (fun _ => XS.goto X11.here hx rfl (pc0 := 173) (pc' := 177) rfl (hb hby at_173) (by decide) (by decide)) ?_
      show own_Go p.tables e below _ (T11.setTop (mkF m 177 #[.val (.long q1), .second, .val (.long q2), .second, .val (.int p3), .val (.int p4), .val (.int (0 : Int32)), .val (.ref s_CheckProfile_G821), .val (.long (q2 &&& (4503599627370495 : Int64))), .second, .val (.long (own_v0_42 q2 p3)), .second, .val (.long ((own_v0_42 q2 p3) / (1000 : Int64))), .second, .val (.long ((own_v0_42 q2 p3) - (own_v0_42 q2 p3) / (1000 : Int64) * (1000 : Int64))), .second, .val (.long (own_v0_86 q1 q2 p3)), .second, .val (.int (own_v0_128 q1 q2 p3))] [(.int (1 : Int32))]))
      refine own_retN X11 Bd.notSynchronized hx (t := .boolean) Bd.returns (by simp) (hb hby at_177) (show Q0 Z q1 q2 p3 p4 s_CheckProfile_M2100 s_CheckProfile_G821 h0 n0 _ T11.heap _ from by rw [e11]; exact ⟨(own_val ((if_pos hc5_4).trans ((if_pos hc12_169).trans rfl))), N11⟩) (by decide) (by decide)
    · skip
      refine own_go (fun _ => XS.icmpYes X11.here hx rfl (pc0 := 169) (pc' := 176) rfl (hb hby at_169) rfl (feq hc12_169).2 (by decide) (by decide)) ?_
      show own_Go p.tables e below _ (T11.setTop (mkF m 176 #[.val (.long q1), .second, .val (.long q2), .second, .val (.int p3), .val (.int p4), .val (.int (0 : Int32)), .val (.ref s_CheckProfile_G821), .val (.long (q2 &&& (4503599627370495 : Int64))), .second, .val (.long (own_v0_42 q2 p3)), .second, .val (.long ((own_v0_42 q2 p3) / (1000 : Int64))), .second, .val (.long ((own_v0_42 q2 p3) - (own_v0_42 q2 p3) / (1000 : Int64) * (1000 : Int64))), .second, .val (.long (own_v0_86 q1 q2 p3)), .second, .val (.int (own_v0_128 q1 q2 p3))] []))
      refine own_go (fun _ => XS.iconst X11.here hx rfl (hb hby at_176)) ?_
      show own_Go p.tables e below _ (T11.setTop (mkF m 177 #[.val (.long q1), .second, .val (.long q2), .second, .val (.int p3), .val (.int p4), .val (.int (0 : Int32)), .val (.ref s_CheckProfile_G821), .val (.long (q2 &&& (4503599627370495 : Int64))), .second, .val (.long (own_v0_42 q2 p3)), .second, .val (.long ((own_v0_42 q2 p3) / (1000 : Int64))), .second, .val (.long ((own_v0_42 q2 p3) - (own_v0_42 q2 p3) / (1000 : Int64) * (1000 : Int64))), .second, .val (.long (own_v0_86 q1 q2 p3)), .second, .val (.int (own_v0_128 q1 q2 p3))] [(.int (0 : Int32))]))
      refine own_retN X11 Bd.notSynchronized hx (t := .boolean) Bd.returns (by simp) (hb hby at_177) (show Q0 Z q1 q2 p3 p4 s_CheckProfile_M2100 s_CheckProfile_G821 h0 n0 _ T11.heap _ from by rw [e11]; exact ⟨(own_val ((if_pos hc5_4).trans ((if_neg hc12_169).trans rfl))), N11⟩) (by decide) (by decide)
  · skip
    refine own_go (fun _ => XS.ifNo X0.here hx rfl (hb hby at_4) rfl ((if0 _ _).trans (feq hc5_4).1)) ?_
    show own_Go p.tables e below _ (s₁.setTop (mkF m 7 #[.val (.long q1), .second, .val (.long q2), .second, .val (.int p3), .val (.int p4), .unset, .unset, .unset, .unset, .unset, .unset, .unset, .unset, .unset, .unset, .unset, .unset, .unset] []))
    refine own_go (fun _ => XS.iconst X0.here hx rfl (hb hby at_7)) ?_
    show own_Go p.tables e below _ (s₁.setTop (mkF m 8 #[.val (.long q1), .second, .val (.long q2), .second, .val (.int p3), .val (.int p4), .unset, .unset, .unset, .unset, .unset, .unset, .unset, .unset, .unset, .unset, .unset, .unset, .unset] [(.int (1 : Int32))]))
    refine own_go (fun _ => XS.goto X0.here hx rfl (pc0 := 8) (pc' := 12) rfl (hb hby at_8) (by decide) (by decide)) ?_
    show own_Go p.tables e below _ (s₁.setTop (mkF m 12 #[.val (.long q1), .second, .val (.long q2), .second, .val (.int p3), .val (.int p4), .unset, .unset, .unset, .unset, .unset, .unset, .unset, .unset, .unset, .unset, .unset, .unset, .unset] [(.int (1 : Int32))]))
    refine own_go (fun _ => XS.istore X0.here hx rfl (hb hby at_12) rfl (l' := #[.val (.long q1), .second, .val (.long q2), .second, .val (.int p3), .val (.int p4), .val (.int (1 : Int32)), .unset, .unset, .unset, .unset, .unset, .unset, .unset, .unset, .unset, .unset, .unset, .unset]) rfl) ?_
    show own_Go p.tables e below _ (s₁.setTop (mkF m 14 #[.val (.long q1), .second, .val (.long q2), .second, .val (.int p3), .val (.int p4), .val (.int (1 : Int32)), .unset, .unset, .unset, .unset, .unset, .unset, .unset, .unset, .unset, .unset, .unset, .unset] []))
    refine own_go (fun _ => XS.iload X0.here hx rfl (hb hby at_14) rfl) ?_
    show own_Go p.tables e below _ (s₁.setTop (mkF m 16 #[.val (.long q1), .second, .val (.long q2), .second, .val (.int p3), .val (.int p4), .val (.int (1 : Int32)), .unset, .unset, .unset, .unset, .unset, .unset, .unset, .unset, .unset, .unset, .unset, .unset] [(.int (1 : Int32))]))
    refine own_go (fun _ => XS.ifNo X0.here hx rfl (hb hby at_16) rfl ((if0 _ _).trans (feq (by decide : ¬ ((1 : Int32) = (0 : Int32)))).1)) ?_
    show own_Go p.tables e below _ (s₁.setTop (mkF m 19 #[.val (.long q1), .second, .val (.long q2), .second, .val (.int p3), .val (.int p4), .val (.int (1 : Int32)), .unset, .unset, .unset, .unset, .unset, .unset, .unset, .unset, .unset, .unset, .unset, .unset] []))
    obtain ⟨T13, X13, e13, st13⟩ := getS2 X0 hx hZ hown (host := "") (Or.inl (hw _ (List.mem_of_getElem? (i := 0) rfl))) Via.refl e0 (S_CheckProfile_M2100.ext O0.2) (g := (mkF m 19 #[.val (.long q1), .second, .val (.long q2), .second, .val (.int p3), .val (.int p4), .val (.int (1 : Int32)), .unset, .unset, .unset, .unset, .unset, .unset, .unset, .unset, .unset, .unset, .unset, .unset] [])) rfl (hb hby at_19)
    refine own_go st13 ?_
    show own_Go p.tables e below _ (T13.setTop (mkF m 22 #[.val (.long q1), .second, .val (.long q2), .second, .val (.int p3), .val (.int p4), .val (.int (1 : Int32)), .unset, .unset, .unset, .unset, .unset, .unset, .unset, .unset, .unset, .unset, .unset, .unset] [(.ref s_CheckProfile_M2100)]))
    refine own_go (fun _ => XS.goto X13.here hx rfl (pc0 := 22) (pc' := 28) rfl (hb hby at_22) (by decide) (by decide)) ?_
    show own_Go p.tables e below _ (T13.setTop (mkF m 28 #[.val (.long q1), .second, .val (.long q2), .second, .val (.int p3), .val (.int p4), .val (.int (1 : Int32)), .unset, .unset, .unset, .unset, .unset, .unset, .unset, .unset, .unset, .unset, .unset, .unset] [(.ref s_CheckProfile_M2100)]))
    refine own_go (fun _ => XS.astore X13.here hx rfl (hb hby at_28) rfl rfl (l' := #[.val (.long q1), .second, .val (.long q2), .second, .val (.int p3), .val (.int p4), .val (.int (1 : Int32)), .val (.ref s_CheckProfile_M2100), .unset, .unset, .unset, .unset, .unset, .unset, .unset, .unset, .unset, .unset, .unset]) rfl) ?_
    show own_Go p.tables e below _ (T13.setTop (mkF m 30 #[.val (.long q1), .second, .val (.long q2), .second, .val (.int p3), .val (.int p4), .val (.int (1 : Int32)), .val (.ref s_CheckProfile_M2100), .unset, .unset, .unset, .unset, .unset, .unset, .unset, .unset, .unset, .unset, .unset] []))
    refine own_go (fun _ => XS.lloadN X13.here hx rfl (hb hby at_30) rfl) ?_
    show own_Go p.tables e below _ (T13.setTop (mkF m 31 #[.val (.long q1), .second, .val (.long q2), .second, .val (.int p3), .val (.int p4), .val (.int (1 : Int32)), .val (.ref s_CheckProfile_M2100), .unset, .unset, .unset, .unset, .unset, .unset, .unset, .unset, .unset, .unset, .unset] [(.long q2)]))
    refine own_go (X13.ldc2Long hx hown (mvT hZ (hw _ (List.mem_of_getElem? (i := 3) rfl))) (g := (mkF m 31 #[.val (.long q1), .second, .val (.long q2), .second, .val (.int p3), .val (.int p4), .val (.int (1 : Int32)), .val (.ref s_CheckProfile_M2100), .unset, .unset, .unset, .unset, .unset, .unset, .unset, .unset, .unset, .unset, .unset] [(.long q2)])) rfl (hb hby at_31)) ?_
    show own_Go p.tables e below _ (T13.setTop (mkF m 34 #[.val (.long q1), .second, .val (.long q2), .second, .val (.int p3), .val (.int p4), .val (.int (1 : Int32)), .val (.ref s_CheckProfile_M2100), .unset, .unset, .unset, .unset, .unset, .unset, .unset, .unset, .unset, .unset, .unset] [(.long (4503599627370495 : Int64)), (.long q2)]))
    refine own_go (fun _ => XS.land X13.here hx rfl (hb hby at_34) rfl) ?_
    show own_Go p.tables e below _ (T13.setTop (mkF m 35 #[.val (.long q1), .second, .val (.long q2), .second, .val (.int p3), .val (.int p4), .val (.int (1 : Int32)), .val (.ref s_CheckProfile_M2100), .unset, .unset, .unset, .unset, .unset, .unset, .unset, .unset, .unset, .unset, .unset] [(.long (q2 &&& (4503599627370495 : Int64)))]))
    refine own_go (fun _ => XS.lstore X13.here hx rfl (hb hby at_35) rfl (l' := #[.val (.long q1), .second, .val (.long q2), .second, .val (.int p3), .val (.int p4), .val (.int (1 : Int32)), .val (.ref s_CheckProfile_M2100), .val (.long (q2 &&& (4503599627370495 : Int64))), .second, .unset, .unset, .unset, .unset, .unset, .unset, .unset, .unset, .unset]) rfl) ?_
    show own_Go p.tables e below _ (T13.setTop (mkF m 37 #[.val (.long q1), .second, .val (.long q2), .second, .val (.int p3), .val (.int p4), .val (.int (1 : Int32)), .val (.ref s_CheckProfile_M2100), .val (.long (q2 &&& (4503599627370495 : Int64))), .second, .unset, .unset, .unset, .unset, .unset, .unset, .unset, .unset, .unset] []))
    refine own_go (fun _ => XS.iload X13.here hx rfl (hb hby at_37) rfl) ?_
    show own_Go p.tables e below _ (T13.setTop (mkF m 39 #[.val (.long q1), .second, .val (.long q2), .second, .val (.int p3), .val (.int p4), .val (.int (1 : Int32)), .val (.ref s_CheckProfile_M2100), .val (.long (q2 &&& (4503599627370495 : Int64))), .second, .unset, .unset, .unset, .unset, .unset, .unset, .unset, .unset, .unset] [(.int p3)]))
    refine own_go (fun _ => XS.bipush X13.here hx rfl (hb hby at_39)) ?_
    show own_Go p.tables e below _ (T13.setTop (mkF m 41 #[.val (.long q1), .second, .val (.long q2), .second, .val (.int p3), .val (.int p4), .val (.int (1 : Int32)), .val (.ref s_CheckProfile_M2100), .val (.long (q2 &&& (4503599627370495 : Int64))), .second, .unset, .unset, .unset, .unset, .unset, .unset, .unset, .unset, .unset] [(.int (8 : Int32)), (.int p3)]))
    refine own_go (fun _ => XS.iand X13.here hx rfl (hb hby at_41) rfl) ?_
    refine own_go (S' := T13.setTop (mkF m 64 #[.val (.long q1), .second, .val (.long q2), .second, .val (.int p3), .val (.int p4), .val (.int (1 : Int32)), .val (.ref s_CheckProfile_M2100), .val (.long (q2 &&& (4503599627370495 : Int64))), .second, .unset, .unset, .unset, .unset, .unset, .unset, .unset, .unset, .unset] [(.long (own_v0_42 q2 p3))])) (fun t kt => ?_) ?_
    · skip
      show Steps p.tables e below (T13.setTop (mkF m 42 #[.val (.long q1), .second, .val (.long q2), .second, .val (.int p3), .val (.int p4), .val (.int (1 : Int32)), .val (.ref s_CheckProfile_M2100), .val (.long (q2 &&& (4503599627370495 : Int64))), .second, .unset, .unset, .unset, .unset, .unset, .unset, .unset, .unset, .unset] [(.int (p3 &&& (8 : Int32)))])) _
      by_cases hc14_42 : (p3 &&& (8 : Int32)) = (0 : Int32)
      · skip
        refine XS.ifYes X13.here hx rfl (pc0 := 42) (pc' := 60) rfl (hb hby at_42) rfl ((if0 _ _).trans (teq hc14_42).1) (by decide) (by decide) ?_
        show Steps p.tables e below (T13.setTop (mkF m 60 #[.val (.long q1), .second, .val (.long q2), .second, .val (.int p3), .val (.int p4), .val (.int (1 : Int32)), .val (.ref s_CheckProfile_M2100), .val (.long (q2 &&& (4503599627370495 : Int64))), .second, .unset, .unset, .unset, .unset, .unset, .unset, .unset, .unset, .unset] [])) _
        refine XS.lload X13.here hx rfl (hb hby at_60) rfl ?_
        show Steps p.tables e below (T13.setTop (mkF m 62 #[.val (.long q1), .second, .val (.long q2), .second, .val (.int p3), .val (.int p4), .val (.int (1 : Int32)), .val (.ref s_CheckProfile_M2100), .val (.long (q2 &&& (4503599627370495 : Int64))), .second, .unset, .unset, .unset, .unset, .unset, .unset, .unset, .unset, .unset] [(.long (q2 &&& (4503599627370495 : Int64)))])) _
        refine XS.lconst X13.here hx rfl (hb hby at_62) ?_
        show Steps p.tables e below (T13.setTop (mkF m 63 #[.val (.long q1), .second, .val (.long q2), .second, .val (.int p3), .val (.int p4), .val (.int (1 : Int32)), .val (.ref s_CheckProfile_M2100), .val (.long (q2 &&& (4503599627370495 : Int64))), .second, .unset, .unset, .unset, .unset, .unset, .unset, .unset, .unset, .unset] [(.long (1 : Int64)), (.long (q2 &&& (4503599627370495 : Int64)))])) _
        refine XS.ladd X13.here hx rfl (hb hby at_63) rfl ?_
        show Steps p.tables e below (T13.setTop (mkF m 64 #[.val (.long q1), .second, .val (.long q2), .second, .val (.int p3), .val (.int p4), .val (.int (1 : Int32)), .val (.ref s_CheckProfile_M2100), .val (.long (q2 &&& (4503599627370495 : Int64))), .second, .unset, .unset, .unset, .unset, .unset, .unset, .unset, .unset, .unset] [(.long ((q2 &&& (4503599627370495 : Int64)) + (1 : Int64)))])) _
        rw [show (own_v0_42 q2 p3) = ((q2 &&& (4503599627370495 : Int64)) + (1 : Int64)) from ((if_pos hc14_42).trans rfl)] at kt
        exact kt
      · skip
        refine XS.ifNo X13.here hx rfl (hb hby at_42) rfl ((if0 _ _).trans (feq hc14_42).1) ?_
        show Steps p.tables e below (T13.setTop (mkF m 45 #[.val (.long q1), .second, .val (.long q2), .second, .val (.int p3), .val (.int p4), .val (.int (1 : Int32)), .val (.ref s_CheckProfile_M2100), .val (.long (q2 &&& (4503599627370495 : Int64))), .second, .unset, .unset, .unset, .unset, .unset, .unset, .unset, .unset, .unset] [])) _
        refine XS.lload X13.here hx rfl (hb hby at_45) rfl ?_
        show Steps p.tables e below (T13.setTop (mkF m 47 #[.val (.long q1), .second, .val (.long q2), .second, .val (.int p3), .val (.int p4), .val (.int (1 : Int32)), .val (.ref s_CheckProfile_M2100), .val (.long (q2 &&& (4503599627370495 : Int64))), .second, .unset, .unset, .unset, .unset, .unset, .unset, .unset, .unset, .unset] [(.long (q2 &&& (4503599627370495 : Int64)))])) _
        refine (X13.ldc2Long hx hown (mvT hZ (hw _ (List.mem_of_getElem? (i := 4) rfl))) (g := (mkF m 47 #[.val (.long q1), .second, .val (.long q2), .second, .val (.int p3), .val (.int p4), .val (.int (1 : Int32)), .val (.ref s_CheckProfile_M2100), .val (.long (q2 &&& (4503599627370495 : Int64))), .second, .unset, .unset, .unset, .unset, .unset, .unset, .unset, .unset, .unset] [(.long (q2 &&& (4503599627370495 : Int64)))])) rfl (hb hby at_47)) _ ?_
        show Steps p.tables e below (T13.setTop (mkF m 50 #[.val (.long q1), .second, .val (.long q2), .second, .val (.int p3), .val (.int p4), .val (.int (1 : Int32)), .val (.ref s_CheckProfile_M2100), .val (.long (q2 &&& (4503599627370495 : Int64))), .second, .unset, .unset, .unset, .unset, .unset, .unset, .unset, .unset, .unset] [(.long (1000 : Int64)), (.long (q2 &&& (4503599627370495 : Int64)))])) _
        refine XS.ldiv X13.here hx rfl (hb hby at_50) rfl (by decide) ?_
        show Steps p.tables e below (T13.setTop (mkF m 51 #[.val (.long q1), .second, .val (.long q2), .second, .val (.int p3), .val (.int p4), .val (.int (1 : Int32)), .val (.ref s_CheckProfile_M2100), .val (.long (q2 &&& (4503599627370495 : Int64))), .second, .unset, .unset, .unset, .unset, .unset, .unset, .unset, .unset, .unset] [(.long ((q2 &&& (4503599627370495 : Int64)) / (1000 : Int64)))])) _
        refine XS.lconst X13.here hx rfl (hb hby at_51) ?_
        show Steps p.tables e below (T13.setTop (mkF m 52 #[.val (.long q1), .second, .val (.long q2), .second, .val (.int p3), .val (.int p4), .val (.int (1 : Int32)), .val (.ref s_CheckProfile_M2100), .val (.long (q2 &&& (4503599627370495 : Int64))), .second, .unset, .unset, .unset, .unset, .unset, .unset, .unset, .unset, .unset] [(.long (1 : Int64)), (.long ((q2 &&& (4503599627370495 : Int64)) / (1000 : Int64)))])) _
        refine XS.ladd X13.here hx rfl (hb hby at_52) rfl ?_
        show Steps p.tables e below (T13.setTop (mkF m 53 #[.val (.long q1), .second, .val (.long q2), .second, .val (.int p3), .val (.int p4), .val (.int (1 : Int32)), .val (.ref s_CheckProfile_M2100), .val (.long (q2 &&& (4503599627370495 : Int64))), .second, .unset, .unset, .unset, .unset, .unset, .unset, .unset, .unset, .unset] [(.long (((q2 &&& (4503599627370495 : Int64)) / (1000 : Int64)) + (1 : Int64)))])) _
        refine (X13.ldc2Long hx hown (mvT hZ (hw _ (List.mem_of_getElem? (i := 4) rfl))) (g := (mkF m 53 #[.val (.long q1), .second, .val (.long q2), .second, .val (.int p3), .val (.int p4), .val (.int (1 : Int32)), .val (.ref s_CheckProfile_M2100), .val (.long (q2 &&& (4503599627370495 : Int64))), .second, .unset, .unset, .unset, .unset, .unset, .unset, .unset, .unset, .unset] [(.long (((q2 &&& (4503599627370495 : Int64)) / (1000 : Int64)) + (1 : Int64)))])) rfl (hb hby at_53)) _ ?_
        show Steps p.tables e below (T13.setTop (mkF m 56 #[.val (.long q1), .second, .val (.long q2), .second, .val (.int p3), .val (.int p4), .val (.int (1 : Int32)), .val (.ref s_CheckProfile_M2100), .val (.long (q2 &&& (4503599627370495 : Int64))), .second, .unset, .unset, .unset, .unset, .unset, .unset, .unset, .unset, .unset] [(.long (1000 : Int64)), (.long (((q2 &&& (4503599627370495 : Int64)) / (1000 : Int64)) + (1 : Int64)))])) _
        refine XS.lmul X13.here hx rfl (hb hby at_56) rfl ?_
        show Steps p.tables e below (T13.setTop (mkF m 57 #[.val (.long q1), .second, .val (.long q2), .second, .val (.int p3), .val (.int p4), .val (.int (1 : Int32)), .val (.ref s_CheckProfile_M2100), .val (.long (q2 &&& (4503599627370495 : Int64))), .second, .unset, .unset, .unset, .unset, .unset, .unset, .unset, .unset, .unset] [(.long ((((q2 &&& (4503599627370495 : Int64)) / (1000 : Int64)) + (1 : Int64)) * (1000 : Int64)))])) _
        refine XS.goto X13.here hx rfl (pc0 := 57) (pc' := 64) rfl (hb hby at_57) (by decide) (by decide) ?_
        show Steps p.tables e below (T13.setTop (mkF m 64 #[.val (.long q1), .second, .val (.long q2), .second, .val (.int p3), .val (.int p4), .val (.int (1 : Int32)), .val (.ref s_CheckProfile_M2100), .val (.long (q2 &&& (4503599627370495 : Int64))), .second, .unset, .unset, .unset, .unset, .unset, .unset, .unset, .unset, .unset] [(.long ((((q2 &&& (4503599627370495 : Int64)) / (1000 : Int64)) + (1 : Int64)) * (1000 : Int64)))])) _
        rw [show (own_v0_42 q2 p3) = ((((q2 &&& (4503599627370495 : Int64)) / (1000 : Int64)) + (1 : Int64)) * (1000 : Int64)) from ((if_neg hc14_42).trans rfl)] at kt
        exact kt
    show own_Go p.tables e below _ (T13.setTop (mkF m 64 #[.val (.long q1), .second, .val (.long q2), .second, .val (.int p3), .val (.int p4), .val (.int (1 : Int32)), .val (.ref s_CheckProfile_M2100), .val (.long (q2 &&& (4503599627370495 : Int64))), .second, .unset, .unset, .unset, .unset, .unset, .unset, .unset, .unset, .unset] [(.long (own_v0_42 q2 p3))]))
    refine own_go (fun _ => XS.lstore X13.here hx rfl (hb hby at_64) rfl (l' := #[.val (.long q1), .second, .val (.long q2), .second, .val (.int p3), .val (.int p4), .val (.int (1 : Int32)), .val (.ref s_CheckProfile_M2100), .val (.long (q2 &&& (4503599627370495 : Int64))), .second, .val (.long (own_v0_42 q2 p3)), .second, .unset, .unset, .unset, .unset, .unset, .unset, .unset]) rfl) ?_
    show own_Go p.tables e below _ (T13.setTop (mkF m 66 #[.val (.long q1), .second, .val (.long q2), .second, .val (.int p3), .val (.int p4), .val (.int (1 : Int32)), .val (.ref s_CheckProfile_M2100), .val (.long (q2 &&& (4503599627370495 : Int64))), .second, .val (.long (own_v0_42 q2 p3)), .second, .unset, .unset, .unset, .unset, .unset, .unset, .unset] []))
    refine own_go (fun _ => XS.lload X13.here hx rfl (hb hby at_66) rfl) ?_
    show own_Go p.tables e below _ (T13.setTop (mkF m 68 #[.val (.long q1), .second, .val (.long q2), .second, .val (.int p3), .val (.int p4), .val (.int (1 : Int32)), .val (.ref s_CheckProfile_M2100), .val (.long (q2 &&& (4503599627370495 : Int64))), .second, .val (.long (own_v0_42 q2 p3)), .second, .unset, .unset, .unset, .unset, .unset, .unset, .unset] [(.long (own_v0_42 q2 p3))]))
    refine own_go (X13.ldc2Long hx hown (mvT hZ (hw _ (List.mem_of_getElem? (i := 4) rfl))) (g := (mkF m 68 #[.val (.long q1), .second, .val (.long q2), .second, .val (.int p3), .val (.int p4), .val (.int (1 : Int32)), .val (.ref s_CheckProfile_M2100), .val (.long (q2 &&& (4503599627370495 : Int64))), .second, .val (.long (own_v0_42 q2 p3)), .second, .unset, .unset, .unset, .unset, .unset, .unset, .unset] [(.long (own_v0_42 q2 p3))])) rfl (hb hby at_68)) ?_
    show own_Go p.tables e below _ (T13.setTop (mkF m 71 #[.val (.long q1), .second, .val (.long q2), .second, .val (.int p3), .val (.int p4), .val (.int (1 : Int32)), .val (.ref s_CheckProfile_M2100), .val (.long (q2 &&& (4503599627370495 : Int64))), .second, .val (.long (own_v0_42 q2 p3)), .second, .unset, .unset, .unset, .unset, .unset, .unset, .unset] [(.long (1000 : Int64)), (.long (own_v0_42 q2 p3))]))
    refine own_go (fun _ => XS.ldiv X13.here hx rfl (hb hby at_71) rfl (by decide)) ?_
    show own_Go p.tables e below _ (T13.setTop (mkF m 72 #[.val (.long q1), .second, .val (.long q2), .second, .val (.int p3), .val (.int p4), .val (.int (1 : Int32)), .val (.ref s_CheckProfile_M2100), .val (.long (q2 &&& (4503599627370495 : Int64))), .second, .val (.long (own_v0_42 q2 p3)), .second, .unset, .unset, .unset, .unset, .unset, .unset, .unset] [(.long ((own_v0_42 q2 p3) / (1000 : Int64)))]))
    refine own_go (fun _ => XS.lstore X13.here hx rfl (hb hby at_72) rfl (l' := #[.val (.long q1), .second, .val (.long q2), .second, .val (.int p3), .val (.int p4), .val (.int (1 : Int32)), .val (.ref s_CheckProfile_M2100), .val (.long (q2 &&& (4503599627370495 : Int64))), .second, .val (.long (own_v0_42 q2 p3)), .second, .val (.long ((own_v0_42 q2 p3) / (1000 : Int64))), .second, .unset, .unset, .unset, .unset, .unset]) rfl) ?_
    show own_Go p.tables e below _ (T13.setTop (mkF m 74 #[.val (.long q1), .second, .val (.long q2), .second, .val (.int p3), .val (.int p4), .val (.int (1 : Int32)), .val (.ref s_CheckProfile_M2100), .val (.long (q2 &&& (4503599627370495 : Int64))), .second, .val (.long (own_v0_42 q2 p3)), .second, .val (.long ((own_v0_42 q2 p3) / (1000 : Int64))), .second, .unset, .unset, .unset, .unset, .unset] []))
    refine own_go (fun _ => XS.lload X13.here hx rfl (hb hby at_74) rfl) ?_
    show own_Go p.tables e below _ (T13.setTop (mkF m 76 #[.val (.long q1), .second, .val (.long q2), .second, .val (.int p3), .val (.int p4), .val (.int (1 : Int32)), .val (.ref s_CheckProfile_M2100), .val (.long (q2 &&& (4503599627370495 : Int64))), .second, .val (.long (own_v0_42 q2 p3)), .second, .val (.long ((own_v0_42 q2 p3) / (1000 : Int64))), .second, .unset, .unset, .unset, .unset, .unset] [(.long (own_v0_42 q2 p3))]))
    refine own_go (X13.ldc2Long hx hown (mvT hZ (hw _ (List.mem_of_getElem? (i := 4) rfl))) (g := (mkF m 76 #[.val (.long q1), .second, .val (.long q2), .second, .val (.int p3), .val (.int p4), .val (.int (1 : Int32)), .val (.ref s_CheckProfile_M2100), .val (.long (q2 &&& (4503599627370495 : Int64))), .second, .val (.long (own_v0_42 q2 p3)), .second, .val (.long ((own_v0_42 q2 p3) / (1000 : Int64))), .second, .unset, .unset, .unset, .unset, .unset] [(.long (own_v0_42 q2 p3))])) rfl (hb hby at_76)) ?_
    show own_Go p.tables e below _ (T13.setTop (mkF m 79 #[.val (.long q1), .second, .val (.long q2), .second, .val (.int p3), .val (.int p4), .val (.int (1 : Int32)), .val (.ref s_CheckProfile_M2100), .val (.long (q2 &&& (4503599627370495 : Int64))), .second, .val (.long (own_v0_42 q2 p3)), .second, .val (.long ((own_v0_42 q2 p3) / (1000 : Int64))), .second, .unset, .unset, .unset, .unset, .unset] [(.long (1000 : Int64)), (.long (own_v0_42 q2 p3))]))
    refine own_go (fun _ => XS.lrem X13.here hx rfl (hb hby at_79) rfl (by decide)) ?_
    show own_Go p.tables e below _ (T13.setTop (mkF m 80 #[.val (.long q1), .second, .val (.long q2), .second, .val (.int p3), .val (.int p4), .val (.int (1 : Int32)), .val (.ref s_CheckProfile_M2100), .val (.long (q2 &&& (4503599627370495 : Int64))), .second, .val (.long (own_v0_42 q2 p3)), .second, .val (.long ((own_v0_42 q2 p3) / (1000 : Int64))), .second, .unset, .unset, .unset, .unset, .unset] [(.long ((own_v0_42 q2 p3) - (own_v0_42 q2 p3) / (1000 : Int64) * (1000 : Int64)))]))
    refine own_go (fun _ => XS.lstore X13.here hx rfl (hb hby at_80) rfl (l' := #[.val (.long q1), .second, .val (.long q2), .second, .val (.int p3), .val (.int p4), .val (.int (1 : Int32)), .val (.ref s_CheckProfile_M2100), .val (.long (q2 &&& (4503599627370495 : Int64))), .second, .val (.long (own_v0_42 q2 p3)), .second, .val (.long ((own_v0_42 q2 p3) / (1000 : Int64))), .second, .val (.long ((own_v0_42 q2 p3) - (own_v0_42 q2 p3) / (1000 : Int64) * (1000 : Int64))), .second, .unset, .unset, .unset]) rfl) ?_
    show own_Go p.tables e below _ (T13.setTop (mkF m 82 #[.val (.long q1), .second, .val (.long q2), .second, .val (.int p3), .val (.int p4), .val (.int (1 : Int32)), .val (.ref s_CheckProfile_M2100), .val (.long (q2 &&& (4503599627370495 : Int64))), .second, .val (.long (own_v0_42 q2 p3)), .second, .val (.long ((own_v0_42 q2 p3) / (1000 : Int64))), .second, .val (.long ((own_v0_42 q2 p3) - (own_v0_42 q2 p3) / (1000 : Int64) * (1000 : Int64))), .second, .unset, .unset, .unset] []))
    refine own_go (fun _ => XS.iload X13.here hx rfl (hb hby at_82) rfl) ?_
    show own_Go p.tables e below _ (T13.setTop (mkF m 84 #[.val (.long q1), .second, .val (.long q2), .second, .val (.int p3), .val (.int p4), .val (.int (1 : Int32)), .val (.ref s_CheckProfile_M2100), .val (.long (q2 &&& (4503599627370495 : Int64))), .second, .val (.long (own_v0_42 q2 p3)), .second, .val (.long ((own_v0_42 q2 p3) / (1000 : Int64))), .second, .val (.long ((own_v0_42 q2 p3) - (own_v0_42 q2 p3) / (1000 : Int64) * (1000 : Int64))), .second, .unset, .unset, .unset] [(.int p3)]))
    refine own_go (fun _ => XS.iconst X13.here hx rfl (hb hby at_84)) ?_
    show own_Go p.tables e below _ (T13.setTop (mkF m 85 #[.val (.long q1), .second, .val (.long q2), .second, .val (.int p3), .val (.int p4), .val (.int (1 : Int32)), .val (.ref s_CheckProfile_M2100), .val (.long (q2 &&& (4503599627370495 : Int64))), .second, .val (.long (own_v0_42 q2 p3)), .second, .val (.long ((own_v0_42 q2 p3) / (1000 : Int64))), .second, .val (.long ((own_v0_42 q2 p3) - (own_v0_42 q2 p3) / (1000 : Int64) * (1000 : Int64))), .second, .unset, .unset, .unset] [(.int (1 : Int32)), (.int p3)]))
    refine own_go (fun _ => XS.iand X13.here hx rfl (hb hby at_85) rfl) ?_
    refine own_go (S' := T13.setTop (mkF m 123 #[.val (.long q1), .second, .val (.long q2), .second, .val (.int p3), .val (.int p4), .val (.int (1 : Int32)), .val (.ref s_CheckProfile_M2100), .val (.long (q2 &&& (4503599627370495 : Int64))), .second, .val (.long (own_v0_42 q2 p3)), .second, .val (.long ((own_v0_42 q2 p3) / (1000 : Int64))), .second, .val (.long ((own_v0_42 q2 p3) - (own_v0_42 q2 p3) / (1000 : Int64) * (1000 : Int64))), .second, .val (.long (own_v0_86 q1 q2 p3)), .second, .unset] [])) (fun t kt => ?_) ?_
    · skip
      show Steps p.tables e below (T13.setTop (mkF m 86 #[.val (.long q1), .second, .val (.long q2), .second, .val (.int p3), .val (.int p4), .val (.int (1 : Int32)), .val (.ref s_CheckProfile_M2100), .val (.long (q2 &&& (4503599627370495 : Int64))), .second, .val (.long (own_v0_42 q2 p3)), .second, .val (.long ((own_v0_42 q2 p3) / (1000 : Int64))), .second, .val (.long ((own_v0_42 q2 p3) - (own_v0_42 q2 p3) / (1000 : Int64) * (1000 : Int64))), .second, .unset, .unset, .unset] [(.int (p3 &&& (1 : Int32)))])) _
      by_cases hc15_86 : (p3 &&& (1 : Int32)) = (0 : Int32)
      · skip
        refine XS.ifNo X13.here hx rfl (hb hby at_86) rfl ((if0 _ _).trans (teq hc15_86).2) ?_
        show Steps p.tables e below (T13.setTop (mkF m 89 #[.val (.long q1), .second, .val (.long q2), .second, .val (.int p3), .val (.int p4), .val (.int (1 : Int32)), .val (.ref s_CheckProfile_M2100), .val (.long (q2 &&& (4503599627370495 : Int64))), .second, .val (.long (own_v0_42 q2 p3)), .second, .val (.long ((own_v0_42 q2 p3) / (1000 : Int64))), .second, .val (.long ((own_v0_42 q2 p3) - (own_v0_42 q2 p3) / (1000 : Int64) * (1000 : Int64))), .second, .unset, .unset, .unset] [])) _
        refine XS.lload X13.here hx rfl (hb hby at_89) rfl ?_
        show Steps p.tables e below (T13.setTop (mkF m 91 #[.val (.long q1), .second, .val (.long q2), .second, .val (.int p3), .val (.int p4), .val (.int (1 : Int32)), .val (.ref s_CheckProfile_M2100), .val (.long (q2 &&& (4503599627370495 : Int64))), .second, .val (.long (own_v0_42 q2 p3)), .second, .val (.long ((own_v0_42 q2 p3) / (1000 : Int64))), .second, .val (.long ((own_v0_42 q2 p3) - (own_v0_42 q2 p3) / (1000 : Int64) * (1000 : Int64))), .second, .unset, .unset, .unset] [(.long ((own_v0_42 q2 p3) / (1000 : Int64)))])) _
        refine XS.iload X13.here hx rfl (hb hby at_91) rfl ?_
        show Steps p.tables e below (T13.setTop (mkF m 93 #[.val (.long q1), .second, .val (.long q2), .second, .val (.int p3), .val (.int p4), .val (.int (1 : Int32)), .val (.ref s_CheckProfile_M2100), .val (.long (q2 &&& (4503599627370495 : Int64))), .second, .val (.long (own_v0_42 q2 p3)), .second, .val (.long ((own_v0_42 q2 p3) / (1000 : Int64))), .second, .val (.long ((own_v0_42 q2 p3) - (own_v0_42 q2 p3) / (1000 : Int64) * (1000 : Int64))), .second, .unset, .unset, .unset] [(.int p3), (.long ((own_v0_42 q2 p3) / (1000 : Int64)))])) _
        refine XS.iconst X13.here hx rfl (hb hby at_93) ?_
        show Steps p.tables e below (T13.setTop (mkF m 94 #[.val (.long q1), .second, .val (.long q2), .second, .val (.int p3), .val (.int p4), .val (.int (1 : Int32)), .val (.ref s_CheckProfile_M2100), .val (.long (q2 &&& (4503599627370495 : Int64))), .second, .val (.long (own_v0_42 q2 p3)), .second, .val (.long ((own_v0_42 q2 p3) / (1000 : Int64))), .second, .val (.long ((own_v0_42 q2 p3) - (own_v0_42 q2 p3) / (1000 : Int64) * (1000 : Int64))), .second, .unset, .unset, .unset] [(.int (1 : Int32)), (.int p3), (.long ((own_v0_42 q2 p3) / (1000 : Int64)))])) _
        refine XS.ishr X13.here hx rfl (hb hby at_94) rfl ?_
        show Steps p.tables e below (T13.setTop (mkF m 95 #[.val (.long q1), .second, .val (.long q2), .second, .val (.int p3), .val (.int p4), .val (.int (1 : Int32)), .val (.ref s_CheckProfile_M2100), .val (.long (q2 &&& (4503599627370495 : Int64))), .second, .val (.long (own_v0_42 q2 p3)), .second, .val (.long ((own_v0_42 q2 p3) / (1000 : Int64))), .second, .val (.long ((own_v0_42 q2 p3) - (own_v0_42 q2 p3) / (1000 : Int64) * (1000 : Int64))), .second, .unset, .unset, .unset] [(.int (p3 >>> ((1 : Int32) &&& 31))), (.long ((own_v0_42 q2 p3) / (1000 : Int64)))])) _
        refine XS.iconst X13.here hx rfl (hb hby at_95) ?_
        show Steps p.tables e below (T13.setTop (mkF m 96 #[.val (.long q1), .second, .val (.long q2), .second, .val (.int p3), .val (.int p4), .val (.int (1 : Int32)), .val (.ref s_CheckProfile_M2100), .val (.long (q2 &&& (4503599627370495 : Int64))), .second, .val (.long (own_v0_42 q2 p3)), .second, .val (.long ((own_v0_42 q2 p3) / (1000 : Int64))), .second, .val (.long ((own_v0_42 q2 p3) - (own_v0_42 q2 p3) / (1000 : Int64) * (1000 : Int64))), .second, .unset, .unset, .unset] [(.int (3 : Int32)), (.int (p3 >>> ((1 : Int32) &&& 31))), (.long ((own_v0_42 q2 p3) / (1000 : Int64)))])) _
        refine XS.iand X13.here hx rfl (hb hby at_96) rfl ?_
        show Steps p.tables e below (T13.setTop (mkF m 97 #[.val (.long q1), .second, .val (.long q2), .second, .val (.int p3), .val (.int p4), .val (.int (1 : Int32)), .val (.ref s_CheckProfile_M2100), .val (.long (q2 &&& (4503599627370495 : Int64))), .second, .val (.long (own_v0_42 q2 p3)), .second, .val (.long ((own_v0_42 q2 p3) / (1000 : Int64))), .second, .val (.long ((own_v0_42 q2 p3) - (own_v0_42 q2 p3) / (1000 : Int64) * (1000 : Int64))), .second, .unset, .unset, .unset] [(.int ((p3 >>> ((1 : Int32) &&& 31)) &&& (3 : Int32))), (.long ((own_v0_42 q2 p3) / (1000 : Int64)))])) _
        refine XS.i2l X13.here hx rfl (hb hby at_97) rfl ?_
        show Steps p.tables e below (T13.setTop (mkF m 98 #[.val (.long q1), .second, .val (.long q2), .second, .val (.int p3), .val (.int p4), .val (.int (1 : Int32)), .val (.ref s_CheckProfile_M2100), .val (.long (q2 &&& (4503599627370495 : Int64))), .second, .val (.long (own_v0_42 q2 p3)), .second, .val (.long ((own_v0_42 q2 p3) / (1000 : Int64))), .second, .val (.long ((own_v0_42 q2 p3) - (own_v0_42 q2 p3) / (1000 : Int64) * (1000 : Int64))), .second, .unset, .unset, .unset] [(.long (((p3 >>> ((1 : Int32) &&& 31)) &&& (3 : Int32)).toInt64)), (.long ((own_v0_42 q2 p3) / (1000 : Int64)))])) _
        refine XS.ladd X13.here hx rfl (hb hby at_98) rfl ?_
        show Steps p.tables e below (T13.setTop (mkF m 99 #[.val (.long q1), .second, .val (.long q2), .second, .val (.int p3), .val (.int p4), .val (.int (1 : Int32)), .val (.ref s_CheckProfile_M2100), .val (.long (q2 &&& (4503599627370495 : Int64))), .second, .val (.long (own_v0_42 q2 p3)), .second, .val (.long ((own_v0_42 q2 p3) / (1000 : Int64))), .second, .val (.long ((own_v0_42 q2 p3) - (own_v0_42 q2 p3) / (1000 : Int64) * (1000 : Int64))), .second, .unset, .unset, .unset] [(.long (((own_v0_42 q2 p3) / (1000 : Int64)) + (((p3 >>> ((1 : Int32) &&& 31)) &&& (3 : Int32)).toInt64)))])) _
        refine XS.lconst X13.here hx rfl (hb hby at_99) ?_
        show Steps p.tables e below (T13.setTop (mkF m 100 #[.val (.long q1), .second, .val (.long q2), .second, .val (.int p3), .val (.int p4), .val (.int (1 : Int32)), .val (.ref s_CheckProfile_M2100), .val (.long (q2 &&& (4503599627370495 : Int64))), .second, .val (.long (own_v0_42 q2 p3)), .second, .val (.long ((own_v0_42 q2 p3) / (1000 : Int64))), .second, .val (.long ((own_v0_42 q2 p3) - (own_v0_42 q2 p3) / (1000 : Int64) * (1000 : Int64))), .second, .unset, .unset, .unset] [(.long (1 : Int64)), (.long (((own_v0_42 q2 p3) / (1000 : Int64)) + (((p3 >>> ((1 : Int32) &&& 31)) &&& (3 : Int32)).toInt64)))])) _
        refine XS.lsub X13.here hx rfl (hb hby at_100) rfl ?_
        show Steps p.tables e below (T13.setTop (mkF m 101 #[.val (.long q1), .second, .val (.long q2), .second, .val (.int p3), .val (.int p4), .val (.int (1 : Int32)), .val (.ref s_CheckProfile_M2100), .val (.long (q2 &&& (4503599627370495 : Int64))), .second, .val (.long (own_v0_42 q2 p3)), .second, .val (.long ((own_v0_42 q2 p3) / (1000 : Int64))), .second, .val (.long ((own_v0_42 q2 p3) - (own_v0_42 q2 p3) / (1000 : Int64) * (1000 : Int64))), .second, .unset, .unset, .unset] [(.long ((((own_v0_42 q2 p3) / (1000 : Int64)) + (((p3 >>> ((1 : Int32) &&& 31)) &&& (3 : Int32)).toInt64)) - (1 : Int64)))])) _
        refine XS.lstore X13.here hx rfl (hb hby at_101) rfl (l' := #[.val (.long q1), .second, .val (.long q2), .second, .val (.int p3), .val (.int p4), .val (.int (1 : Int32)), .val (.ref s_CheckProfile_M2100), .val (.long (q2 &&& (4503599627370495 : Int64))), .second, .val (.long (own_v0_42 q2 p3)), .second, .val (.long ((own_v0_42 q2 p3) / (1000 : Int64))), .second, .val (.long ((own_v0_42 q2 p3) - (own_v0_42 q2 p3) / (1000 : Int64) * (1000 : Int64))), .second, .val (.long ((((own_v0_42 q2 p3) / (1000 : Int64)) + (((p3 >>> ((1 : Int32) &&& 31)) &&& (3 : Int32)).toInt64)) - (1 : Int64))), .second, .unset]) rfl ?_
        show Steps p.tables e below (T13.setTop (mkF m 103 #[.val (.long q1), .second, .val (.long q2), .second, .val (.int p3), .val (.int p4), .val (.int (1 : Int32)), .val (.ref s_CheckProfile_M2100), .val (.long (q2 &&& (4503599627370495 : Int64))), .second, .val (.long (own_v0_42 q2 p3)), .second, .val (.long ((own_v0_42 q2 p3) / (1000 : Int64))), .second, .val (.long ((own_v0_42 q2 p3) - (own_v0_42 q2 p3) / (1000 : Int64) * (1000 : Int64))), .second, .val (.long ((((own_v0_42 q2 p3) / (1000 : Int64)) + (((p3 >>> ((1 : Int32) &&& 31)) &&& (3 : Int32)).toInt64)) - (1 : Int64))), .second, .unset] [])) _
        refine XS.lload X13.here hx rfl (hb hby at_103) rfl ?_
        show Steps p.tables e below (T13.setTop (mkF m 105 #[.val (.long q1), .second, .val (.long q2), .second, .val (.int p3), .val (.int p4), .val (.int (1 : Int32)), .val (.ref s_CheckProfile_M2100), .val (.long (q2 &&& (4503599627370495 : Int64))), .second, .val (.long (own_v0_42 q2 p3)), .second, .val (.long ((own_v0_42 q2 p3) / (1000 : Int64))), .second, .val (.long ((own_v0_42 q2 p3) - (own_v0_42 q2 p3) / (1000 : Int64) * (1000 : Int64))), .second, .val (.long ((((own_v0_42 q2 p3) / (1000 : Int64)) + (((p3 >>> ((1 : Int32) &&& 31)) &&& (3 : Int32)).toInt64)) - (1 : Int64))), .second, .unset] [(.long ((((own_v0_42 q2 p3) / (1000 : Int64)) + (((p3 >>> ((1 : Int32) &&& 31)) &&& (3 : Int32)).toInt64)) - (1 : Int64)))])) _
        refine XS.lconst X13.here hx rfl (hb hby at_105) ?_
        show Steps p.tables e below (T13.setTop (mkF m 106 #[.val (.long q1), .second, .val (.long q2), .second, .val (.int p3), .val (.int p4), .val (.int (1 : Int32)), .val (.ref s_CheckProfile_M2100), .val (.long (q2 &&& (4503599627370495 : Int64))), .second, .val (.long (own_v0_42 q2 p3)), .second, .val (.long ((own_v0_42 q2 p3) / (1000 : Int64))), .second, .val (.long ((own_v0_42 q2 p3) - (own_v0_42 q2 p3) / (1000 : Int64) * (1000 : Int64))), .second, .val (.long ((((own_v0_42 q2 p3) / (1000 : Int64)) + (((p3 >>> ((1 : Int32) &&& 31)) &&& (3 : Int32)).toInt64)) - (1 : Int64))), .second, .unset] [(.long (0 : Int64)), (.long ((((own_v0_42 q2 p3) / (1000 : Int64)) + (((p3 >>> ((1 : Int32) &&& 31)) &&& (3 : Int32)).toInt64)) - (1 : Int64)))])) _
        refine XS.lcmp X13.here hx rfl (hb hby at_106) rfl ?_
        show Steps p.tables e below (T13.setTop (mkF m 107 #[.val (.long q1), .second, .val (.long q2), .second, .val (.int p3), .val (.int p4), .val (.int (1 : Int32)), .val (.ref s_CheckProfile_M2100), .val (.long (q2 &&& (4503599627370495 : Int64))), .second, .val (.long (own_v0_42 q2 p3)), .second, .val (.long ((own_v0_42 q2 p3) / (1000 : Int64))), .second, .val (.long ((own_v0_42 q2 p3) - (own_v0_42 q2 p3) / (1000 : Int64) * (1000 : Int64))), .second, .val (.long ((((own_v0_42 q2 p3) / (1000 : Int64)) + (((p3 >>> ((1 : Int32) &&& 31)) &&& (3 : Int32)).toInt64)) - (1 : Int64))), .second, .unset] [(.int (lcmpW ((((own_v0_42 q2 p3) / (1000 : Int64)) + (((p3 >>> ((1 : Int32) &&& 31)) &&& (3 : Int32)).toInt64)) - (1 : Int64)) (0 : Int64)))])) _
        by_cases hc16_107 : (lcmpW ((((own_v0_42 q2 p3) / (1000 : Int64)) + (((p3 >>> ((1 : Int32) &&& 31)) &&& (3 : Int32)).toInt64)) - (1 : Int64)) (0 : Int64)) < (0 : Int32)
        · skip
          refine XS.ifNo X13.here hx rfl (hb hby at_107) rfl ((if0 _ _).trans (tlt hc16_107).2.1) ?_
          show Steps p.tables e below (T13.setTop (mkF m 110 #[.val (.long q1), .second, .val (.long q2), .second, .val (.int p3), .val (.int p4), .val (.int (1 : Int32)), .val (.ref s_CheckProfile_M2100), .val (.long (q2 &&& (4503599627370495 : Int64))), .second, .val (.long (own_v0_42 q2 p3)), .second, .val (.long ((own_v0_42 q2 p3) / (1000 : Int64))), .second, .val (.long ((own_v0_42 q2 p3) - (own_v0_42 q2 p3) / (1000 : Int64) * (1000 : Int64))), .second, .val (.long ((((own_v0_42 q2 p3) / (1000 : Int64)) + (((p3 >>> ((1 : Int32) &&& 31)) &&& (3 : Int32)).toInt64)) - (1 : Int64))), .second, .unset] [])) _
          refine XS.lconst X13.here hx rfl (hb hby at_110) ?_
          show Steps p.tables e below (T13.setTop (mkF m 111 #[.val (.long q1), .second, .val (.long q2), .second, .val (.int p3), .val (.int p4), .val (.int (1 : Int32)), .val (.ref s_CheckProfile_M2100), .val (.long (q2 &&& (4503599627370495 : Int64))), .second, .val (.long (own_v0_42 q2 p3)), .second, .val (.long ((own_v0_42 q2 p3) / (1000 : Int64))), .second, .val (.long ((own_v0_42 q2 p3) - (own_v0_42 q2 p3) / (1000 : Int64) * (1000 : Int64))), .second, .val (.long ((((own_v0_42 q2 p3) / (1000 : Int64)) + (((p3 >>> ((1 : Int32) &&& 31)) &&& (3 : Int32)).toInt64)) - (1 : Int64))), .second, .unset] [(.long (0 : Int64))])) _
          refine XS.lstore X13.here hx rfl (hb hby at_111) rfl (l' := #[.val (.long q1), .second, .val (.long q2), .second, .val (.int p3), .val (.int p4), .val (.int (1 : Int32)), .val (.ref s_CheckProfile_M2100), .val (.long (q2 &&& (4503599627370495 : Int64))), .second, .val (.long (own_v0_42 q2 p3)), .second, .val (.long ((own_v0_42 q2 p3) / (1000 : Int64))), .second, .val (.long ((own_v0_42 q2 p3) - (own_v0_42 q2 p3) / (1000 : Int64) * (1000 : Int64))), .second, .val (.long (0 : Int64)), .second, .unset]) rfl ?_
          show Steps p.tables e below (T13.setTop (mkF m 113 #[.val (.long q1), .second, .val (.long q2), .second, .val (.int p3), .val (.int p4), .val (.int (1 : Int32)), .val (.ref s_CheckProfile_M2100), .val (.long (q2 &&& (4503599627370495 : Int64))), .second, .val (.long (own_v0_42 q2 p3)), .second, .val (.long ((own_v0_42 q2 p3) / (1000 : Int64))), .second, .val (.long ((own_v0_42 q2 p3) - (own_v0_42 q2 p3) / (1000 : Int64) * (1000 : Int64))), .second, .val (.long (0 : Int64)), .second, .unset] [])) _
          refine XS.goto X13.here hx rfl (pc0 := 113) (pc' := 123) rfl (hb hby at_113) (by decide) (by decide) ?_
          show Steps p.tables e below (T13.setTop (mkF m 123 #[.val (.long q1), .second, .val (.long q2), .second, .val (.int p3), .val (.int p4), .val (.int (1 : Int32)), .val (.ref s_CheckProfile_M2100), .val (.long (q2 &&& (4503599627370495 : Int64))), .second, .val (.long (own_v0_42 q2 p3)), .second, .val (.long ((own_v0_42 q2 p3) / (1000 : Int64))), .second, .val (.long ((own_v0_42 q2 p3) - (own_v0_42 q2 p3) / (1000 : Int64) * (1000 : Int64))), .second, .val (.long (0 : Int64)), .second, .unset] [])) _
          rw [show (own_v0_86 q1 q2 p3) = (0 : Int64) from ((if_pos hc15_86).trans ((if_pos hc16_107).trans rfl))] at kt
          exact kt
        · skip
          refine XS.ifYes X13.here hx rfl (pc0 := 107) (pc' := 123) rfl (hb hby at_107) rfl ((if0 _ _).trans (flt hc16_107).2.1) (by decide) (by decide) ?_
          show Steps p.tables e below (T13.setTop (mkF m 123 #[.val (.long q1), .second, .val (.long q2), .second, .val (.int p3), .val (.int p4), .val (.int (1 : Int32)), .val (.ref s_CheckProfile_M2100), .val (.long (q2 &&& (4503599627370495 : Int64))), .second, .val (.long (own_v0_42 q2 p3)), .second, .val (.long ((own_v0_42 q2 p3) / (1000 : Int64))), .second, .val (.long ((own_v0_42 q2 p3) - (own_v0_42 q2 p3) / (1000 : Int64) * (1000 : Int64))), .second, .val (.long ((((own_v0_42 q2 p3) / (1000 : Int64)) + (((p3 >>> ((1 : Int32) &&& 31)) &&& (3 : Int32)).toInt64)) - (1 : Int64))), .second, .unset] [])) _
          rw [show (own_v0_86 q1 q2 p3) = ((((own_v0_42 q2 p3) / (1000 : Int64)) + (((p3 >>> ((1 : Int32) &&& 31)) &&& (3 : Int32)).toInt64)) - (1 : Int64)) from ((if_pos hc15_86).trans ((if_neg hc16_107).trans rfl))] at kt
          exact kt
      · skip
        refine XS.ifYes X13.here hx rfl (pc0 := 86) (pc' := 116) rfl (hb hby at_86) rfl ((if0 _ _).trans (feq hc15_86).2) (by decide) (by decide) ?_
        show Steps p.tables e below (T13.setTop (mkF m 116 #[.val (.long q1), .second, .val (.long q2), .second, .val (.int p3), .val (.int p4), .val (.int (1 : Int32)), .val (.ref s_CheckProfile_M2100), .val (.long (q2 &&& (4503599627370495 : Int64))), .second, .val (.long (own_v0_42 q2 p3)), .second, .val (.long ((own_v0_42 q2 p3) / (1000 : Int64))), .second, .val (.long ((own_v0_42 q2 p3) - (own_v0_42 q2 p3) / (1000 : Int64) * (1000 : Int64))), .second, .unset, .unset, .unset] [])) _
        refine XS.lloadN X13.here hx rfl (hb hby at_116) rfl ?_
        show Steps p.tables e below (T13.setTop (mkF m 117 #[.val (.long q1), .second, .val (.long q2), .second, .val (.int p3), .val (.int p4), .val (.int (1 : Int32)), .val (.ref s_CheckProfile_M2100), .val (.long (q2 &&& (4503599627370495 : Int64))), .second, .val (.long (own_v0_42 q2 p3)), .second, .val (.long ((own_v0_42 q2 p3) / (1000 : Int64))), .second, .val (.long ((own_v0_42 q2 p3) - (own_v0_42 q2 p3) / (1000 : Int64) * (1000 : Int64))), .second, .unset, .unset, .unset] [(.long q1)])) _
        refine (X13.ldc2Long hx hown (mvT hZ (hw _ (List.mem_of_getElem? (i := 3) rfl))) (g := (mkF m 117 #[.val (.long q1), .second, .val (.long q2), .second, .val (.int p3), .val (.int p4), .val (.int (1 : Int32)), .val (.ref s_CheckProfile_M2100), .val (.long (q2 &&& (4503599627370495 : Int64))), .second, .val (.long (own_v0_42 q2 p3)), .second, .val (.long ((own_v0_42 q2 p3) / (1000 : Int64))), .second, .val (.long ((own_v0_42 q2 p3) - (own_v0_42 q2 p3) / (1000 : Int64) * (1000 : Int64))), .second, .unset, .unset, .unset] [(.long q1)])) rfl (hb hby at_117)) _ ?_
        show Steps p.tables e below (T13.setTop (mkF m 120 #[.val (.long q1), .second, .val (.long q2), .second, .val (.int p3), .val (.int p4), .val (.int (1 : Int32)), .val (.ref s_CheckProfile_M2100), .val (.long (q2 &&& (4503599627370495 : Int64))), .second, .val (.long (own_v0_42 q2 p3)), .second, .val (.long ((own_v0_42 q2 p3) / (1000 : Int64))), .second, .val (.long ((own_v0_42 q2 p3) - (own_v0_42 q2 p3) / (1000 : Int64) * (1000 : Int64))), .second, .unset, .unset, .unset] [(.long (4503599627370495 : Int64)), (.long q1)])) _
        refine XS.land X13.here hx rfl (hb hby at_120) rfl ?_
        show Steps p.tables e below (T13.setTop (mkF m 121 #[.val (.long q1), .second, .val (.long q2), .second, .val (.int p3), .val (.int p4), .val (.int (1 : Int32)), .val (.ref s_CheckProfile_M2100), .val (.long (q2 &&& (4503599627370495 : Int64))), .second, .val (.long (own_v0_42 q2 p3)), .second, .val (.long ((own_v0_42 q2 p3) / (1000 : Int64))), .second, .val (.long ((own_v0_42 q2 p3) - (own_v0_42 q2 p3) / (1000 : Int64) * (1000 : Int64))), .second, .unset, .unset, .unset] [(.long (q1 &&& (4503599627370495 : Int64)))])) _
        refine XS.lstore X13.here hx rfl (hb hby at_121) rfl (l' := #[.val (.long q1), .second, .val (.long q2), .second, .val (.int p3), .val (.int p4), .val (.int (1 : Int32)), .val (.ref s_CheckProfile_M2100), .val (.long (q2 &&& (4503599627370495 : Int64))), .second, .val (.long (own_v0_42 q2 p3)), .second, .val (.long ((own_v0_42 q2 p3) / (1000 : Int64))), .second, .val (.long ((own_v0_42 q2 p3) - (own_v0_42 q2 p3) / (1000 : Int64) * (1000 : Int64))), .second, .val (.long (q1 &&& (4503599627370495 : Int64))), .second, .unset]) rfl ?_
        show Steps p.tables e below (T13.setTop (mkF m 123 #[.val (.long q1), .second, .val (.long q2), .second, .val (.int p3), .val (.int p4), .val (.int (1 : Int32)), .val (.ref s_CheckProfile_M2100), .val (.long (q2 &&& (4503599627370495 : Int64))), .second, .val (.long (own_v0_42 q2 p3)), .second, .val (.long ((own_v0_42 q2 p3) / (1000 : Int64))), .second, .val (.long ((own_v0_42 q2 p3) - (own_v0_42 q2 p3) / (1000 : Int64) * (1000 : Int64))), .second, .val (.long (q1 &&& (4503599627370495 : Int64))), .second, .unset] [])) _
        rw [show (own_v0_86 q1 q2 p3) = (q1 &&& (4503599627370495 : Int64)) from ((if_neg hc15_86).trans rfl)] at kt
        exact kt
    show own_Go p.tables e below _ (T13.setTop (mkF m 123 #[.val (.long q1), .second, .val (.long q2), .second, .val (.int p3), .val (.int p4), .val (.int (1 : Int32)), .val (.ref s_CheckProfile_M2100), .val (.long (q2 &&& (4503599627370495 : Int64))), .second, .val (.long (own_v0_42 q2 p3)), .second, .val (.long ((own_v0_42 q2 p3) / (1000 : Int64))), .second, .val (.long ((own_v0_42 q2 p3) - (own_v0_42 q2 p3) / (1000 : Int64) * (1000 : Int64))), .second, .val (.long (own_v0_86 q1 q2 p3)), .second, .unset] []))
    refine own_go (fun _ => XS.lload X13.here hx rfl (hb hby at_123) rfl) ?_
    show own_Go p.tables e below _ (T13.setTop (mkF m 125 #[.val (.long q1), .second, .val (.long q2), .second, .val (.int p3), .val (.int p4), .val (.int (1 : Int32)), .val (.ref s_CheckProfile_M2100), .val (.long (q2 &&& (4503599627370495 : Int64))), .second, .val (.long (own_v0_42 q2 p3)), .second, .val (.long ((own_v0_42 q2 p3) / (1000 : Int64))), .second, .val (.long ((own_v0_42 q2 p3) - (own_v0_42 q2 p3) / (1000 : Int64) * (1000 : Int64))), .second, .val (.long (own_v0_86 q1 q2 p3)), .second, .unset] [(.long (own_v0_86 q1 q2 p3))]))
    refine own_go (fun _ => XS.lload X13.here hx rfl (hb hby at_125) rfl) ?_
    show own_Go p.tables e below _ (T13.setTop (mkF m 127 #[.val (.long q1), .second, .val (.long q2), .second, .val (.int p3), .val (.int p4), .val (.int (1 : Int32)), .val (.ref s_CheckProfile_M2100), .val (.long (q2 &&& (4503599627370495 : Int64))), .second, .val (.long (own_v0_42 q2 p3)), .second, .val (.long ((own_v0_42 q2 p3) / (1000 : Int64))), .second, .val (.long ((own_v0_42 q2 p3) - (own_v0_42 q2 p3) / (1000 : Int64) * (1000 : Int64))), .second, .val (.long (own_v0_86 q1 q2 p3)), .second, .unset] [(.long ((own_v0_42 q2 p3) / (1000 : Int64))), (.long (own_v0_86 q1 q2 p3))]))
    refine own_go (fun _ => XS.lcmp X13.here hx rfl (hb hby at_127) rfl) ?_
    refine own_go (S' := T13.setTop (mkF m 156 #[.val (.long q1), .second, .val (.long q2), .second, .val (.int p3), .val (.int p4), .val (.int (1 : Int32)), .val (.ref s_CheckProfile_M2100), .val (.long (q2 &&& (4503599627370495 : Int64))), .second, .val (.long (own_v0_42 q2 p3)), .second, .val (.long ((own_v0_42 q2 p3) / (1000 : Int64))), .second, .val (.long ((own_v0_42 q2 p3) - (own_v0_42 q2 p3) / (1000 : Int64) * (1000 : Int64))), .second, .val (.long (own_v0_86 q1 q2 p3)), .second, .unset] [(.int (own_v0_128a q1 q2 p3))])) (fun t kt => ?_) ?_
    · skip
      show Steps p.tables e below (T13.setTop (mkF m 128 #[.val (.long q1), .second, .val (.long q2), .second, .val (.int p3), .val (.int p4), .val (.int (1 : Int32)), .val (.ref s_CheckProfile_M2100), .val (.long (q2 &&& (4503599627370495 : Int64))), .second, .val (.long (own_v0_42 q2 p3)), .second, .val (.long ((own_v0_42 q2 p3) / (1000 : Int64))), .second, .val (.long ((own_v0_42 q2 p3) - (own_v0_42 q2 p3) / (1000 : Int64) * (1000 : Int64))), .second, .val (.long (own_v0_86 q1 q2 p3)), .second, .unset] [(.int (lcmpW (own_v0_86 q1 q2 p3) ((own_v0_42 q2 p3) / (1000 : Int64))))])) _
      by_cases hc17_128 : (0 : Int32) < (lcmpW (own_v0_86 q1 q2 p3) ((own_v0_42 q2 p3) / (1000 : Int64)))
      · skip
        refine XS.ifYes X13.here hx rfl (pc0 := 128) (pc' := 151) rfl (hb hby at_128) rfl ((if0 _ _).trans (tlt hc17_128).2.2.1) (by decide) (by decide) ?_
        show Steps p.tables e below (T13.setTop (mkF m 151 #[.val (.long q1), .second, .val (.long q2), .second, .val (.int p3), .val (.int p4), .val (.int (1 : Int32)), .val (.ref s_CheckProfile_M2100), .val (.long (q2 &&& (4503599627370495 : Int64))), .second, .val (.long (own_v0_42 q2 p3)), .second, .val (.long ((own_v0_42 q2 p3) / (1000 : Int64))), .second, .val (.long ((own_v0_42 q2 p3) - (own_v0_42 q2 p3) / (1000 : Int64) * (1000 : Int64))), .second, .val (.long (own_v0_86 q1 q2 p3)), .second, .unset] [])) _
        refine XS.iconst X13.here hx rfl (hb hby at_151) ?_
        show Steps p.tables e below (T13.setTop (mkF m 152 #[.val (.long q1), .second, .val (.long q2), .second, .val (.int p3), .val (.int p4), .val (.int (1 : Int32)), .val (.ref s_CheckProfile_M2100), .val (.long (q2 &&& (4503599627370495 : Int64))), .second, .val (.long (own_v0_42 q2 p3)), .second, .val (.long ((own_v0_42 q2 p3) / (1000 : Int64))), .second, .val (.long ((own_v0_42 q2 p3) - (own_v0_42 q2 p3) / (1000 : Int64) * (1000 : Int64))), .second, .val (.long (own_v0_86 q1 q2 p3)), .second, .unset] [(.int (1 : Int32))])) _
        refine XS.goto X13.here hx rfl (pc0 := 152) (pc' := 156) rfl (hb hby at_152) (by decide) (by decide) ?_
        show Steps p.tables e below (T13.setTop (mkF m 156 #[.val (.long q1), .second, .val (.long q2), .second, .val (.int p3), .val (.int p4), .val (.int (1 : Int32)), .val (.ref s_CheckProfile_M2100), .val (.long (q2 &&& (4503599627370495 : Int64))), .second, .val (.long (own_v0_42 q2 p3)), .second, .val (.long ((own_v0_42 q2 p3) / (1000 : Int64))), .second, .val (.long ((own_v0_42 q2 p3) - (own_v0_42 q2 p3) / (1000 : Int64) * (1000 : Int64))), .second, .val (.long (own_v0_86 q1 q2 p3)), .second, .unset] [(.int (1 : Int32))])) _
        rw [show (own_v0_128a q1 q2 p3) = (1 : Int32) from ((if_pos hc17_128).trans rfl)] at kt
        exact kt
      · skip
        refine XS.ifNo X13.here hx rfl (hb hby at_128) rfl ((if0 _ _).trans (flt hc17_128).2.2.1) ?_
        show Steps p.tables e below (T13.setTop (mkF m 131 #[.val (.long q1), .second, .val (.long q2), .second, .val (.int p3), .val (.int p4), .val (.int (1 : Int32)), .val (.ref s_CheckProfile_M2100), .val (.long (q2 &&& (4503599627370495 : Int64))), .second, .val (.long (own_v0_42 q2 p3)), .second, .val (.long ((own_v0_42 q2 p3) / (1000 : Int64))), .second, .val (.long ((own_v0_42 q2 p3) - (own_v0_42 q2 p3) / (1000 : Int64) * (1000 : Int64))), .second, .val (.long (own_v0_86 q1 q2 p3)), .second, .unset] [])) _
        refine XS.iload X13.here hx rfl (hb hby at_131) rfl ?_
        show Steps p.tables e below (T13.setTop (mkF m 133 #[.val (.long q1), .second, .val (.long q2), .second, .val (.int p3), .val (.int p4), .val (.int (1 : Int32)), .val (.ref s_CheckProfile_M2100), .val (.long (q2 &&& (4503599627370495 : Int64))), .second, .val (.long (own_v0_42 q2 p3)), .second, .val (.long ((own_v0_42 q2 p3) / (1000 : Int64))), .second, .val (.long ((own_v0_42 q2 p3) - (own_v0_42 q2 p3) / (1000 : Int64) * (1000 : Int64))), .second, .val (.long (own_v0_86 q1 q2 p3)), .second, .unset] [(.int (1 : Int32))])) _
        refine XS.ifNo X13.here hx rfl (hb hby at_133) rfl ((if0 _ _).trans (feq (by decide : ¬ ((1 : Int32) = (0 : Int32)))).1) ?_
        show Steps p.tables e below (T13.setTop (mkF m 136 #[.val (.long q1), .second, .val (.long q2), .second, .val (.int p3), .val (.int p4), .val (.int (1 : Int32)), .val (.ref s_CheckProfile_M2100), .val (.long (q2 &&& (4503599627370495 : Int64))), .second, .val (.long (own_v0_42 q2 p3)), .second, .val (.long ((own_v0_42 q2 p3) / (1000 : Int64))), .second, .val (.long ((own_v0_42 q2 p3) - (own_v0_42 q2 p3) / (1000 : Int64) * (1000 : Int64))), .second, .val (.long (own_v0_86 q1 q2 p3)), .second, .unset] [])) _
        refine XS.lload X13.here hx rfl (hb hby at_136) rfl ?_
        show Steps p.tables e below (T13.setTop (mkF m 138 #[.val (.long q1), .second, .val (.long q2), .second, .val (.int p3), .val (.int p4), .val (.int (1 : Int32)), .val (.ref s_CheckProfile_M2100), .val (.long (q2 &&& (4503599627370495 : Int64))), .second, .val (.long (own_v0_42 q2 p3)), .second, .val (.long ((own_v0_42 q2 p3) / (1000 : Int64))), .second, .val (.long ((own_v0_42 q2 p3) - (own_v0_42 q2 p3) / (1000 : Int64) * (1000 : Int64))), .second, .val (.long (own_v0_86 q1 q2 p3)), .second, .unset] [(.long (own_v0_86 q1 q2 p3))])) _
        refine XS.lload X13.here hx rfl (hb hby at_138) rfl ?_
        show Steps p.tables e below (T13.setTop (mkF m 140 #[.val (.long q1), .second, .val (.long q2), .second, .val (.int p3), .val (.int p4), .val (.int (1 : Int32)), .val (.ref s_CheckProfile_M2100), .val (.long (q2 &&& (4503599627370495 : Int64))), .second, .val (.long (own_v0_42 q2 p3)), .second, .val (.long ((own_v0_42 q2 p3) / (1000 : Int64))), .second, .val (.long ((own_v0_42 q2 p3) - (own_v0_42 q2 p3) / (1000 : Int64) * (1000 : Int64))), .second, .val (.long (own_v0_86 q1 q2 p3)), .second, .unset] [(.long ((own_v0_42 q2 p3) / (1000 : Int64))), (.long (own_v0_86 q1 q2 p3))])) _
        refine XS.lcmp X13.here hx rfl (hb hby at_140) rfl ?_
        show Steps p.tables e below (T13.setTop (mkF m 141 #[.val (.long q1), .second, .val (.long q2), .second, .val (.int p3), .val (.int p4), .val (.int (1 : Int32)), .val (.ref s_CheckProfile_M2100), .val (.long (q2 &&& (4503599627370495 : Int64))), .second, .val (.long (own_v0_42 q2 p3)), .second, .val (.long ((own_v0_42 q2 p3) / (1000 : Int64))), .second, .val (.long ((own_v0_42 q2 p3) - (own_v0_42 q2 p3) / (1000 : Int64) * (1000 : Int64))), .second, .val (.long (own_v0_86 q1 q2 p3)), .second, .unset] [(.int (lcmpW (own_v0_86 q1 q2 p3) ((own_v0_42 q2 p3) / (1000 : Int64))))])) _
        by_cases hc18_141 : (lcmpW (own_v0_86 q1 q2 p3) ((own_v0_42 q2 p3) / (1000 : Int64))) = (0 : Int32)
        · skip
          refine XS.ifNo X13.here hx rfl (hb hby at_141) rfl ((if0 _ _).trans (teq hc18_141).2) ?_
          show Steps p.tables e below (T13.setTop (mkF m 144 #[.val (.long q1), .second, .val (.long q2), .second, .val (.int p3), .val (.int p4), .val (.int (1 : Int32)), .val (.ref s_CheckProfile_M2100), .val (.long (q2 &&& (4503599627370495 : Int64))), .second, .val (.long (own_v0_42 q2 p3)), .second, .val (.long ((own_v0_42 q2 p3) / (1000 : Int64))), .second, .val (.long ((own_v0_42 q2 p3) - (own_v0_42 q2 p3) / (1000 : Int64) * (1000 : Int64))), .second, .val (.long (own_v0_86 q1 q2 p3)), .second, .unset] [])) _
          refine XS.lload X13.here hx rfl (hb hby at_144) rfl ?_
          show Steps p.tables e below (T13.setTop (mkF m 146 #[.val (.long q1), .second, .val (.long q2), .second, .val (.int p3), .val (.int p4), .val (.int (1 : Int32)), .val (.ref s_CheckProfile_M2100), .val (.long (q2 &&& (4503599627370495 : Int64))), .second, .val (.long (own_v0_42 q2 p3)), .second, .val (.long ((own_v0_42 q2 p3) / (1000 : Int64))), .second, .val (.long ((own_v0_42 q2 p3) - (own_v0_42 q2 p3) / (1000 : Int64) * (1000 : Int64))), .second, .val (.long (own_v0_86 q1 q2 p3)), .second, .unset] [(.long ((own_v0_42 q2 p3) - (own_v0_42 q2 p3) / (1000 : Int64) * (1000 : Int64)))])) _
          refine XS.lconst X13.here hx rfl (hb hby at_146) ?_
          show Steps p.tables e below (T13.setTop (mkF m 147 #[.val (.long q1), .second, .val (.long q2), .second, .val (.int p3), .val (.int p4), .val (.int (1 : Int32)), .val (.ref s_CheckProfile_M2100), .val (.long (q2 &&& (4503599627370495 : Int64))), .second, .val (.long (own_v0_42 q2 p3)), .second, .val (.long ((own_v0_42 q2 p3) / (1000 : Int64))), .second, .val (.long ((own_v0_42 q2 p3) - (own_v0_42 q2 p3) / (1000 : Int64) * (1000 : Int64))), .second, .val (.long (own_v0_86 q1 q2 p3)), .second, .unset] [(.long (0 : Int64)), (.long ((own_v0_42 q2 p3) - (own_v0_42 q2 p3) / (1000 : Int64) * (1000 : Int64)))])) _
          refine XS.lcmp X13.here hx rfl (hb hby at_147) rfl ?_
          show Steps p.tables e below (T13.setTop (mkF m 148 #[.val (.long q1), .second, .val (.long q2), .second, .val (.int p3), .val (.int p4), .val (.int (1 : Int32)), .val (.ref s_CheckProfile_M2100), .val (.long (q2 &&& (4503599627370495 : Int64))), .second, .val (.long (own_v0_42 q2 p3)), .second, .val (.long ((own_v0_42 q2 p3) / (1000 : Int64))), .second, .val (.long ((own_v0_42 q2 p3) - (own_v0_42 q2 p3) / (1000 : Int64) * (1000 : Int64))), .second, .val (.long (own_v0_86 q1 q2 p3)), .second, .unset] [(.int (lcmpW ((own_v0_42 q2 p3) - (own_v0_42 q2 p3) / (1000 : Int64) * (1000 : Int64)) (0 : Int64)))])) _
          by_cases hc19_148 : (lcmpW ((own_v0_42 q2 p3) - (own_v0_42 q2 p3) / (1000 : Int64) * (1000 : Int64)) (0 : Int64)) = (0 : Int32)
          · skip
            refine XS.ifNo X13.here hx rfl (hb hby at_148) rfl ((if0 _ _).trans (teq hc19_148).2) ?_
            show Steps p.tables e below (T13.setTop (mkF m 151 #[.val (.long q1), .second, .val (.long q2), .second, .val (.int p3), .val (.int p4), .val (.int (1 : Int32)), .val (.ref s_CheckProfile_M2100), .val (.long (q2 &&& (4503599627370495 : Int64))), .second, .val (.long (own_v0_42 q2 p3)), .second, .val (.long ((own_v0_42 q2 p3) / (1000 : Int64))), .second, .val (.long ((own_v0_42 q2 p3) - (own_v0_42 q2 p3) / (1000 : Int64) * (1000 : Int64))), .second, .val (.long (own_v0_86 q1 q2 p3)), .second, .unset] [])) _
            refine XS.iconst X13.here hx rfl (hb hby at_151) ?_
            show Steps p.tables e below (T13.setTop (mkF m 152 #[.val (.long q1), .second, .val (.long q2), .second, .val (.int p3), .val (.int p4), .val (.int (1 : Int32)), .val (.ref s_CheckProfile_M2100), .val (.long (q2 &&& (4503599627370495 : Int64))), .second, .val (.long (own_v0_42 q2 p3)), .second, .val (.long ((own_v0_42 q2 p3) / (1000 : Int64))), .second, .val (.long ((own_v0_42 q2 p3) - (own_v0_42 q2 p3) / (1000 : Int64) * (1000 : Int64))), .second, .val (.long (own_v0_86 q1 q2 p3)), .second, .unset] [(.int (1 : Int32))])) _
            refine XS.goto X13.here hx rfl (pc0 := 152) (pc' := 156) rfl (hb hby at_152) (by decide) (by decide) ?_
            show Steps p.tables e below (T13.setTop (mkF m 156 #[.val (.long q1), .second, .val (.long q2), .second, .val (.int p3), .val (.int p4), .val (.int (1 : Int32)), .val (.ref s_CheckProfile_M2100), .val (.long (q2 &&& (4503599627370495 : Int64))), .second, .val (.long (own_v0_42 q2 p3)), .second, .val (.long ((own_v0_42 q2 p3) / (1000 : Int64))), .second, .val (.long ((own_v0_42 q2 p3) - (own_v0_42 q2 p3) / (1000 : Int64) * (1000 : Int64))), .second, .val (.long (own_v0_86 q1 q2 p3)), .second, .unset] [(.int (1 : Int32))])) _
            rw [show (own_v0_128a q1 q2 p3) = (1 : Int32) from ((if_neg hc17_128).trans ((if_pos hc18_141).trans ((if_pos hc19_148).trans rfl)))] at kt
            exact kt
          · skip
            refine XS.ifYes X13.here hx rfl (pc0 := 148) (pc' := 155) rfl (hb hby at_148) rfl ((if0 _ _).trans (feq hc19_148).2) (by decide) (by decide) ?_
            show Steps p.tables e below (T13.setTop (mkF m 155 #[.val (.long q1), .second, .val (.long q2), .second, .val (.int p3), .val (.int p4), .val (.int (1 : Int32)), .val (.ref s_CheckProfile_M2100), .val (.long (q2 &&& (4503599627370495 : Int64))), .second, .val (.long (own_v0_42 q2 p3)), .second, .val (.long ((own_v0_42 q2 p3) / (1000 : Int64))), .second, .val (.long ((own_v0_42 q2 p3) - (own_v0_42 q2 p3) / (1000 : Int64) * (1000 : Int64))), .second, .val (.long (own_v0_86 q1 q2 p3)), .second, .unset] [])) _
            refine XS.iconst X13.here hx rfl (hb hby at_155) ?_
            show Steps p.tables e below (T13.setTop (mkF m 156 #[.val (.long q1), .second, .val (.long q2), .second, .val (.int p3), .val (.int p4), .val (.int (1 : Int32)), .val (.ref s_CheckProfile_M2100), .val (.long (q2 &&& (4503599627370495 : Int64))), .second, .val (.long (own_v0_42 q2 p3)), .second, .val (.long ((own_v0_42 q2 p3) / (1000 : Int64))), .second, .val (.long ((own_v0_42 q2 p3) - (own_v0_42 q2 p3) / (1000 : Int64) * (1000 : Int64))), .second, .val (.long (own_v0_86 q1 q2 p3)), .second, .unset] [(.int (0 : Int32))])) _
            rw [show (own_v0_128a q1 q2 p3) = (0 : Int32) from ((if_neg hc17_128).trans ((if_pos hc18_141).trans ((if_neg hc19_148).trans rfl)))] at kt
            exact kt
        · skip
          refine XS.ifYes X13.here hx rfl (pc0 := 141) (pc' := 155) rfl (hb hby at_141) rfl ((if0 _ _).trans (feq hc18_141).2) (by decide) (by decide) ?_
          show Steps p.tables e below (T13.setTop (mkF m 155 #[.val (.long q1), .second, .val (.long q2), .second, .val (.int p3), .val (.int p4), .val (.int (1 : Int32)), .val (.ref s_CheckProfile_M2100), .val (.long (q2 &&& (4503599627370495 : Int64))), .second, .val (.long (own_v0_42 q2 p3)), .second, .val (.long ((own_v0_42 q2 p3) / (1000 : Int64))), .second, .val (.long ((own_v0_42 q2 p3) - (own_v0_42 q2 p3) / (1000 : Int64) * (1000 : Int64))), .second, .val (.long (own_v0_86 q1 q2 p3)), .second, .unset] [])) _
          refine XS.iconst X13.here hx rfl (hb hby at_155) ?_
          show Steps p.tables e below (T13.setTop (mkF m 156 #[.val (.long q1), .second, .val (.long q2), .second, .val (.int p3), .val (.int p4), .val (.int (1 : Int32)), .val (.ref s_CheckProfile_M2100), .val (.long (q2 &&& (4503599627370495 : Int64))), .second, .val (.long (own_v0_42 q2 p3)), .second, .val (.long ((own_v0_42 q2 p3) / (1000 : Int64))), .second, .val (.long ((own_v0_42 q2 p3) - (own_v0_42 q2 p3) / (1000 : Int64) * (1000 : Int64))), .second, .val (.long (own_v0_86 q1 q2 p3)), .second, .unset] [(.int (0 : Int32))])) _
          rw [show (own_v0_128a q1 q2 p3) = (0 : Int32) from ((if_neg hc17_128).trans ((if_neg hc18_141).trans rfl))] at kt
          exact kt
    show own_Go p.tables e below _ (T13.setTop (mkF m 156 #[.val (.long q1), .second, .val (.long q2), .second, .val (.int p3), .val (.int p4), .val (.int (1 : Int32)), .val (.ref s_CheckProfile_M2100), .val (.long (q2 &&& (4503599627370495 : Int64))), .second, .val (.long (own_v0_42 q2 p3)), .second, .val (.long ((own_v0_42 q2 p3) / (1000 : Int64))), .second, .val (.long ((own_v0_42 q2 p3) - (own_v0_42 q2 p3) / (1000 : Int64) * (1000 : Int64))), .second, .val (.long (own_v0_86 q1 q2 p3)), .second, .unset] [(.int (own_v0_128a q1 q2 p3))]))
    refine own_go (fun _ => XS.istore X13.here hx rfl (hb hby at_156) rfl (l' := #[.val (.long q1), .second, .val (.long q2), .second, .val (.int p3), .val (.int p4), .val (.int (1 : Int32)), .val (.ref s_CheckProfile_M2100), .val (.long (q2 &&& (4503599627370495 : Int64))), .second, .val (.long (own_v0_42 q2 p3)), .second, .val (.long ((own_v0_42 q2 p3) / (1000 : Int64))), .second, .val (.long ((own_v0_42 q2 p3) - (own_v0_42 q2 p3) / (1000 : Int64) * (1000 : Int64))), .second, .val (.long (own_v0_86 q1 q2 p3)), .second, .val (.int (own_v0_128a q1 q2 p3))]) rfl) ?_
    show own_Go p.tables e below _ (T13.setTop (mkF m 158 #[.val (.long q1), .second, .val (.long q2), .second, .val (.int p3), .val (.int p4), .val (.int (1 : Int32)), .val (.ref s_CheckProfile_M2100), .val (.long (q2 &&& (4503599627370495 : Int64))), .second, .val (.long (own_v0_42 q2 p3)), .second, .val (.long ((own_v0_42 q2 p3) / (1000 : Int64))), .second, .val (.long ((own_v0_42 q2 p3) - (own_v0_42 q2 p3) / (1000 : Int64) * (1000 : Int64))), .second, .val (.long (own_v0_86 q1 q2 p3)), .second, .val (.int (own_v0_128a q1 q2 p3))] []))
    refine own_go (fun _ => XS.aload X13.here hx rfl (hb hby at_158) rfl rfl) ?_
    show own_Go p.tables e below _ (T13.setTop (mkF m 160 #[.val (.long q1), .second, .val (.long q2), .second, .val (.int p3), .val (.int p4), .val (.int (1 : Int32)), .val (.ref s_CheckProfile_M2100), .val (.long (q2 &&& (4503599627370495 : Int64))), .second, .val (.long (own_v0_42 q2 p3)), .second, .val (.long ((own_v0_42 q2 p3) / (1000 : Int64))), .second, .val (.long ((own_v0_42 q2 p3) - (own_v0_42 q2 p3) / (1000 : Int64) * (1000 : Int64))), .second, .val (.long (own_v0_86 q1 q2 p3)), .second, .val (.int (own_v0_128a q1 q2 p3))] [(.ref s_CheckProfile_M2100)]))
    refine own_go (fun _ => XS.lload X13.here hx rfl (hb hby at_160) rfl) ?_
    show own_Go p.tables e below _ (T13.setTop (mkF m 162 #[.val (.long q1), .second, .val (.long q2), .second, .val (.int p3), .val (.int p4), .val (.int (1 : Int32)), .val (.ref s_CheckProfile_M2100), .val (.long (q2 &&& (4503599627370495 : Int64))), .second, .val (.long (own_v0_42 q2 p3)), .second, .val (.long ((own_v0_42 q2 p3) / (1000 : Int64))), .second, .val (.long ((own_v0_42 q2 p3) - (own_v0_42 q2 p3) / (1000 : Int64) * (1000 : Int64))), .second, .val (.long (own_v0_86 q1 q2 p3)), .second, .val (.int (own_v0_128a q1 q2 p3))] [(.long (own_v0_86 q1 q2 p3)), (.ref s_CheckProfile_M2100)]))
    refine own_go (fun _ => XS.lload X13.here hx rfl (hb hby at_162) rfl) ?_
    show own_Go p.tables e below _ (T13.setTop (mkF m 164 #[.val (.long q1), .second, .val (.long q2), .second, .val (.int p3), .val (.int p4), .val (.int (1 : Int32)), .val (.ref s_CheckProfile_M2100), .val (.long (q2 &&& (4503599627370495 : Int64))), .second, .val (.long (own_v0_42 q2 p3)), .second, .val (.long ((own_v0_42 q2 p3) / (1000 : Int64))), .second, .val (.long ((own_v0_42 q2 p3) - (own_v0_42 q2 p3) / (1000 : Int64) * (1000 : Int64))), .second, .val (.long (own_v0_86 q1 q2 p3)), .second, .val (.int (own_v0_128a q1 q2 p3))] [(.long (own_v0_42 q2 p3)), (.long (own_v0_86 q1 q2 p3)), (.ref s_CheckProfile_M2100)]))
    obtain ⟨cq20, kq20, q20a, q20b, q20c⟩ := isOf hZ e13 E_s_CheckProfile_M2100
    obtain ⟨_, _, ⟨T20, L20, k20, n20⟩, -, X20, ⟨Lc20, hQ20, l20, y20, z20⟩, st20⟩ := X13.virtualBack hx (y := (⟨"com/example/pathgauge/pathgauge/prbs/CheckProfile", "severe", "(JJ)Z"⟩ : MethodName)) (z := (⟨"com/example/pathgauge/pathgauge/prbs/CheckProfile", "severe", "(JJ)Z"⟩ : MethodName)) hown (mvT hZ (hw _ (List.mem_of_getElem? (i := 5) rfl))) (mvT hZ (hw _ (List.mem_of_getElem? (i := 6) rfl))) (notFace_of_selects (args := #[]) (mvT hZ (hw _ (List.mem_of_getElem? (i := 8) rfl)))) (mvT hZ (hw _ (List.mem_of_getElem? (i := 8) rfl))) (mvT hZ (hw _ (List.mem_of_getElem? (i := 7) rfl))) (by decide) (backOf (W := 0) (rm1 l Z a0 hw [] s_CheckProfile_M2100 (own_v0_86 q1 q2 p3) (own_v0_42 q2 p3) (1 : Int32) h0 n0 Z0 F_ti_s_CheckProfile_M2100) hZ (hw _ (List.mem_of_getElem? (i := 9) rfl)) (hw _ (List.mem_of_getElem? (i := 1) rfl)) (by decide) (by decide)) q20a q20c (g := (mkF m 164 #[.val (.long q1), .second, .val (.long q2), .second, .val (.int p3), .val (.int p4), .val (.int (1 : Int32)), .val (.ref s_CheckProfile_M2100), .val (.long (q2 &&& (4503599627370495 : Int64))), .second, .val (.long (own_v0_42 q2 p3)), .second, .val (.long ((own_v0_42 q2 p3) / (1000 : Int64))), .second, .val (.long ((own_v0_42 q2 p3) - (own_v0_42 q2 p3) / (1000 : Int64) * (1000 : Int64))), .second, .val (.long (own_v0_86 q1 q2 p3)), .second, .val (.int (own_v0_128a q1 q2 p3))] [(.long (own_v0_42 q2 p3)), (.long (own_v0_86 q1 q2 p3)), (.ref s_CheckProfile_M2100)])) rfl (by rw [hml]; rfl) (Steps.refl _) (argsL := [(.long (own_v0_86 q1 q2 p3)), (.long (own_v0_42 q2 p3))]) (rest := []) (lenOf pd_0 rfl) rfl (by show 2 * 0 + _ ≤ _; exact Nat.le_of_eq rfl) (hb hby at_164) (fun _ _ => ⟨rfl, e13, (by decide : 0 + 0 ≤ _), (by decide : 0 + 0 ≤ _)⟩)
    dsimp only [Pt.U, Pt.locs, Pt.cells, Pt.slots] at X20 l20 y20 z20 st20 hQ20
    subst l20 y20 z20
    obtain ⟨rfl, N20q, e20⟩ := hQ20
    have N20 := Fr.app N0 N20q
    refine own_via st20 ?_
    show own_Go p.tables e below _ (T20.setTop (mkF m 167 #[.val (.long q1), .second, .val (.long q2), .second, .val (.int p3), .val (.int p4), .val (.int (1 : Int32)), .val (.ref s_CheckProfile_M2100), .val (.long (q2 &&& (4503599627370495 : Int64))), .second, .val (.long (own_v0_42 q2 p3)), .second, .val (.long ((own_v0_42 q2 p3) / (1000 : Int64))), .second, .val (.long ((own_v0_42 q2 p3) - (own_v0_42 q2 p3) / (1000 : Int64) * (1000 : Int64))), .second, .val (.long (own_v0_86 q1 q2 p3)), .second, .val (.int (own_v0_128a q1 q2 p3))] [(.int (own_f1 (own_v0_86 q1 q2 p3) (own_v0_42 q2 p3) (1 : Int32)))]))
    refine own_go (fun _ => XS.iload X20.here hx rfl (hb hby at_167) rfl) ?_
    show own_Go p.tables e below _ (T20.setTop (mkF m 169 #[.val (.long q1), .second, .val (.long q2), .second, .val (.int p3), .val (.int p4), .val (.int (1 : Int32)), .val (.ref s_CheckProfile_M2100), .val (.long (q2 &&& (4503599627370495 : Int64))), .second, .val (.long (own_v0_42 q2 p3)), .second, .val (.long ((own_v0_42 q2 p3) / (1000 : Int64))), .second, .val (.long ((own_v0_42 q2 p3) - (own_v0_42 q2 p3) / (1000 : Int64) * (1000 : Int64))), .second, .val (.long (own_v0_86 q1 q2 p3)), .second, .val (.int (own_v0_128a q1 q2 p3))] [(.int (own_v0_128a q1 q2 p3)), (.int (own_f1 (own_v0_86 q1 q2 p3) (own_v0_42 q2 p3) (1 : Int32)))]))
    by_cases hc21_169 : (own_f1 (own_v0_86 q1 q2 p3) (own_v0_42 q2 p3) (1 : Int32)) = (own_v0_128a q1 q2 p3)
    · skip
      refine own_go (fun _ => XS.icmpNo X20.here hx rfl (hb hby at_169) rfl (teq hc21_169).2) ?_
      show own_Go p.tables e below _ (T20.setTop (mkF m 172 #[.val (.long q1), .second, .val (.long q2), .second, .val (.int p3), .val (.int p4), .val (.int (1 : Int32)), .val (.ref s_CheckProfile_M2100), .val (.long (q2 &&& (4503599627370495 : Int64))), .second, .val (.long (own_v0_42 q2 p3)), .second, .val (.long ((own_v0_42 q2 p3) / (1000 : Int64))), .second, .val (.long ((own_v0_42 q2 p3) - (own_v0_42 q2 p3) / (1000 : Int64) * (1000 : Int64))), .second, .val (.long (own_v0_86 q1 q2 p3)), .second, .val (.int (own_v0_128a q1 q2 p3))] []))
      refine own_go (fun _ => XS.iconst X20.here hx rfl (hb hby at_172)) ?_
      show own_Go p.tables e below _ (T20.setTop (mkF m 173 #[.val (.long q1), .second, .val (.long q2), .second, .val (.int p3), .val (.int p4), .val (.int (1 : Int32)), .val (.ref s_CheckProfile_M2100), .val (.long (q2 &&& (4503599627370495 : Int64))), .second, .val (.long (own_v0_42 q2 p3)), .second, .val (.long ((own_v0_42 q2 p3) / (1000 : Int64))), .second, .val (.long ((own_v0_42 q2 p3) - (own_v0_42 q2 p3) / (1000 : Int64) * (1000 : Int64))), .second, .val (.long (own_v0_86 q1 q2 p3)), .second, .val (.int (own_v0_128a q1 q2 p3))] [(.int (1 : Int32))]))
      refine own_go (fun _ => XS.goto X20.here hx rfl (pc0 := 173) (pc' := 177) rfl (hb hby at_173) (by decide) (by decide)) ?_
      show own_Go p.tables e below _ (T20.setTop (mkF m 177 #[.val (.long q1), .second, .val (.long q2), .second, .val (.int p3), .val (.int p4), .val (.int (1 : Int32)), .val (.ref s_CheckProfile_M2100), .val (.long (q2 &&& (4503599627370495 : Int64))), .second, .val (.long (own_v0_42 q2 p3)), .second, .val (.long ((own_v0_42 q2 p3) / (1000 : Int64))), .second, .val (.long ((own_v0_42 q2 p3) - (own_v0_42 q2 p3) / (1000 : Int64) * (1000 : Int64))), .second, .val (.long (own_v0_86 q1 q2 p3)), .second, .val (.int (own_v0_128a q1 q2 p3))] [(.int (1 : Int32))]))
      refine own_retN X20 Bd.notSynchronized hx (t := .boolean) Bd.returns (by simp) (hb hby at_177) (show Q0 Z q1 q2 p3 p4 s_CheckProfile_M2100 s_CheckProfile_G821 h0 n0 _ T20.heap _ from by rw [e20]; exact ⟨(own_val ((if_neg hc5_4).trans ((if_pos hc21_169).trans rfl))), N20⟩) (by decide) (by decide)
    · skip
      refine own_go (fun _ => XS.icmpYes X20.here hx rfl (pc0 := 169) (pc' := 176) rfl (hb hby at_169) rfl (feq hc21_169).2 (by decide) (by decide)) ?_
      show own_Go p.tables e below _ (T20.setTop (mkF m 176 #[.val (.long q1), .second, .val (.long q2), .second, .val (.int p3), .val (.int p4), .val (.int (1 : Int32)), .val (.ref s_CheckProfile_M2100), .val (.long (q2 &&& (4503599627370495 : Int64))), .second, .val (.long (own_v0_42 q2 p3)), .second, .val (.long ((own_v0_42 q2 p3) / (1000 : Int64))), .second, .val (.long ((own_v0_42 q2 p3) - (own_v0_42 q2 p3) / (1000 : Int64) * (1000 : Int64))), .second, .val (.long (own_v0_86 q1 q2 p3)), .second, .val (.int (own_v0_128a q1 q2 p3))] []))
      refine own_go (fun _ => XS.iconst X20.here hx rfl (hb hby at_176)) ?_
      show own_Go p.tables e below _ (T20.setTop (mkF m 177 #[.val (.long q1), .second, .val (.long q2), .second, .val (.int p3), .val (.int p4), .val (.int (1 : Int32)), .val (.ref s_CheckProfile_M2100), .val (.long (q2 &&& (4503599627370495 : Int64))), .second, .val (.long (own_v0_42 q2 p3)), .second, .val (.long ((own_v0_42 q2 p3) / (1000 : Int64))), .second, .val (.long ((own_v0_42 q2 p3) - (own_v0_42 q2 p3) / (1000 : Int64) * (1000 : Int64))), .second, .val (.long (own_v0_86 q1 q2 p3)), .second, .val (.int (own_v0_128a q1 q2 p3))] [(.int (0 : Int32))]))
      refine own_retN X20 Bd.notSynchronized hx (t := .boolean) Bd.returns (by simp) (hb hby at_177) (show Q0 Z q1 q2 p3 p4 s_CheckProfile_M2100 s_CheckProfile_G821 h0 n0 _ T20.heap _ from by rw [e20]; exact ⟨(own_val ((if_neg hc5_4).trans ((if_neg hc21_169).trans rfl))), N20⟩) (by decide) (by decide)
theorem own_eqL {args : Array Value} {first s : State} {o : Option Outcome} {idx : List Nat} {a : Term} {k : Int64} (h : (Jvm.Cond.eq a (.long k)).value args first o s idx = some true) : a.eval args first o idx s = some (.long k) := by
  cases ha : a.eval args first o idx s with
  | none => simp [Cond.value, ha] at h
  | some x => cases x <;> simp [Cond.value, ha, Term.eval] at h ⊢ <;> exact h
theorem own_eqI {args : Array Value} {first s : State} {o : Option Outcome} {idx : List Nat} {a : Term} {k : Int32} (h : (Jvm.Cond.eq a (.int k)).value args first o s idx = some true) : a.eval args first o idx s = some (.int k) := by
  cases ha : a.eval args first o idx s with
  | none => simp [Cond.value, ha] at h
  | some x => cases x <;> simp [Cond.value, ha, Term.eval] at h ⊢ <;> exact h
theorem own_k1 : (1000 : Int64).toInt = 1000 := rfl
theorem own_mul (x : Int64) (h1 : 0 ≤ x.toInt) (h2 : x.toInt ≤ 4503599627372000) : (x * 1000).toInt = x.toInt * 1000 := by
  rw [Int64.toInt_mul, own_k1, Int.bmod_eq_of_le (by omega) (by omega)]
theorem own_base (x : Int64) : 0 ≤ (x &&& (4503599627370495 : Int64)).toInt ∧ (x &&& (4503599627370495 : Int64)).toInt ≤ 4503599627370495 := by
  have h := c_maskL x 4503599627370495 52 (by decide) (by decide)
  rw [h]
  have e : ((2 ^ 52 : Nat) : Int) = 4503599627370496 := by decide
  rw [e]
  omega
theorem own_c (q2 : Int64) (p3 : Int32) : 0 < (own_v0_42 q2 p3).toInt ∧ (own_v0_42 q2 p3).toInt ≤ 4503599627372000 := by
  have hb := own_base q2
  unfold own_v0_42
  generalize q2 &&& (4503599627370495 : Int64) = b at *
  have e1 : (1 : Int64).toInt = 1 := rfl
  split
  · have h := c_ladd b 1
    have r := rng64 (b + 1)
    omega
  · have h0 := (c_ldiv b 1000 1000 rfl (by decide)).1 hb.1
    have h := c_ladd (b / 1000) 1
    have r := rng64 (b / 1000 + 1)
    have e3 : (b / 1000 + 1).toInt = b.toInt / 1000 + 1 := by omega
    rw [own_mul _ (by omega) (by omega), e3]
    omega
theorem own_three (x : Int32) : 0 ≤ ((x &&& (3 : Int32)).toInt64).toInt ∧ ((x &&& (3 : Int32)).toInt64).toInt ≤ 3 := by
  rw [c_i2l]
  have h := c_and x 3 (by decide)
  have e : (3 : Int32).toInt = 3 := rfl
  omega
theorem own_e (q1 q2 : Int64) (p3 : Int32) : 0 ≤ (own_v0_86 q1 q2 p3).toInt ∧ (own_v0_86 q1 q2 p3).toInt ≤ 4503599627372000 := by
  have hc := own_c q2 p3
  have hb := own_base q1
  unfold own_v0_86
  generalize own_v0_42 q2 p3 = c at *
  have h3 := own_three (p3 >>> ((1 : Int32) &&& 31))
  generalize ((p3 >>> ((1 : Int32) &&& 31)) &&& (3 : Int32)).toInt64 = t at *
  have e1 : (1 : Int64).toInt = 1 := rfl
  have e0 : (0 : Int64).toInt = 0 := rfl
  split
  · split
    · rw [e0]; omega
    · rename_i h
      rw [lw_lt, Int64.lt_iff_toInt_lt, e0] at h
      have a0 := (c_ldiv c 1000 1000 rfl (by decide)).1 (by omega)
      have a1 := c_ladd (c / 1000) t
      have r1 := rng64 (c / 1000 + t)
      have a2 := c_lsub (c / 1000 + t) 1
      have r2 := rng64 (c / 1000 + t - 1)
      omega
  · omega
theorem own_core0 (e c : Int64) (he : 0 ≤ e.toInt ∧ e.toInt ≤ 4503599627372000) (hc : 0 < c.toInt ∧ c.toInt ≤ 4503599627372000) : ((0 : Int32) < lcmpW (e * 1000) c) ↔ ((0 : Int32) < lcmpW e (c / 1000)) := by
  rw [lw_gt, lw_gt, Int64.lt_iff_toInt_lt, Int64.lt_iff_toInt_lt]
  have a0 := (c_ldiv c 1000 1000 rfl (by decide)).1 (by omega)
  rw [a0, own_mul e he.1 he.2]
  omega
theorem own_core1 (e c : Int64) (he : 0 ≤ e.toInt ∧ e.toInt ≤ 4503599627372000) (hc : 0 < c.toInt ∧ c.toInt ≤ 4503599627372000) : (lcmpW (e * 1000) c < (0 : Int32)) ↔ ¬ ((0 : Int32) < lcmpW e (c / 1000) ∨ (lcmpW e (c / 1000) = 0 ∧ lcmpW (c - c / 1000 * 1000) 0 = 0)) := by
  rw [lw_lt, lw_gt, lw_eq, lw_eq, Int64.lt_iff_toInt_lt, Int64.lt_iff_toInt_lt, ← Int64.toInt_inj, ← Int64.toInt_inj]
  have a0 := (c_ldiv c 1000 1000 rfl (by decide)).1 (by omega)
  have a2 := (c_lrem c 1000 1000 rfl).1 (by omega)
  have e0 : (0 : Int64).toInt = 0 := rfl
  rw [a0, a2, e0, own_mul e he.1 he.2]
  omega
theorem own_law (q1 q2 : Int64) (p3 p4 : Int32) : own_f0 q1 q2 p3 p4 = 1 := by
  have he := own_e q1 q2 p3
  have hc := own_c q2 p3
  unfold own_f0 own_f1 own_v0_128 own_v0_128a
  generalize own_v0_86 q1 q2 p3 = e at *
  generalize own_v0_42 q2 p3 = c at *
  have h0 := own_core0 e c he hc
  have h1 := own_core1 e c he hc
  have n1 : ¬ (1 : Int32) = 0 := by decide
  by_cases hp : (p4 &&& 1) = 0
  · rw [if_pos hp, if_pos rfl]
    by_cases g : (0 : Int32) < lcmpW e (c / 1000)
    · rw [if_pos g, if_pos (h0.mpr g), if_pos rfl]
    · rw [if_neg g, if_neg (fun q => g (h0.mp q)), if_pos rfl]
  · rw [if_neg hp, if_neg n1]
    by_cases g : (0 : Int32) < lcmpW e (c / 1000)
    · rw [if_pos g, if_neg (fun q => (h1.mp q) (Or.inl g)), if_pos rfl]
    · rw [if_neg g]
      by_cases g2 : lcmpW e (c / 1000) = 0
      · rw [if_pos g2]
        by_cases g3 : lcmpW (c - c / 1000 * 1000) 0 = 0
        · rw [if_pos g3, if_neg (fun q => (h1.mp q) (Or.inr ⟨g2, g3⟩)), if_pos rfl]
        · rw [if_neg g3, if_pos (h1.mpr (fun q => q.elim g fun r => g3 r.2)), if_pos rfl]
      · rw [if_neg g2, if_pos (h1.mpr (fun q => q.elim g fun r => g2 r.1)), if_pos rfl]
set_option maxRecDepth 65536 in
set_option maxHeartbeats 40000000 in
theorem comes_1 {Post : Tables → Env → Array Value → State → Outcome → State → Prop} (hpost : ∀ tb e args s v u, (limb_1_1.after args s (.returned v) u = true ∧ limb_1_2.after args s (.returned v) u = true ∧ True) → FrameEnd s (.returned v) u (Jvm.fieldLocs frame_1_writes args s ++ Jvm.arrayLocs frame_1_arrays args s ++ Jvm.staticLocs frame_1_statics s) 0 0 → Post tb e args s (.returned v) u) :
    ArmFor flags0 classFile x code maxLocals ret World_1 tables_1 room_1 Calls_1 rest_1 Pre_1 Post := by
  intro l hfl _ _ p e ha hc hk s m args below hf hA hF happ hP
  obtain ⟨hcalls, hrest, hpre⟩ := hP
  obtain ⟨-, -, -, hnamed, -, -, -, hat⟩ := (Spec.applies_iff hf).mp happ
  obtain ⟨hg, hn⟩ := and_e (Cond.before_iff.mp (show (Jvm.Cond.and given_1 narrow_1).before args s = true from hpre))
  obtain ⟨g1, g2⟩ := and_e hg
  obtain ⟨g3, g4⟩ := and_e g2
  obtain ⟨g5, g6⟩ := and_e g4
  obtain ⟨g7, g8⟩ := and_e g6
  obtain ⟨w0, w1, w2, w3, rfl⟩ : ∃ w0 w1 w2 w3 : Value, args = #[w0, w1, w2, w3] := by
    have hs : args.size = 4 := by simpa [Cond.value, given_1] using g1
    obtain ⟨L⟩ := args
    match L, hs with
    | [w0, w1, w2, w3], _ => exact ⟨w0, w1, w2, w3, rfl⟩
  have hw := fun d (hd : d ∈ tables_1) => atoms_spec (ws := Jvm.Cond.code x code maxLocals ret :: tables_1) hat d (List.mem_cons_of_mem _ hd)
  have hfit : Fit s := fun {y c} hc i hi => by
    obtain ⟨ha, rfl⟩ := Array.getElem?_eq_some_iff.mp hc
    have q := List.all_eq_true.mp ((Array.all_eq_true_iff_forall_mem.mp hF) _ (Array.getElem_mem ha)) i (List.mem_range.mpr hi)
    simpa [Array.getElem?_eq_getElem hi] using q
  obtain ⟨i0, ei0⟩ := isL_v g3
  obtain rfl : w0 = (.long i0) := Option.some.inj ei0
  obtain ⟨i1, ei1⟩ := isL_v g5
  obtain rfl : w1 = (.long i1) := Option.some.inj ei1
  obtain ⟨i2, ei2⟩ := is_v g7
  obtain rfl : w2 = (.int i2) := Option.some.inj ei2
  obtain ⟨i3, ei3⟩ := is_v g8
  obtain rfl : w3 = (.int i3) := Option.some.inj ei3
  obtain ⟨n1, n2⟩ := and_e hn
  obtain ⟨n3, n4⟩ := and_e n2
  obtain ⟨n5, n6⟩ := and_e n4
  obtain ⟨aM, eM⟩ := exa_v n1
  obtain ⟨aG, eG⟩ := exa_v n5
  have SM : Sta s s.heap "com/example/pathgauge/pathgauge/prbs/CheckProfile" "M2100" "Lcom/example/pathgauge/pathgauge/prbs/CheckProfile;" (.ref aM) := Sta.start eM (Or.inr ⟨(hw _ (List.mem_of_getElem? (i := 1) rfl)), (hw _ (List.mem_of_getElem? (i := 2) rfl))⟩)
  have SG : Sta s s.heap "com/example/pathgauge/pathgauge/prbs/CheckProfile" "G821" "Lcom/example/pathgauge/pathgauge/prbs/CheckProfile;" (.ref aG) := Sta.start eG (Or.inr ⟨(hw _ (List.mem_of_getElem? (i := 1) rfl)), (hw _ (List.mem_of_getElem? (i := 14) rfl))⟩)
  have EM := Exa.start eM n1
  have EG := Exa.start eG n5
  have FM : Fld s s.heap aM "com/example/pathgauge/pathgauge/prbs/CheckProfile" "thresholdIncluded" "Z" (.int 1) := Fld.start ((fld_at eM).symm.trans (own_eqI n3))
  have FG : Fld s s.heap aG "com/example/pathgauge/pathgauge/prbs/CheckProfile" "thresholdIncluded" "Z" (.int 0) := Fld.start ((fld_at eG).symm.trans (own_eqI n6))
  obtain ⟨n, o, h1, h2, h3, _, L, rfl, ⟨rfl, N⟩, hq⟩ := rm0 l s _ hw tables_1 i0 i1 i2 i3 aM aG s.heap s.heap.size (Nat.le_refl _) SM EM FM SG EG FG (Old.start s) p e ha hc hk s m _ below hf ((Spec.applies_iff_loose hf).mp happ).1 ⟨rfl, State.Warmed39.refl s, rfl⟩ trivial
  refine ⟨n, _, h1, h2, h3, hpost _ _ _ _ _ _ ⟨Cond.after_iff.mpr rfl, Cond.after_iff.mpr (eq_i res_at (Term.int_eval (1)) (congrArg Value.int (own_law i0 i1 i2 i3))), trivial⟩ ⟨hq.1, hq.2.1, (hq.2.2.sift fun y hy => Or.inr (N y hy)).mono (by decide) (by decide)⟩⟩
theorem main_1_1 : Claimed_1_1 := comes_1 fun _ _ _ _ _ _ h hF => ⟨h.1, hF⟩
theorem main_1_2 : Claimed_1_2 := comes_1 fun _ _ _ _ _ _ h hF => ⟨h.2.1, hF⟩
end Jvm.Pilot.@@N@@
namespace Jvm.Pilot.@@N@@
open Jvm Jvm.ClassFile Sem Op Lib Jvm.Free Jvm.Stand Jvm.Pilot.@@N@@.Jvm.D
/-! MADE BY PROGRAM (witnessworld.py) out of the Statement's table words and the real class files: 13 classes; the members and pool entries that the words name. The judged class is class 1, her method 1. -/
namespace start1
open Jvm.ClassFile
def u (s : String) : CpInfo := .utf8 (stringToUtf16 s)
/-- a pool by its gaps: so many unusable entries, then the entry; so many at the end -/
def gap : Nat → List CpInfo → List CpInfo
  | 0, r => r
  | n + 1, r => .unusable :: gap n r
def poolList (es : List (Nat × CpInfo)) (last : Nat) : List CpInfo := es.foldr (fun e r => gap e.1 (e.2 :: r)) (gap last [])
def pool (es : List (Nat × CpInfo)) (last : Nat) : Array CpInfo := ⟨poolList es last⟩
def fileOf (pool : Array CpInfo) (this : Nat) (attrs : Array Attribute := #[]) (ms : Array MethodInfo := #[]) (fl : Nat := 33) (sup : Nat := 0) (ifs : Array Nat := #[]) (fds : Array FieldInfo := #[]) : ClassFile where
  minorVersion := 0
  majorVersion := 65
  constantPool := pool
  accessFlags := fl
  thisClass := this
  superClass := sup
  interfaces := ifs
  fields := fds
  methods := ms
  attributes := attrs
def plain (name : String) (sup : Option ClassId) : Class where
  name := name
  kind := .ordinary
  loader := none
  accessFlags := 33
  super := sup
  interfaces := #[]
  cf := none
  fields := #[]
  methods := #[]
  instanceTypes := #[]
  staticTypes := #[]
  resolved := #[]
  callSites := []
  init := .initialized
  statics := none
  mirror := none

def pool0 : Array CpInfo := pool [(5, u "<init>"), (0, u "()V"), (1, .class_ 10), (1, u "java/lang/Object")] 113

def k0m0 : Method := { name := "<init>", desc := "()V", sig := { parameters := [], returnType := none }, accessFlags := 1, code := none }
/-- java/lang/Object -/
def k0 : Class := { plain "java/lang/Object" none with
  accessFlags := 33
  interfaces := #[]
  cf := some (fileOf pool0 8 #[] #[{ accessFlags := 1, nameIndex := 5, descriptorIndex := 6, attributes := #[] }] 33 0 #[] #[])
  fields := #[]
  methods := #[k0m0]
  instanceTypes := #[]
  staticTypes := #[]
  resolved := Array.replicate 124 none
  statics := none }

def pool1 : Array CpInfo := pool [(2, .class_ 4), (1, u "java/lang/Object"), (0, u "<init>"), (0, u "()V"), (0, .fieldref 8 9), (0, .class_ 10), (0, .nameAndType 11 12), (0, u "com/example/pathgauge/pathgauge/prbs/CheckProfile"), (0, u "M2100"), (0, u "Lcom/example/pathgauge/pathgauge/prbs/CheckProfile;"), (0, .fieldref 8 14), (0, .nameAndType 15 12), (0, u "G821"), (0, .long 4503599627370495), (1, .long 1000), (1, .methodref 8 21), (0, .nameAndType 22 23), (0, u "severe"), (0, u "(JJ)Z"), (0, .class_ 25), (0, u "com/example/pathgauge/pathgauge/prbs/CheckProfileSeverePinLaw"), (2, u "law"), (0, u "(JJII)Z")] 3

def k1m0 : Method := { name := "<init>", desc := "()V", sig := { parameters := [], returnType := none }, accessFlags := 1, code := none }
def k1c1 : Code := { maxStack := 5, maxLocals := 19, code := code, exceptionTable := #[], attributes := #[] }
def k1m1 : Method := { name := "law", desc := "(JJII)Z", sig := { parameters := [.long, .long, .int, .int], returnType := some .boolean }, accessFlags := 9, code := some k1c1 }
/-- com/example/pathgauge/pathgauge/prbs/CheckProfileSeverePinLaw -/
def k1 : Class := { plain "com/example/pathgauge/pathgauge/prbs/CheckProfileSeverePinLaw" (some 0) with
  accessFlags := 49
  interfaces := #[]
  cf := some (fileOf pool1 24 #[] #[{ accessFlags := 1, nameIndex := 5, descriptorIndex := 6, attributes := #[] }, { accessFlags := 9, nameIndex := 28, descriptorIndex := 29, attributes := #[] }] 49 2 #[] #[])
  fields := #[]
  methods := #[k1m0, k1m1]
  instanceTypes := #[]
  staticTypes := #[]
  resolved := Array.replicate 33 none
  statics := none }

def pool2 : Array CpInfo := pool [(1, .class_ 2), (0, u "java/lang/constant/Constable"), (0, .class_ 4), (0, u "java/lang/Object")] 6

/-- java/lang/constant/Constable -/
def k2 : Class := { plain "java/lang/constant/Constable" (some 0) with
  accessFlags := 1537
  interfaces := #[]
  cf := some (fileOf pool2 1 #[] #[] 1537 3 #[] #[])
  fields := #[]
  methods := #[]
  instanceTypes := #[]
  staticTypes := #[]
  resolved := Array.replicate 11 none
  statics := none }

def pool3 : Array CpInfo := pool [(1, .class_ 2), (0, u "java/lang/Comparable"), (0, .class_ 4), (0, u "java/lang/Object")] 7

/-- java/lang/Comparable -/
def k3 : Class := { plain "java/lang/Comparable" (some 0) with
  accessFlags := 1537
  interfaces := #[]
  cf := some (fileOf pool3 1 #[] #[] 1537 3 #[] #[])
  fields := #[]
  methods := #[]
  instanceTypes := #[]
  staticTypes := #[]
  resolved := Array.replicate 12 none
  statics := none }

def pool4 : Array CpInfo := pool [(1, .class_ 2), (0, u "java/io/Serializable"), (0, .class_ 4), (0, u "java/lang/Object")] 2

/-- java/io/Serializable -/
def k4 : Class := { plain "java/io/Serializable" (some 0) with
  accessFlags := 1537
  interfaces := #[]
  cf := some (fileOf pool4 1 #[] #[] 1537 3 #[] #[])
  fields := #[]
  methods := #[]
  instanceTypes := #[]
  staticTypes := #[]
  resolved := Array.replicate 7 none
  statics := none }

def pool5 : Array CpInfo := pool [(2, .class_ 4), (1, u "java/lang/Enum"), (0, u "name"), (0, u "Ljava/lang/String;"), (2, u "ordinal"), (0, u "I"), (1, .class_ 14), (1, u "java/lang/Object"), (4, u "hash"), (86, .class_ 108), (1, u "java/lang/Enum$EnumDesc"), (2, .class_ 112), (0, u "java/lang/constant/Constable"), (0, .class_ 114), (0, u "java/lang/Comparable"), (0, .class_ 116), (0, u "java/io/Serializable")] 87

/-- java/lang/Enum -/
def k5 : Class := { plain "java/lang/Enum" (some 0) with
  accessFlags := 1057
  interfaces := #[2, 3, 4]
  cf := some (fileOf pool5 2 #[.nestMembers #[106]] #[] 1057 12 #[111, 113, 115] #[{ accessFlags := 18, nameIndex := 5, descriptorIndex := 6, attributes := #[] }, { accessFlags := 18, nameIndex := 9, descriptorIndex := 10, attributes := #[] }, { accessFlags := 2, nameIndex := 19, descriptorIndex := 10, attributes := #[] }])
  fields := #[{ name := "name", type := (.object "java/lang/String"), accessFlags := 18, slot := 0, constantValue := 0 }, { name := "ordinal", type := .int, accessFlags := 18, slot := 1, constantValue := 0 }, { name := "hash", type := .int, accessFlags := 2, slot := 2, constantValue := 0 }]
  methods := #[]
  instanceTypes := #[(.object "java/lang/String"), .int, .int]
  staticTypes := #[]
  resolved := Array.replicate 204 none
  statics := none }

def pool6 : Array CpInfo := pool [(10, .class_ 12), (1, u "com/example/pathgauge/pathgauge/Labelled"), (25, .class_ 39), (0, u "java/lang/Object")] 27

/-- com/example/pathgauge/pathgauge/Labelled -/
def k6 : Class := { plain "com/example/pathgauge/pathgauge/Labelled" (some 0) with
  accessFlags := 1537
  interfaces := #[]
  cf := some (fileOf pool6 10 #[] #[] 1537 38 #[] #[])
  fields := #[]
  methods := #[]
  instanceTypes := #[]
  staticTypes := #[]
  resolved := Array.replicate 67 none
  statics := none }

def pool7 : Array CpInfo := pool [(1, .class_ 2), (0, u "com/example/pathgauge/pathgauge/prbs/CheckProfile"), (2, u "G821"), (0, u "Lcom/example/pathgauge/pathgauge/prbs/CheckProfile;"), (2, u "M2100"), (2, u "$VALUES"), (0, u "[Lcom/example/pathgauge/pathgauge/prbs/CheckProfile;"), (6, .class_ 22), (1, u "java/lang/Enum"), (8, u "label"), (0, u "Ljava/lang/String;"), (0, .fieldref 1 34), (0, .nameAndType 35 36), (0, u "thresholdIncluded"), (0, u "Z"), (0, .long 1000), (14, .class_ 53), (0, u "com/example/pathgauge/pathgauge/Labelled"), (0, u "BITS_PER_ERROR"), (0, u "J"), (9, u "severe"), (0, u "(JJ)Z")] 6

def k7c0 : Code := { maxStack := 4, maxLocals := 7, code := prog_56_method_5_code, exceptionTable := #[], attributes := #[] }
def k7m0 : Method := { name := "severe", desc := "(JJ)Z", sig := { parameters := [.long, .long], returnType := some .boolean }, accessFlags := 0, code := some k7c0 }
/-- com/example/pathgauge/pathgauge/prbs/CheckProfile -/
def k7 : Class := { plain "com/example/pathgauge/pathgauge/prbs/CheckProfile" (some 5) with
  accessFlags := 16433
  interfaces := #[6]
  cf := some (fileOf pool7 1 #[] #[{ accessFlags := 0, nameIndex := 65, descriptorIndex := 66, attributes := #[] }] 16433 20 #[52] #[{ accessFlags := 16409, nameIndex := 5, descriptorIndex := 6, attributes := #[] }, { accessFlags := 16409, nameIndex := 9, descriptorIndex := 6, attributes := #[] }, { accessFlags := 26, nameIndex := 54, descriptorIndex := 55, attributes := #[] }, { accessFlags := 18, nameIndex := 31, descriptorIndex := 32, attributes := #[] }, { accessFlags := 18, nameIndex := 35, descriptorIndex := 36, attributes := #[] }, { accessFlags := 4122, nameIndex := 12, descriptorIndex := 13, attributes := #[] }])
  fields := #[{ name := "G821", type := (.object "com/example/pathgauge/pathgauge/prbs/CheckProfile"), accessFlags := 16409, slot := 0, constantValue := 0 }, { name := "M2100", type := (.object "com/example/pathgauge/pathgauge/prbs/CheckProfile"), accessFlags := 16409, slot := 1, constantValue := 0 }, { name := "BITS_PER_ERROR", type := .long, accessFlags := 26, slot := 2, constantValue := 0 }, { name := "label", type := (.object "java/lang/String"), accessFlags := 18, slot := 3, constantValue := 0 }, { name := "thresholdIncluded", type := .boolean, accessFlags := 18, slot := 4, constantValue := 0 }, { name := "$VALUES", type := (.array (.object "com/example/pathgauge/pathgauge/prbs/CheckProfile")), accessFlags := 4122, slot := 3, constantValue := 0 }]
  methods := #[k7m0]
  instanceTypes := #[(.object "java/lang/String"), .int, .int, (.object "java/lang/String"), .boolean]
  staticTypes := #[(.object "com/example/pathgauge/pathgauge/prbs/CheckProfile"), (.object "com/example/pathgauge/pathgauge/prbs/CheckProfile"), .long, (.array (.object "com/example/pathgauge/pathgauge/prbs/CheckProfile"))]
  resolved := Array.replicate 73 none
  statics := some 0 }

def pool8 : Array CpInfo := pool [(1, u "java/lang/Cloneable"), (0, .class_ 1), (0, u "java/lang/Object"), (0, .class_ 3)] 3

/-- java/lang/Cloneable -/
def k8 : Class := { plain "java/lang/Cloneable" (some 0) with
  accessFlags := 1537
  interfaces := #[]
  cf := some (fileOf pool8 2 #[] #[] 1537 4 #[] #[])
  fields := #[]
  methods := #[]
  instanceTypes := #[]
  staticTypes := #[]
  resolved := Array.replicate 8 none
  statics := none }

/-- the primitive byte -/
def k9 : Class := { plain "byte" none with kind := .primitive 'B', accessFlags := 0x411 }
/-- [B -/
def k10 : Class := { plain "[B" (some 0) with kind := .array 9 .byte, interfaces := #[8, 4], accessFlags := 1041 }

/-- the primitive int -/
def k11 : Class := { plain "int" none with kind := .primitive 'I', accessFlags := 0x411 }
/-- [I -/
def k12 : Class := { plain "[I" (some 0) with kind := .array 11 .int, interfaces := #[8, 4], accessFlags := 1041 }

def heap : Heap := #[{ cls := 7, slots := #[.ref 2, .ref 1, .long 0, .null], vm := .statics 7 },
  { cls := 7, slots := #[.null, .int 0, .int 0, .null, .int 1], vm := .none },
  { cls := 7, slots := #[.null, .int 0, .int 0, .null, .int 0], vm := .none }]
def classes : Array Class := #[k0, k1, k2, k3, k4, k5, k6, k7, k8, k9, k10, k11, k12]
def interned : List (Array UInt16 × Addr) := []
def slotsUsed : Nat := 14
def theMethod : MethodId := ⟨1, 1⟩
def args0 : Array Value := #[.long 5, .long 7, .int 1, .int 1]
def aboutOver (below : List Frame) : State where
  vm := { classes := classes, interned := interned.toArray }
  heap := heap
  slotsUsed := slotsUsed
  threads := #[{ frames := .invoking theMethod args0 :: below }]
def below0 : List Frame := [.native { method := ⟨0, 0⟩, args := #[] }]
def about1 : State := aboutOver below0
def p0 : Program := .bare "" "" ""
def e0 : Env := launch0.env 0 0 0
theorem w_frames : about1.frames = Frame.invoking theMethod args0 :: below0 := rfl
set_option maxRecDepth 65536 in
theorem w_args : argsFit about1.vm theMethod args0 = true := by decide +kernel
set_option maxRecDepth 65536 in
theorem w_heap : heapFits about1 = true := by decide +kernel
set_option maxRecDepth 65536 in
theorem w_runnable : about1.curStatus? = some .runnable := by decide +kernel
set_option maxRecDepth 65536 in
theorem w_alone : about1.alone = true := by decide +kernel
set_option maxRecDepth 65536 in
theorem w_named : about1.methodNamed? x = some theMethod := by decide +kernel
set_option maxRecDepth 65536 in
theorem w_hears : about1.hears theMethod below0 = true := by decide +kernel
set_option maxRecDepth 65536 in
theorem w_ripe : about1.ripe theMethod args0 below0 = true := by decide +kernel
theorem w_running : about1.status = .running := rfl
set_option maxRecDepth 65536 in
theorem w_room : about1.hasRoom e0.platform room_1 = true :=
  launch0.hasRoom_least _ room_1 (by decide +kernel) (by decide +kernel) (by decide +kernel) (by decide +kernel) (by decide +kernel) (by decide +kernel)
theorem allAtoms_all (ts : List Jvm.Cond) (a : Array Jvm.Value) (st : Jvm.State) : (allAtoms ts).before a st = ts.all (fun c => c.before a st) := by
  induction ts with
  | nil => rfl
  | cons c t ih =>
    show (Jvm.Cond.and c (allAtoms t)).before a st = _
    rw [Jvm.Cond.before_and, ih, List.all_cons]
def words1 : List Jvm.Cond := Jvm.Cond.code x code maxLocals ret :: tables_1
/-- a 'code' word, met by the world's own term for the bytes: nothing is compared byte by byte -/
theorem code_word {y : MethodName} {bytes : ByteArray} {mx : Nat} {rt : Option FieldType} {a : Array Value} {s : State} {m : MethodId} {meth : Method} {c : Code} (h1 : s.methodNamed? y = some m) (h2 : s.vm.method? m = some meth) (h3 : meth.code = some c) (h4 : c.code = bytes)
    (h5 : (c.maxLocals == mx && c.exceptionTable.isEmpty && decide (c.maxStack ≤ mostOperands) && decide (meth.sig.returnType = rt) && !meth.locks && decide (parseMethodDescriptor y.desc = some meth.sig)) = true) : (Jvm.Cond.code y bytes mx rt).before a s = true := by
  simp only [Bool.and_eq_true, beq_iff_eq, Bool.not_eq_true', decide_eq_true_eq] at h5
  obtain ⟨⟨⟨⟨⟨g1, g2⟩, g3⟩, g4⟩, g5⟩, g6⟩ := h5
  simp [Cond.before, Cond.holds, Cond.value, h1, h2, h3, h4, g1, g2, g3, g4, g5, g6]
def isCode : Jvm.Cond → Bool
  | .code _ _ _ _ => true
  | _ => false
theorem all_split {L : List Jvm.Cond} {P : Jvm.Cond → Bool} (h1 : L.all (fun c => isCode c || P c) = true) (h2 : ∀ c ∈ L.filter isCode, P c = true) : L.all P = true := by
  refine List.all_eq_true.mpr fun c hc => ?_
  have h := List.all_eq_true.mp h1 c hc
  rcases Bool.eq_false_or_eq_true (isCode c) with hi | hi
  · exact h2 c (List.mem_filter.mpr ⟨hc, hi⟩)
  · simpa [hi] using h
set_option maxRecDepth 65536 in
theorem w_c0 : (Jvm.Cond.code x code maxLocals ret).before args0 about1 = true := code_word (m := ⟨1, 1⟩) (meth := k1m1) (c := k1c1) (by decide +kernel) rfl rfl rfl (by decide +kernel)
set_option maxRecDepth 65536 in
theorem w_c1 : (Jvm.Cond.code ({ cls := "com/example/pathgauge/pathgauge/prbs/CheckProfile", name := "severe", desc := "(JJ)Z" } : Jvm.MethodName) prog_56_method_5_code (7 : Nat) (Option.some Jvm.ClassFile.FieldType.boolean)).before args0 about1 = true := code_word (m := ⟨7, 0⟩) (meth := k7m0) (c := k7c0) (by decide +kernel) rfl rfl rfl (by decide +kernel)
def codes1 : List Jvm.Cond := [Jvm.Cond.code x code maxLocals ret, Jvm.Cond.code ({ cls := "com/example/pathgauge/pathgauge/prbs/CheckProfile", name := "severe", desc := "(JJ)Z" } : Jvm.MethodName) prog_56_method_5_code (7 : Nat) (Option.some Jvm.ClassFile.FieldType.boolean)]
set_option maxRecDepth 65536 in
theorem codes_eq : words1.filter isCode = codes1 := rfl
theorem w_codes : ∀ c ∈ words1.filter isCode, c.before args0 about1 = true := by
  rw [codes_eq]
  intro c hc
  simp only [codes1, List.mem_cons, List.not_mem_nil, or_false] at hc
  rcases hc with rfl | rfl
  · exact w_c0
  · exact w_c1
set_option maxRecDepth 65536 in
theorem w_t1 : words1.all (fun c => isCode c || c.before args0 about1) = true := by decide +kernel
theorem w_tables : (allAtoms (Jvm.Cond.code x code maxLocals ret :: tables_1)).before args0 about1 = true := by
  rw [allAtoms_all]
  show words1.all (fun c => c.before args0 about1) = true
  refine all_split ?_ w_codes
  rw [w_t1]
set_option maxRecDepth 65536 in
theorem w_case : (Jvm.Cond.and given_1 narrow_1).before args0 about1 = true := by decide +kernel
theorem w_applies : (headSpec (Jvm.Cond.code x code maxLocals ret :: tables_1) room_1).applies x e0.platform about1 = true :=
  (Spec.applies_iff w_frames).mpr ⟨w_running, w_runnable, w_alone, w_named, w_hears, w_ripe, w_room, w_tables⟩
theorem atStart : AtStart classFile x code maxLocals ret World_1 tables_1 room_1 Calls_1 rest_1 Pre_1 launch0 p0 e0 about1 theMethod args0 below0 :=
  ⟨lists_1, trivial, launch0.admits_env _ _ _, launch0.least_env, fairChoices_fair.cas, fairChoices_fair.clock, w_frames, w_args, w_heap, w_applies, trivial, trivial, w_case⟩
end start1
theorem witness_1 : WitnessClaimed_1 := ⟨start1.p0, start1.e0, start1.about1, start1.theMethod, start1.args0, start1.below0, start1.atStart⟩
end Jvm.Pilot.@@N@@
