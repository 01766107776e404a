import JvmDerived
import JvmDerived.Pilot.@@N@@Statement
import JvmDerived.Pilot.@@N@@Code
set_option linter.unusedVariables false
set_option linter.unusedSimpArgs false
namespace Jvm.Pilot.@@N@@
open Jvm Jvm.ClassFile Sem Op Lib Jvm.Free Jvm.Stand Jvm.LawKit Jvm.RoadKit Bundle Jvm.Pilot.@@N@@.Jvm.D
/-- from the state S the run comes to an end that meets F -/
def own_Go (tb : Tables) (e : Env) (below : List Frame) (F : State → Outcome → Prop) (S : State) : Prop := ∃ s₂ o, Steps tb e below S s₂ ∧ F s₂ o
/-- the end: it returned what Q says, over the heap that Q says -/
def own_Fin (below : List Frame) (s : State) (Q : Option Value → Heap → List Loc → Prop) (k n : Nat) : State → Outcome → Prop := fun s₂ o => s₂.status = .running ∧ Ended s₂ below o ∧ ∃ v L, o = .returned v ∧ Q v s₂.heap L ∧ FrameEnd s o s₂ L k n
theorem own_go {tb : Tables} {e : Env} {below : List Frame} {F : State → Outcome → Prop} {S S' : State} (h : ∀ t, Steps tb e below S' t → Steps tb e below S t) (k : own_Go tb e below F S') : own_Go tb e below F S := by
  obtain ⟨t, o, h1, h2⟩ := k
  exact ⟨t, o, h t h1, h2⟩
theorem own_via {tb : Tables} {e : Env} {below : List Frame} {F : State → Outcome → Prop} {S S' : State} (h : Steps tb e below S S') (k : own_Go tb e below F S') : own_Go tb e below F S := by
  obtain ⟨t, o, h1, h2⟩ := k
  exact ⟨t, o, h.trans h1, h2⟩
section OwnRet
variable {p : Program} {l : Launch} {e : Env} {R : Room} {s : State} {m : MethodId} {args : Array Value} {below : List Frame} {meth : Method} {c : Code} {T : State} {locs : List Loc} {cells slots : Nat} {Q : Option Value → Heap → List Loc → Prop} {K N : Nat}
theorem own_retN (X : Stand p l e R s m args below meth c T locs cells slots) (hlocks : meth.locks = false) (hx : p.tables.exec = Jvm.exec) {pc : Nat} {Ls : Array Slot} {z : Int32} {rest : List Value} {t : FieldType} (hret : meth.sig.returnType = some t) (ht : t = .boolean ∨ t = .byte ∨ t = .char ∨ t = .short) (hd : decode c.code pc = .ok (.ireturn, 1)) (hQ : Q (some (.int (nar t z))) T.heap locs) (hk : cells ≤ K) (hn : slots ≤ N) :
    own_Go p.tables e below (own_Fin below s Q K N) (T.setTop (mkF m pc Ls (.int z :: rest))) := by
  obtain ⟨fs, hr, hrun, hended, hW, hsame⟩ := X.leave (v := some (.int (nar t z))) (fun h => by rw [hret] at h; cases h) hlocks
  exact ⟨_, _, retN X hx hret ht hd hr, hrun, hended, _, _, rfl, hQ, ⟨_, rfl⟩, hW, hsame.mono hk hn⟩
theorem own_retI (X : Stand p l e R s m args below meth c T locs cells slots) (hlocks : meth.locks = false) (hx : p.tables.exec = Jvm.exec) {pc : Nat} {Ls : Array Slot} {z : Int32} {rest : List Value} (hret : meth.sig.returnType = some .int) (hd : decode c.code pc = .ok (.ireturn, 1)) (hQ : Q (some (.int z)) T.heap locs) (hk : cells ≤ K) (hn : slots ≤ N) :
    own_Go p.tables e below (own_Fin below s Q K N) (T.setTop (mkF m pc Ls (.int z :: rest))) := by
  obtain ⟨fs, hr, hrun, hended, hW, hsame⟩ := X.leave (v := some (.int z)) (fun h => by rw [hret] at h; cases h) hlocks
  exact ⟨_, _, retOut X hx (i := .ireturn) hret rfl (Or.inl ⟨rfl, Or.inl rfl, _, rfl⟩) hd hr, hrun, hended, _, _, rfl, hQ, ⟨_, rfl⟩, hW, hsame.mono hk hn⟩
theorem own_retJ (X : Stand p l e R s m args below meth c T locs cells slots) (hlocks : meth.locks = false) (hx : p.tables.exec = Jvm.exec) {pc : Nat} {Ls : Array Slot} {z : Int64} {rest : List Value} (hret : meth.sig.returnType = some .long) (hd : decode c.code pc = .ok (.lreturn, 1)) (hQ : Q (some (.long z)) T.heap locs) (hk : cells ≤ K) (hn : slots ≤ N) :
    own_Go p.tables e below (own_Fin below s Q K N) (T.setTop (mkF m pc Ls (.long z :: rest))) := by
  obtain ⟨fs, hr, hrun, hended, hW, hsame⟩ := X.leave (v := some (.long z)) (fun h => by rw [hret] at h; cases h) hlocks
  exact ⟨_, _, retOut X hx (i := .lreturn) hret rfl (Or.inr (Or.inl ⟨rfl, rfl, _, rfl⟩)) hd hr, hrun, hended, _, _, rfl, hQ, ⟨_, rfl⟩, hW, hsame.mono hk hn⟩
theorem own_retA (X : Stand p l e R s m args below meth c T locs cells slots) (hlocks : meth.locks = false) (hx : p.tables.exec = Jvm.exec) {pc : Nat} {Ls : Array Slot} {w : Value} {rest : List Value} {t : FieldType} (hret : meth.sig.returnType = some t) (ht : t.isReference = true) (hn' : narrow t w = w) (hw : w.isRef = true) (hd : decode c.code pc = .ok (.areturn, 1)) (hQ : Q (some w) T.heap locs) (hk : cells ≤ K) (hn : slots ≤ N) :
    own_Go p.tables e below (own_Fin below s Q K N) (T.setTop (mkF m pc Ls (w :: rest))) := by
  obtain ⟨fs, hr, hrun, hended, hW, hsame⟩ := X.leave (v := some w) (fun h => by rw [hret] at h; cases h) hlocks
  exact ⟨_, _, retOut X hx (i := .areturn) hret hn' (Or.inr (Or.inr (Or.inr (Or.inr ⟨rfl, ht, hw⟩)))) hd hr, hrun, hended, _, _, rfl, hQ, ⟨_, rfl⟩, hW, hsame.mono hk hn⟩
theorem own_ret0 (X : Stand p l e R s m args below meth c T locs cells slots) (hlocks : meth.locks = false) (hx : p.tables.exec = Jvm.exec) {pc : Nat} {Ls : Array Slot} (hret : meth.sig.returnType = none) (hd : decode c.code pc = .ok (.return_, 1)) (hQ : Q none T.heap locs) (hk : cells ≤ K) (hn : slots ≤ N) :
    own_Go p.tables e below (own_Fin below s Q K N) (T.setTop (mkF m pc Ls [])) := by
  obtain ⟨fs, hr, hrun, hended, hW, hsame⟩ := X.leave (v := none) (fun _ => rfl) hlocks
  exact ⟨_, _, X.returnOut hx hret hd hr, hrun, hended, _, _, rfl, hQ, ⟨_, rfl⟩, hW, hsame.mono hk hn⟩
/-- the end where String constants may have been made meanwhile -/
def own_FinW (below : List Frame) (s : State) (Q : Option Value → Heap → List Loc → Prop) (k n : Nat) : State → Outcome → Prop := fun s₂ o => s₂.status = .running ∧ Ended s₂ below o ∧ ∃ v L, o = .returned v ∧ Q v s₂.heap L ∧ ReturnedEndW s o s₂ L k n
theorem own_more {s t : State} {o : Outcome} {L : List Loc} {k n K N : Nat} (h : ReturnedEndW s o t L k n) (hk : k ≤ K) (hn : n ≤ N) : ReturnedEndW s o t L K N := ⟨h.1, h.2.1, h.2.2.1, h.2.2.2.mono hk hn⟩
variable {vm₁ : Vm} {n₁ : Nat}
theorem own_retNW (X : Stand p l e R (s.setVm vm₁) m args below meth c T locs cells slots) (hS : s.Since vm₁ n₁) (hn₁ : n₁ ≤ T.heap.size) (hlocks : meth.locks = false) (hx : p.tables.exec = Jvm.exec) {pc : Nat} {Ls : Array Slot} {z : Int32} {rest : List Value} {t : FieldType} (hret : meth.sig.returnType = some t) (ht : t = .boolean ∨ t = .byte ∨ t = .char ∨ t = .short) (hd : decode c.code pc = .ok (.ireturn, 1)) (hQ : Q (some (.int (nar t z))) T.heap locs) (hk : cells ≤ K) (hn : slots ≤ N) :
    own_Go p.tables e below (own_FinW below s Q K N) (T.setTop (mkF m pc Ls (.int z :: rest))) := by
  obtain ⟨fs, hr, hrun, hended, hE⟩ := X.leaveW hS hn₁ (v := some (.int (nar t z))) (fun h => by rw [hret] at h; cases h) hlocks
  exact ⟨_, _, retN X hx hret ht hd hr, hrun, hended, _, _, rfl, hQ, own_more hE hk hn⟩
theorem own_retAW (X : Stand p l e R (s.setVm vm₁) m args below meth c T locs cells slots) (hS : s.Since vm₁ n₁) (hn₁ : n₁ ≤ T.heap.size) (hlocks : meth.locks = false) (hx : p.tables.exec = Jvm.exec) {pc : Nat} {Ls : Array Slot} {w : Value} {rest : List Value} {t : FieldType} (hret : meth.sig.returnType = some t) (ht : t.isReference = true) (hn' : narrow t w = w) (hw : w.isRef = true) (hd : decode c.code pc = .ok (.areturn, 1)) (hQ : Q (some w) T.heap locs) (hk : cells ≤ K) (hn : slots ≤ N) :
    own_Go p.tables e below (own_FinW below s Q K N) (T.setTop (mkF m pc Ls (w :: rest))) := by
  obtain ⟨fs, hr, hrun, hended, hE⟩ := X.leaveW hS hn₁ (v := some w) (fun h => by rw [hret] at h; cases h) hlocks
  exact ⟨_, _, retOut X hx (i := .areturn) hret hn' (Or.inr (Or.inr (Or.inr (Or.inr ⟨rfl, ht, hw⟩)))) hd hr, hrun, hended, _, _, rfl, hQ, own_more hE hk hn⟩
theorem own_ret0W (X : Stand p l e R (s.setVm vm₁) m args below meth c T locs cells slots) (hS : s.Since vm₁ n₁) (hn₁ : n₁ ≤ T.heap.size) (hlocks : meth.locks = false) (hx : p.tables.exec = Jvm.exec) {pc : Nat} {Ls : Array Slot} (hret : meth.sig.returnType = none) (hd : decode c.code pc = .ok (.return_, 1)) (hQ : Q none T.heap locs) (hk : cells ≤ K) (hn : slots ≤ N) :
    own_Go p.tables e below (own_FinW below s Q K N) (T.setTop (mkF m pc Ls [])) := by
  obtain ⟨fs, hr, hrun, hended, hE⟩ := X.leaveW hS hn₁ (v := none) (fun _ => rfl) hlocks
  exact ⟨_, _, X.returnOut hx hret hd hr, hrun, hended, _, _, rfl, hQ, own_more hE hk hn⟩
end OwnRet
theorem own_val {x y : Int32} (h : y = x) : some (Value.int x) = some (Value.int y) := by rw [h]
theorem own_valJ {x y : Int64} (h : y = x) : some (Value.long x) = some (Value.long y) := by rw [h]
theorem own_valV {x y : Value} (h : y = x) : some x = some y := by rw [h]
theorem own_valR {x y : Addr} (h : y = x) : some (Value.ref x) = some (Value.ref y) := by rw [h]
theorem own_cat {v : Value} (h : v.isRef = true) : v.category = 1 := by rcases ref_cases h with rfl | ⟨z, rfl⟩ <;> rfl
theorem own_narR {v : Value} {C : String} (h : v.isRef = true) : narrow (.object C) v = v := by rcases ref_cases h with rfl | ⟨z, rfl⟩ <;> rfl
theorem own_fitR {v : Value} {C : String} (h : v.isRef = true) : fits (.object C) v = true := by rcases ref_cases h with rfl | ⟨z, rfl⟩ <;> rfl
theorem own_narA {v : Value} {t : FieldType} (h : v.isRef = true) : narrow (.array t) v = v := by rcases ref_cases h with rfl | ⟨z, rfl⟩ <;> rfl
theorem own_fitA {v : Value} {t : FieldType} (h : v.isRef = true) : fits (.array t) v = true := by rcases ref_cases h with rfl | ⟨z, rfl⟩ <;> rfl
theorem own_dne {p : Prop} (h : p) : ¬ ¬ p := fun q => q h
theorem d1_0 : decode method_2_code 0 = .ok (.iload_n 0, 1) := by decide +kernel
theorem d1_1 : decode method_2_code 1 = .ok (.iconst 3, 1) := by decide +kernel
theorem d1_2 : decode method_2_code 2 = .ok (.iand, 1) := by decide +kernel
theorem d1_3 : decode method_2_code 3 = .ok (.istore_n 1, 1) := by decide +kernel
theorem d1_4 : decode method_2_code 4 = .ok (.iload_n 1, 1) := by decide +kernel
theorem d1_5 : decode method_2_code 5 = .ok (.ifCond .ne 7, 3) := by decide +kernel
theorem d1_8 : decode method_2_code 8 = .ok (.getstatic 7, 3) := by decide +kernel
theorem d1_11 : decode method_2_code 11 = .ok (.areturn, 1) := by decide +kernel
theorem d1_12 : decode method_2_code 12 = .ok (.iload_n 1, 1) := by decide +kernel
theorem d1_13 : decode method_2_code 13 = .ok (.iconst 1, 1) := by decide +kernel
theorem d1_14 : decode method_2_code 14 = .ok (.if_icmp .ne 7, 3) := by decide +kernel
theorem d1_17 : decode method_2_code 17 = .ok (.getstatic 13, 3) := by decide +kernel
theorem d1_20 : decode method_2_code 20 = .ok (.areturn, 1) := by decide +kernel
theorem d1_21 : decode method_2_code 21 = .ok (.iload_n 1, 1) := by decide +kernel
theorem d1_22 : decode method_2_code 22 = .ok (.iconst 2, 1) := by decide +kernel
theorem d1_23 : decode method_2_code 23 = .ok (.if_icmp .ne 7, 3) := by decide +kernel
theorem d1_26 : decode method_2_code 26 = .ok (.getstatic 16, 3) := by decide +kernel
theorem d1_29 : decode method_2_code 29 = .ok (.areturn, 1) := by decide +kernel
theorem d1_30 : decode method_2_code 30 = .ok (.getstatic 19, 3) := by decide +kernel
theorem d1_33 : decode method_2_code 33 = .ok (.areturn, 1) := by decide +kernel
theorem pn_1 : plainName "com/example/barwright/barwright/DataComponentVariesPinLaw" = true := by first | (simp [plainName, overriddenIn]; done) | decide +kernel
theorem ef_1 (m : MethodId) (p1 : Int32) : entryFrame m #[(.int p1)] 2 = mkF m 0 #[.val (.int p1), .unset] [] := by first | (simp [entryFrame, mkF, argsToLocals, Value.category]; done) | rfl
def own_f1 (p1 : Int32) (s_DataComponent_CharacterSet_N : Addr) (s_DataComponent_CharacterSet_X : Addr) (s_DataComponent_CharacterSet_Y : Addr) (s_DataComponent_CharacterSet_Z : Addr) : Addr :=
  if (p1 &&& (3 : Int32)) = (0 : Int32) then s_DataComponent_CharacterSet_N
  else if (p1 &&& (3 : Int32)) = (1 : Int32) then s_DataComponent_CharacterSet_X
  else if (p1 &&& (3 : Int32)) = (2 : Int32) then s_DataComponent_CharacterSet_Y
  else s_DataComponent_CharacterSet_Z
def Q1 (Z : State) (p1 : Int32) (s_DataComponent_CharacterSet_N : Addr) (s_DataComponent_CharacterSet_X : Addr) (s_DataComponent_CharacterSet_Y : Addr) (s_DataComponent_CharacterSet_Z : Addr) (h0 : Heap) (n0 : Nat) (v : Option Value) (h : Heap) (L : List Loc) : Prop := v = some (.ref (own_f1 p1 s_DataComponent_CharacterSet_N s_DataComponent_CharacterSet_X s_DataComponent_CharacterSet_Y s_DataComponent_CharacterSet_Z)) ∧ Fr n0 L ∧ h = h0
set_option maxRecDepth 65536 in
set_option maxHeartbeats 40000000 in
theorem rm1 (l : Launch) (Z : State) (a0 : Array Value) (hw : ∀ d ∈ tables_1, d.before a0 Z = true) (ws : List Jvm.Cond) (p1 : Int32) (s_DataComponent_CharacterSet_N : Addr) (s_DataComponent_CharacterSet_X : Addr) (s_DataComponent_CharacterSet_Y : Addr) (s_DataComponent_CharacterSet_Z : Addr) (h0 : Heap) (n0 : Nat) (Z0 : n0 ≤ h0.size) (S_DataComponent_CharacterSet_N : Sta Z Z.heap "com/example/barwright/barwright/DataComponent$CharacterSet" "N" "Lcom/example/barwright/barwright/DataComponent$CharacterSet;" (.ref s_DataComponent_CharacterSet_N)) (S_DataComponent_CharacterSet_X : Sta Z Z.heap "com/example/barwright/barwright/DataComponent$CharacterSet" "X" "Lcom/example/barwright/barwright/DataComponent$CharacterSet;" (.ref s_DataComponent_CharacterSet_X)) (S_DataComponent_CharacterSet_Y : Sta Z Z.heap "com/example/barwright/barwright/DataComponent$CharacterSet" "Y" "Lcom/example/barwright/barwright/DataComponent$CharacterSet;" (.ref s_DataComponent_CharacterSet_Y)) (S_DataComponent_CharacterSet_Z : Sta Z Z.heap "com/example/barwright/barwright/DataComponent$CharacterSet" "Z" "Lcom/example/barwright/barwright/DataComponent$CharacterSet;" (.ref s_DataComponent_CharacterSet_Z)) (O0 : Old Z n0 h0) :
    MetFree l (⟨"com/example/barwright/barwright/DataComponentVariesPinLaw", "pick", "(I)Lcom/example/barwright/barwright/DataComponent$CharacterSet;"⟩ : MethodName) (head1 (Jvm.Cond.code (⟨"com/example/barwright/barwright/DataComponentVariesPinLaw", "pick", "(I)Lcom/example/barwright/barwright/DataComponent$CharacterSet;"⟩ : MethodName) method_2_code 2 (some (.object "com/example/barwright/barwright/DataComponent$CharacterSet")) :: ws) ({ frames := 0, cells := 0, slots := 0, locals := 0 } : Room)) (fun a U => a = #[(.int p1)] ∧ Z.Warmed39 U.vm ∧ U.heap = h0) (fun _ _ _ _ _ => True) (fun _ U o U' => ∃ v L, o = .returned v ∧ Q1 Z p1 s_DataComponent_CharacterSet_N s_DataComponent_CharacterSet_X s_DataComponent_CharacterSet_Y s_DataComponent_CharacterSet_Z h0 n0 v U'.heap L ∧ FrameEnd U o U' L ({ frames := 0, cells := 0, slots := 0, locals := 0 } : Room).cells ({ frames := 0, cells := 0, slots := 0, locals := 0 } : Room).slots) := by
  refine MetFree.of_bodySF (plainFor_of_name pn_1) hisR ?_
  intro p e s m args below meth c s₁ Bd hml0 hP hK
  obtain ⟨rfl, hZ, hh⟩ := hP
  have hx := Bd.exec
  have hby := Bd.bytes
  have hml : c.maxLocals = 2 := hml0
  have hown : s.vm.findClass "com/example/barwright/barwright/DataComponentVariesPinLaw" = some m.cls := findClass_of_methodNamed Bd.named
  have hnm := (name_of_methodNamed Bd.named Bd.method).1
  have X0 : Stand p l e ({ frames := 0, cells := 0, slots := 0, locals := 0 } : Room) s m #[(.int p1)] below meth c s₁ [] 0 0 := Stand.of_body Bd
  have e0 : s₁.heap = h0 := by rw [← hh, Bd.state]; rfl
  have N0 := Fr.nil n0
  show own_Go p.tables e below (own_Fin below s (Q1 Z p1 s_DataComponent_CharacterSet_N s_DataComponent_CharacterSet_X s_DataComponent_CharacterSet_Y s_DataComponent_CharacterSet_Z h0 n0) ({ frames := 0, cells := 0, slots := 0, locals := 0 } : Room).cells ({ frames := 0, cells := 0, slots := 0, locals := 0 } : Room).slots) (s₁.setTop (entryFrame m #[(.int p1)] 2))
  refine own_go (S' := s₁.setTop (mkF m 0 #[.val (.int p1), .unset] [])) (fun t k => castTop (ef_1 m p1) k) ?_
  show own_Go p.tables e below _ (s₁.setTop (mkF m 0 #[.val (.int p1), .unset] []))
  refine own_go (fun _ => XS.iloadN X0.here hx rfl (hb hby d1_0) rfl) ?_
  show own_Go p.tables e below _ (s₁.setTop (mkF m 1 #[.val (.int p1), .unset] [(.int p1)]))
  refine own_go (fun _ => XS.iconst X0.here hx rfl (hb hby d1_1)) ?_
  show own_Go p.tables e below _ (s₁.setTop (mkF m 2 #[.val (.int p1), .unset] [(.int (3 : Int32)), (.int p1)]))
  refine own_go (fun _ => XS.iand X0.here hx rfl (hb hby d1_2) rfl) ?_
  show own_Go p.tables e below _ (s₁.setTop (mkF m 3 #[.val (.int p1), .unset] [(.int (p1 &&& (3 : Int32)))]))
  refine own_go (fun _ => XS.istoreN X0.here hx rfl (hb hby d1_3) rfl (l' := #[.val (.int p1), .val (.int (p1 &&& (3 : Int32)))]) rfl) ?_
  show own_Go p.tables e below _ (s₁.setTop (mkF m 4 #[.val (.int p1), .val (.int (p1 &&& (3 : Int32)))] []))
  refine own_go (fun _ => XS.iloadN X0.here hx rfl (hb hby d1_4) rfl) ?_
  show own_Go p.tables e below _ (s₁.setTop (mkF m 5 #[.val (.int p1), .val (.int (p1 &&& (3 : Int32)))] [(.int (p1 &&& (3 : Int32)))]))
  by_cases hc2_5 : (p1 &&& (3 : Int32)) = (0 : Int32)
  · skip
    refine own_go (fun _ => XS.ifNo X0.here hx rfl (hb hby d1_5) rfl ((if0 _ _).trans (teq hc2_5).2)) ?_
    show own_Go p.tables e below _ (s₁.setTop (mkF m 8 #[.val (.int p1), .val (.int (p1 &&& (3 : Int32)))] []))
    obtain ⟨T3, X3, e3, st3⟩ := getS2 X0 hx hZ hown (host := "") (Or.inl (hw _ (List.mem_of_getElem? (i := 69) rfl))) Via.refl e0 (S_DataComponent_CharacterSet_N.ext O0.2) (g := (mkF m 8 #[.val (.int p1), .val (.int (p1 &&& (3 : Int32)))] [])) rfl (hb hby d1_8)
    refine own_go st3 ?_
    show own_Go p.tables e below _ (T3.setTop (mkF m 11 #[.val (.int p1), .val (.int (p1 &&& (3 : Int32)))] [(.ref s_DataComponent_CharacterSet_N)]))
    refine own_retA X3 Bd.notSynchronized hx Bd.returns rfl rfl rfl (hb hby d1_11) (show Q1 Z p1 s_DataComponent_CharacterSet_N s_DataComponent_CharacterSet_X s_DataComponent_CharacterSet_Y s_DataComponent_CharacterSet_Z h0 n0 _ T3.heap _ from by rw [e3]; exact ⟨(own_valR ((if_pos hc2_5).trans rfl)), N0, rfl⟩) (by decide) (by decide)
  · skip
    refine own_go (fun _ => XS.ifYes X0.here hx rfl (pc0 := 5) (pc' := 12) rfl (hb hby d1_5) rfl ((if0 _ _).trans (feq hc2_5).2) (by decide) (by decide)) ?_
    show own_Go p.tables e below _ (s₁.setTop (mkF m 12 #[.val (.int p1), .val (.int (p1 &&& (3 : Int32)))] []))
    refine own_go (fun _ => XS.iloadN X0.here hx rfl (hb hby d1_12) rfl) ?_
    show own_Go p.tables e below _ (s₁.setTop (mkF m 13 #[.val (.int p1), .val (.int (p1 &&& (3 : Int32)))] [(.int (p1 &&& (3 : Int32)))]))
    refine own_go (fun _ => XS.iconst X0.here hx rfl (hb hby d1_13)) ?_
    show own_Go p.tables e below _ (s₁.setTop (mkF m 14 #[.val (.int p1), .val (.int (p1 &&& (3 : Int32)))] [(.int (1 : Int32)), (.int (p1 &&& (3 : Int32)))]))
    by_cases hc4_14 : (p1 &&& (3 : Int32)) = (1 : Int32)
    · skip
      refine own_go (fun _ => XS.icmpNo X0.here hx rfl (hb hby d1_14) rfl (teq hc4_14).2) ?_
      show own_Go p.tables e below _ (s₁.setTop (mkF m 17 #[.val (.int p1), .val (.int (p1 &&& (3 : Int32)))] []))
      obtain ⟨T5, X5, e5, st5⟩ := getS2 X0 hx hZ hown (host := "") (Or.inl (hw _ (List.mem_of_getElem? (i := 4) rfl))) Via.refl e0 (S_DataComponent_CharacterSet_X.ext O0.2) (g := (mkF m 17 #[.val (.int p1), .val (.int (p1 &&& (3 : Int32)))] [])) rfl (hb hby d1_17)
      refine own_go st5 ?_
      show own_Go p.tables e below _ (T5.setTop (mkF m 20 #[.val (.int p1), .val (.int (p1 &&& (3 : Int32)))] [(.ref s_DataComponent_CharacterSet_X)]))
      refine own_retA X5 Bd.notSynchronized hx Bd.returns rfl rfl rfl (hb hby d1_20) (show Q1 Z p1 s_DataComponent_CharacterSet_N s_DataComponent_CharacterSet_X s_DataComponent_CharacterSet_Y s_DataComponent_CharacterSet_Z h0 n0 _ T5.heap _ from by rw [e5]; exact ⟨(own_valR ((if_neg hc2_5).trans ((if_pos hc4_14).trans rfl))), N0, rfl⟩) (by decide) (by decide)
    · skip
      refine own_go (fun _ => XS.icmpYes X0.here hx rfl (pc0 := 14) (pc' := 21) rfl (hb hby d1_14) rfl (feq hc4_14).2 (by decide) (by decide)) ?_
      show own_Go p.tables e below _ (s₁.setTop (mkF m 21 #[.val (.int p1), .val (.int (p1 &&& (3 : Int32)))] []))
      refine own_go (fun _ => XS.iloadN X0.here hx rfl (hb hby d1_21) rfl) ?_
      show own_Go p.tables e below _ (s₁.setTop (mkF m 22 #[.val (.int p1), .val (.int (p1 &&& (3 : Int32)))] [(.int (p1 &&& (3 : Int32)))]))
      refine own_go (fun _ => XS.iconst X0.here hx rfl (hb hby d1_22)) ?_
      show own_Go p.tables e below _ (s₁.setTop (mkF m 23 #[.val (.int p1), .val (.int (p1 &&& (3 : Int32)))] [(.int (2 : Int32)), (.int (p1 &&& (3 : Int32)))]))
      by_cases hc6_23 : (p1 &&& (3 : Int32)) = (2 : Int32)
      · skip
        refine own_go (fun _ => XS.icmpNo X0.here hx rfl (hb hby d1_23) rfl (teq hc6_23).2) ?_
        show own_Go p.tables e below _ (s₁.setTop (mkF m 26 #[.val (.int p1), .val (.int (p1 &&& (3 : Int32)))] []))
        obtain ⟨T7, X7, e7, st7⟩ := getS2 X0 hx hZ hown (host := "") (Or.inl (hw _ (List.mem_of_getElem? (i := 67) rfl))) Via.refl e0 (S_DataComponent_CharacterSet_Y.ext O0.2) (g := (mkF m 26 #[.val (.int p1), .val (.int (p1 &&& (3 : Int32)))] [])) rfl (hb hby d1_26)
        refine own_go st7 ?_
        show own_Go p.tables e below _ (T7.setTop (mkF m 29 #[.val (.int p1), .val (.int (p1 &&& (3 : Int32)))] [(.ref s_DataComponent_CharacterSet_Y)]))
        refine own_retA X7 Bd.notSynchronized hx Bd.returns rfl rfl rfl (hb hby d1_29) (show Q1 Z p1 s_DataComponent_CharacterSet_N s_DataComponent_CharacterSet_X s_DataComponent_CharacterSet_Y s_DataComponent_CharacterSet_Z h0 n0 _ T7.heap _ from by rw [e7]; exact ⟨(own_valR ((if_neg hc2_5).trans ((if_neg hc4_14).trans ((if_pos hc6_23).trans rfl)))), N0, rfl⟩) (by decide) (by decide)
      · skip
        refine own_go (fun _ => XS.icmpYes X0.here hx rfl (pc0 := 23) (pc' := 30) rfl (hb hby d1_23) rfl (feq hc6_23).2 (by decide) (by decide)) ?_
        show own_Go p.tables e below _ (s₁.setTop (mkF m 30 #[.val (.int p1), .val (.int (p1 &&& (3 : Int32)))] []))
        obtain ⟨T8, X8, e8, st8⟩ := getS2 X0 hx hZ hown (host := "") (Or.inl (hw _ (List.mem_of_getElem? (i := 71) rfl))) Via.refl e0 (S_DataComponent_CharacterSet_Z.ext O0.2) (g := (mkF m 30 #[.val (.int p1), .val (.int (p1 &&& (3 : Int32)))] [])) rfl (hb hby d1_30)
        refine own_go st8 ?_
        show own_Go p.tables e below _ (T8.setTop (mkF m 33 #[.val (.int p1), .val (.int (p1 &&& (3 : Int32)))] [(.ref s_DataComponent_CharacterSet_Z)]))
        refine own_retA X8 Bd.notSynchronized hx Bd.returns rfl rfl rfl (hb hby d1_33) (show Q1 Z p1 s_DataComponent_CharacterSet_N s_DataComponent_CharacterSet_X s_DataComponent_CharacterSet_Y s_DataComponent_CharacterSet_Z h0 n0 _ T8.heap _ from by rw [e8]; exact ⟨(own_valR ((if_neg hc2_5).trans ((if_neg hc4_14).trans ((if_neg hc6_23).trans rfl)))), N0, rfl⟩) (by decide) (by decide)
theorem d2_0 : decode jdk_29_method_65_code 0 = .ok (.iload_n 0, 1) := by decide +kernel
theorem d2_1 : decode jdk_29_method_65_code 1 = .ok (.iload_n 1, 1) := by decide +kernel
theorem d2_2 : decode jdk_29_method_65_code 2 = .ok (.if_icmp .lt 7, 3) := by decide +kernel
theorem d2_5 : decode jdk_29_method_65_code 5 = .ok (.iload_n 0, 1) := by decide +kernel
theorem d2_6 : decode jdk_29_method_65_code 6 = .ok (.goto 4, 3) := by decide +kernel
theorem d2_9 : decode jdk_29_method_65_code 9 = .ok (.iload_n 1, 1) := by decide +kernel
theorem d2_10 : decode jdk_29_method_65_code 10 = .ok (.ireturn, 1) := by decide +kernel
theorem ef_2 (m : MethodId) (p1 : Int32) (p2 : Int32) : entryFrame m #[(.int p1), (.int p2)] 2 = mkF m 0 #[.val (.int p1), .val (.int p2)] [] := by first | (simp [entryFrame, mkF, argsToLocals, Value.category]; done) | rfl
def own_f2 (p1 : Int32) (p2 : Int32) : Int32 :=
  if p1 < p2 then p2
  else p1
def Q2 (Z : State) (p1 : Int32) (p2 : Int32) (h0 : Heap) (n0 : Nat) (v : Option Value) (h : Heap) (L : List Loc) : Prop := v = some (.int (own_f2 p1 p2)) ∧ Fr n0 L ∧ h = h0
set_option maxRecDepth 65536 in
set_option maxHeartbeats 40000000 in
theorem rm2 (l : Launch) (Z : State) (a0 : Array Value) (hw : ∀ d ∈ tables_1, d.before a0 Z = true) (ws : List Jvm.Cond) (p1 : Int32) (p2 : Int32) (h0 : Heap) (n0 : Nat) (Z0 : n0 ≤ h0.size) :
    MetFree l (⟨"java/lang/Math", "max", "(II)I"⟩ : MethodName) (head1 (Jvm.Cond.code (⟨"java/lang/Math", "max", "(II)I"⟩ : MethodName) jdk_29_method_65_code 2 (some .int) :: ws) ({ frames := 0, cells := 0, slots := 0, locals := 0 } : Room)) (fun a U => a = #[(.int p1), (.int p2)] ∧ Z.Warmed39 U.vm ∧ U.heap = h0) (fun _ _ _ _ _ => True) (fun _ U o U' => ∃ v L, o = .returned v ∧ Q2 Z p1 p2 h0 n0 v U'.heap L ∧ FrameEnd U o U' L ({ frames := 0, cells := 0, slots := 0, locals := 0 } : Room).cells ({ frames := 0, cells := 0, slots := 0, locals := 0 } : Room).slots) := by
  refine MetFree.of_bodySF (Jvm.Free.JP.mathPlain rfl (by decide +kernel)) hisR ?_
  intro p e s m args below meth c s₁ Bd hml0 hP hK
  obtain ⟨rfl, hZ, hh⟩ := hP
  have hx := Bd.exec
  have hby := Bd.bytes
  have hml : c.maxLocals = 2 := hml0
  have hown : s.vm.findClass "java/lang/Math" = some m.cls := findClass_of_methodNamed Bd.named
  have hnm := (name_of_methodNamed Bd.named Bd.method).1
  have X0 : Stand p l e ({ frames := 0, cells := 0, slots := 0, locals := 0 } : Room) s m #[(.int p1), (.int p2)] below meth c s₁ [] 0 0 := Stand.of_body Bd
  have e0 : s₁.heap = h0 := by rw [← hh, Bd.state]; rfl
  have N0 := Fr.nil n0
  show own_Go p.tables e below (own_Fin below s (Q2 Z p1 p2 h0 n0) ({ frames := 0, cells := 0, slots := 0, locals := 0 } : Room).cells ({ frames := 0, cells := 0, slots := 0, locals := 0 } : Room).slots) (s₁.setTop (entryFrame m #[(.int p1), (.int p2)] 2))
  refine own_go (S' := s₁.setTop (mkF m 0 #[.val (.int p1), .val (.int p2)] [])) (fun t k => castTop (ef_2 m p1 p2) k) ?_
  show own_Go p.tables e below _ (s₁.setTop (mkF m 0 #[.val (.int p1), .val (.int p2)] []))
  refine own_go (fun _ => XS.iloadN X0.here hx rfl (hb hby d2_0) rfl) ?_
  show own_Go p.tables e below _ (s₁.setTop (mkF m 1 #[.val (.int p1), .val (.int p2)] [(.int p1)]))
  refine own_go (fun _ => XS.iloadN X0.here hx rfl (hb hby d2_1) rfl) ?_
  show own_Go p.tables e below _ (s₁.setTop (mkF m 2 #[.val (.int p1), .val (.int p2)] [(.int p2), (.int p1)]))
  by_cases hc3_2 : p1 < p2
  · skip
    refine own_go (fun _ => XS.icmpYes X0.here hx rfl (pc0 := 2) (pc' := 9) rfl (hb hby d2_2) rfl (tlt hc3_2).1 (by decide) (by decide)) ?_
    show own_Go p.tables e below _ (s₁.setTop (mkF m 9 #[.val (.int p1), .val (.int p2)] []))
    refine own_go (fun _ => XS.iloadN X0.here hx rfl (hb hby d2_9) rfl) ?_
    show own_Go p.tables e below _ (s₁.setTop (mkF m 10 #[.val (.int p1), .val (.int p2)] [(.int p2)]))
    refine own_retI X0 Bd.notSynchronized hx Bd.returns (hb hby d2_10) (show Q2 Z p1 p2 h0 n0 _ s₁.heap _ from by rw [e0]; exact ⟨(own_val ((if_pos hc3_2).trans rfl)), N0, rfl⟩) (by decide) (by decide)
  · skip
    refine own_go (fun _ => XS.icmpNo X0.here hx rfl (hb hby d2_2) rfl (flt hc3_2).1) ?_
    show own_Go p.tables e below _ (s₁.setTop (mkF m 5 #[.val (.int p1), .val (.int p2)] []))
    refine own_go (fun _ => XS.iloadN X0.here hx rfl (hb hby d2_5) rfl) ?_
    show own_Go p.tables e below _ (s₁.setTop (mkF m 6 #[.val (.int p1), .val (.int p2)] [(.int p1)]))
    refine own_go (fun _ => XS.goto X0.here hx rfl (pc0 := 6) (pc' := 10) rfl (hb hby d2_6) (by decide) (by decide)) ?_
    show own_Go p.tables e below _ (s₁.setTop (mkF m 10 #[.val (.int p1), .val (.int p2)] [(.int p1)]))
    refine own_retI X0 Bd.notSynchronized hx Bd.returns (hb hby d2_10) (show Q2 Z p1 p2 h0 n0 _ s₁.heap _ from by rw [e0]; exact ⟨(own_val ((if_neg hc3_2).trans rfl)), N0, rfl⟩) (by decide) (by decide)
theorem d5_0 : decode jdk_22_method_1_code 0 = .ok (.aload_n 0, 1) := by decide +kernel
theorem d5_1 : decode jdk_22_method_1_code 1 = .ok (.invokespecial 1, 3) := by decide +kernel
theorem d5_4 : decode jdk_22_method_1_code 4 = .ok (.return_, 1) := by decide +kernel
theorem pn_5 : plainName "java/util/AbstractCollection" = true := by first | (simp [plainName, overriddenIn]; done) | decide +kernel
theorem ef_5 (m : MethodId) (a1 : Addr) : entryFrame m #[(.ref a1)] 1 = mkF m 0 #[.val (.ref a1)] [] := by first | (simp [entryFrame, mkF, argsToLocals, Value.category]; done) | rfl
def Q5 (Z : State) (a1 : Addr) (h0 : Heap) (n0 : Nat) (v : Option Value) (h : Heap) (L : List Loc) : Prop := v = none ∧ Fr n0 L ∧ h = h0
set_option maxRecDepth 65536 in
set_option maxHeartbeats 40000000 in
theorem rm5 (l : Launch) (Z : State) (a0 : Array Value) (hw : ∀ d ∈ tables_1, d.before a0 Z = true) (ws : List Jvm.Cond) (a1 : Addr) (h0 : Heap) (n0 : Nat) (Z0 : n0 ≤ h0.size) :
    MetFree l (⟨"java/util/AbstractCollection", "<init>", "()V"⟩ : MethodName) (head1 (Jvm.Cond.code (⟨"java/util/AbstractCollection", "<init>", "()V"⟩ : MethodName) jdk_22_method_1_code 1 none :: ws) ({ frames := 1, cells := 0, slots := 0, locals := 12 } : Room)) (fun a U => a = #[(.ref a1)] ∧ Z.Warmed39 U.vm ∧ U.heap = h0) (fun _ _ _ _ _ => True) (fun _ U o U' => ∃ v L, o = .returned v ∧ Q5 Z a1 h0 n0 v U'.heap L ∧ FrameEnd U o U' L ({ frames := 1, cells := 0, slots := 0, locals := 12 } : Room).cells ({ frames := 1, cells := 0, slots := 0, locals := 12 } : Room).slots) := by
  refine MetFree.of_bodySF (plainFor_of_name pn_5) hisR ?_
  intro p e s m args below meth c s₁ Bd hml0 hP hK
  obtain ⟨rfl, hZ, hh⟩ := hP
  have hx := Bd.exec
  have hby := Bd.bytes
  have hml : c.maxLocals = 1 := hml0
  have hown : s.vm.findClass "java/util/AbstractCollection" = some m.cls := findClass_of_methodNamed Bd.named
  have hnm := (name_of_methodNamed Bd.named Bd.method).1
  have X0 : Stand p l e ({ frames := 1, cells := 0, slots := 0, locals := 12 } : Room) s m #[(.ref a1)] below meth c s₁ [] 0 0 := Stand.of_body Bd
  have e0 : s₁.heap = h0 := by rw [← hh, Bd.state]; rfl
  have N0 := Fr.nil n0
  show own_Go p.tables e below (own_Fin below s (Q5 Z a1 h0 n0) ({ frames := 1, cells := 0, slots := 0, locals := 12 } : Room).cells ({ frames := 1, cells := 0, slots := 0, locals := 12 } : Room).slots) (s₁.setTop (entryFrame m #[(.ref a1)] 1))
  refine own_go (S' := s₁.setTop (mkF m 0 #[.val (.ref a1)] [])) (fun t k => castTop (ef_5 m a1) k) ?_
  show own_Go p.tables e below _ (s₁.setTop (mkF m 0 #[.val (.ref a1)] []))
  refine own_go (fun _ => XS.aloadN X0.here hx rfl (hb hby d5_0) rfl rfl) ?_
  show own_Go p.tables e below _ (s₁.setTop (mkF m 1 #[.val (.ref a1)] [(.ref a1)]))
  obtain ⟨T2, X2, e2, st2⟩ := initO X0 hx hZ hown (hw _ (List.mem_of_getElem? (i := 33) rfl)) (hw _ (List.mem_of_getElem? (i := 34) rfl)) (hw _ (List.mem_of_getElem? (i := 35) rfl)) e0 (g := (mkF m 1 #[.val (.ref a1)] [(.ref a1)])) rfl (by rw [hml]; rfl) rfl (hb hby d5_1) (by decide) (W := 0) (by show 2 * 0 + _ ≤ _; exact Nat.le_of_eq rfl) (by decide)
  refine own_go st2 ?_
  show own_Go p.tables e below _ (T2.setTop (mkF m 4 #[.val (.ref a1)] []))
  refine own_ret0 X2 Bd.notSynchronized hx Bd.returns (hb hby d5_4) (show Q5 Z a1 h0 n0 _ T2.heap _ from by rw [e2]; exact ⟨rfl, N0, rfl⟩) (by decide) (by decide)
theorem d4_0 : decode jdk_39_method_1_code 0 = .ok (.aload_n 0, 1) := by decide +kernel
theorem d4_1 : decode jdk_39_method_1_code 1 = .ok (.invokespecial 1, 3) := by decide +kernel
theorem d4_4 : decode jdk_39_method_1_code 4 = .ok (.aload_n 0, 1) := by decide +kernel
theorem d4_5 : decode jdk_39_method_1_code 5 = .ok (.iconst 0, 1) := by decide +kernel
theorem d4_6 : decode jdk_39_method_1_code 6 = .ok (.putfield 7, 3) := by decide +kernel
theorem d4_9 : decode jdk_39_method_1_code 9 = .ok (.return_, 1) := by decide +kernel
theorem pn_4 : plainName "java/util/AbstractList" = true := by first | (simp [plainName, overriddenIn]; done) | decide +kernel
theorem pd_2 : parseMethodDescriptor "()V" = some ⟨[], none⟩ := by decide +kernel
theorem ef_4 (m : MethodId) (a1 : Addr) : entryFrame m #[(.ref a1)] 1 = mkF m 0 #[.val (.ref a1)] [] := by first | (simp [entryFrame, mkF, argsToLocals, Value.category]; done) | rfl
def Q4 (Z : State) (a1 : Addr) (u_elementData_a1 : Value) (u_modCount_a1 : Value) (h0 : Heap) (n0 : Nat) (v : Option Value) (h : Heap) (L : List Loc) : Prop := v = none ∧ Fr n0 L ∧ Keep h0 h [a1] ∧ Exa Z h a1 "java/util/ArrayList" ∧ Fld Z h a1 "java/util/AbstractList" "modCount" "I" (.int (0 : Int32)) ∧ Fld Z h a1 "java/util/ArrayList" "elementData" "[Ljava/lang/Object;" u_elementData_a1
set_option maxRecDepth 65536 in
set_option maxHeartbeats 40000000 in
theorem rm4 (l : Launch) (Z : State) (a0 : Array Value) (hw : ∀ d ∈ tables_1, d.before a0 Z = true) (ws : List Jvm.Cond) (a1 : Addr) (u_elementData_a1 : Value) (u_modCount_a1 : Value) (h0 : Heap) (n0 : Nat) (Z0 : n0 ≤ h0.size) (E_a1 : Exa Z h0 a1 "java/util/ArrayList") (F_elementData_a1 : Fld Z h0 a1 "java/util/ArrayList" "elementData" "[Ljava/lang/Object;" u_elementData_a1) (F_modCount_a1 : Fld Z h0 a1 "java/util/AbstractList" "modCount" "I" u_modCount_a1) (g_a1 : n0 ≤ a1) :
    MetFree l (⟨"java/util/AbstractList", "<init>", "()V"⟩ : MethodName) (head1 (Jvm.Cond.code (⟨"java/util/AbstractList", "<init>", "()V"⟩ : MethodName) jdk_39_method_1_code 1 none :: ws) ({ frames := 2, cells := 0, slots := 0, locals := 24 } : Room)) (fun a U => a = #[(.ref a1)] ∧ Z.Warmed39 U.vm ∧ U.heap = h0) (fun _ _ _ _ _ => True) (fun _ U o U' => ∃ v L, o = .returned v ∧ Q4 Z a1 u_elementData_a1 u_modCount_a1 h0 n0 v U'.heap L ∧ FrameEnd U o U' L ({ frames := 2, cells := 0, slots := 0, locals := 24 } : Room).cells ({ frames := 2, cells := 0, slots := 0, locals := 24 } : Room).slots) := by
  refine MetFree.of_bodySF (plainFor_of_name pn_4) hisR ?_
  intro p e s m args below meth c s₁ Bd hml0 hP hK
  obtain ⟨rfl, hZ, hh⟩ := hP
  have hx := Bd.exec
  have hby := Bd.bytes
  have hml : c.maxLocals = 1 := hml0
  have hown : s.vm.findClass "java/util/AbstractList" = some m.cls := findClass_of_methodNamed Bd.named
  have hnm := (name_of_methodNamed Bd.named Bd.method).1
  have X0 : Stand p l e ({ frames := 2, cells := 0, slots := 0, locals := 24 } : Room) s m #[(.ref a1)] below meth c s₁ [] 0 0 := Stand.of_body Bd
  have e0 : s₁.heap = h0 := by rw [← hh, Bd.state]; rfl
  have N0 := Fr.nil n0
  show own_Go p.tables e below (own_Fin below s (Q4 Z a1 u_elementData_a1 u_modCount_a1 h0 n0) ({ frames := 2, cells := 0, slots := 0, locals := 24 } : Room).cells ({ frames := 2, cells := 0, slots := 0, locals := 24 } : Room).slots) (s₁.setTop (entryFrame m #[(.ref a1)] 1))
  refine own_go (S' := s₁.setTop (mkF m 0 #[.val (.ref a1)] [])) (fun t k => castTop (ef_4 m a1) k) ?_
  show own_Go p.tables e below _ (s₁.setTop (mkF m 0 #[.val (.ref a1)] []))
  refine own_go (fun _ => XS.aloadN X0.here hx rfl (hb hby d4_0) rfl rfl) ?_
  show own_Go p.tables e below _ (s₁.setTop (mkF m 1 #[.val (.ref a1)] [(.ref a1)]))
  obtain ⟨_, _, ⟨T2, L2, k2, n2⟩, -, X2, ⟨Lc2, hQ2, l2, y2, z2⟩, st2⟩ := X0.specialBack hx (y := (⟨"java/util/AbstractCollection", "<init>", "()V"⟩ : MethodName)) rfl hown (mvT hZ (hw _ (List.mem_of_getElem? (i := 27) rfl))) (mvT hZ (hw _ (List.mem_of_getElem? (i := 28) rfl))) (mvT hZ (hw _ (List.mem_of_getElem? (i := 32) rfl))) (by decide) (backOf (W := 0) (rm5 l Z a0 hw [] a1 h0 n0 Z0 ) hZ (hw _ (List.mem_of_getElem? (i := 32) rfl)) (hw _ (List.mem_of_getElem? (i := 31) rfl)) (by decide) (by decide)) (g := (mkF m 1 #[.val (.ref a1)] [(.ref a1)])) rfl (by rw [hml]; rfl) (Steps.refl _) (a := a1) (argsL := []) (rest := []) (lenOf pd_2 rfl) rfl (by show 2 * 0 + _ ≤ _; exact Nat.le_of_eq rfl) (hb hby d4_1) (fun _ _ => ⟨rfl, e0, (by decide : 0 + 0 ≤ _), (by decide : 0 + 0 ≤ _)⟩)
  dsimp only [Pt.U, Pt.locs, Pt.cells, Pt.slots] at X2 l2 y2 z2 st2 hQ2
  subst l2 y2 z2
  obtain ⟨rfl, N2q, e2⟩ := hQ2
  have N2 := Fr.app N0 N2q
  refine own_via st2 ?_
  show own_Go p.tables e below _ (T2.setTop (mkF m 4 #[.val (.ref a1)] []))
  refine own_go (fun _ => XS.aloadN X2.here hx rfl (hb hby d4_4) rfl rfl) ?_
  show own_Go p.tables e below _ (T2.setTop (mkF m 5 #[.val (.ref a1)] [(.ref a1)]))
  refine own_go (fun _ => XS.iconst X2.here hx rfl (hb hby d4_5)) ?_
  show own_Go p.tables e below _ (T2.setTop (mkF m 6 #[.val (.ref a1)] [(.int (0 : Int32)), (.ref a1)]))
  obtain ⟨T3, h3, X3, e3, W3, st3⟩ := putF X2 hx hZ hown (host := "") (Or.inl (hw _ (List.mem_of_getElem? (i := 36) rfl))) Via.refl e2 F_modCount_a1 E_a1 (Or.inl (hw _ (List.mem_of_getElem? (i := 37) rfl))) (hw _ (List.mem_of_getElem? (i := 16) rfl)) (ty := .int) (by decide) rfl rfl (g := (mkF m 6 #[.val (.ref a1)] [(.int (0 : Int32)), (.ref a1)])) rfl rfl (hb hby d4_6)
  refine own_go st3 ?_
  have Fw3 := F_modCount_a1.same W3
  have K3 : Keep h0 h3 [a1] := (Keep.refl h0 [a1]).wr W3 (Or.inl (List.mem_of_getElem? (i := 0) rfl))
  have N3 := Fr.snoc X3 N2 g_a1
  show own_Go p.tables e below _ (T3.setTop (mkF m 9 #[.val (.ref a1)] []))
  refine own_ret0 X3 Bd.notSynchronized hx Bd.returns (hb hby d4_9) (show Q4 Z a1 u_elementData_a1 u_modCount_a1 h0 n0 _ T3.heap _ from by rw [e3]; exact ⟨rfl, N3, K3, (E_a1.wr W3), Fw3, (F_elementData_a1.other W3 (Or.inr (slot_ne (Or.inl (hw _ (List.mem_of_getElem? (i := 40) rfl))) (Or.inl (hw _ (List.mem_of_getElem? (i := 37) rfl))) (by decide) (t := (.array (.object "java/lang/Object"))) (t' := .int) (by decide) (by decide))))⟩) (by decide) (by decide)
theorem d3_0 : decode jdk_38_method_2_code 0 = .ok (.aload_n 0, 1) := by decide +kernel
theorem d3_1 : decode jdk_38_method_2_code 1 = .ok (.invokespecial 1, 3) := by decide +kernel
theorem d3_4 : decode jdk_38_method_2_code 4 = .ok (.aload_n 0, 1) := by decide +kernel
theorem d3_5 : decode jdk_38_method_2_code 5 = .ok (.getstatic 39, 3) := by decide +kernel
theorem d3_8 : decode jdk_38_method_2_code 8 = .ok (.putfield 9, 3) := by decide +kernel
theorem d3_11 : decode jdk_38_method_2_code 11 = .ok (.return_, 1) := by decide +kernel
theorem pn_3 : plainName "java/util/ArrayList" = true := by first | (simp [plainName, overriddenIn]; done) | decide +kernel
theorem ef_3 (m : MethodId) (a1 : Addr) : entryFrame m #[(.ref a1)] 1 = mkF m 0 #[.val (.ref a1)] [] := by first | (simp [entryFrame, mkF, argsToLocals, Value.category]; done) | rfl
def Q3 (Z : State) (a1 : Addr) (u_elementData_a1 : Value) (u_modCount_a1 : Value) (s_ArrayList_DEFAULTCAPACITY_EMPTY_ELEMENTDATA : Addr) (h0 : Heap) (n0 : Nat) (v : Option Value) (h : Heap) (L : List Loc) : Prop := v = none ∧ Fr n0 L ∧ Keep h0 h [a1] ∧ Exa Z h a1 "java/util/ArrayList" ∧ Fld Z h a1 "java/util/AbstractList" "modCount" "I" (.int (0 : Int32)) ∧ Fld Z h a1 "java/util/ArrayList" "elementData" "[Ljava/lang/Object;" (.ref s_ArrayList_DEFAULTCAPACITY_EMPTY_ELEMENTDATA)
set_option maxRecDepth 65536 in
set_option maxHeartbeats 40000000 in
theorem rm3 (l : Launch) (Z : State) (a0 : Array Value) (hw : ∀ d ∈ tables_1, d.before a0 Z = true) (ws : List Jvm.Cond) (a1 : Addr) (u_elementData_a1 : Value) (u_modCount_a1 : Value) (s_ArrayList_DEFAULTCAPACITY_EMPTY_ELEMENTDATA : Addr) (h0 : Heap) (n0 : Nat) (Z0 : n0 ≤ h0.size) (E_a1 : Exa Z h0 a1 "java/util/ArrayList") (F_elementData_a1 : Fld Z h0 a1 "java/util/ArrayList" "elementData" "[Ljava/lang/Object;" u_elementData_a1) (F_modCount_a1 : Fld Z h0 a1 "java/util/AbstractList" "modCount" "I" u_modCount_a1) (g_a1 : n0 ≤ a1) (S_ArrayList_DEFAULTCAPACITY_EMPTY_ELEMENTDATA : Sta Z Z.heap "java/util/ArrayList" "DEFAULTCAPACITY_EMPTY_ELEMENTDATA" "[Ljava/lang/Object;" (.ref s_ArrayList_DEFAULTCAPACITY_EMPTY_ELEMENTDATA)) (O0 : Old Z n0 h0) :
    MetFree l (⟨"java/util/ArrayList", "<init>", "()V"⟩ : MethodName) (head1 (Jvm.Cond.code (⟨"java/util/ArrayList", "<init>", "()V"⟩ : MethodName) jdk_38_method_2_code 1 none :: ws) ({ frames := 3, cells := 0, slots := 0, locals := 36 } : Room)) (fun a U => a = #[(.ref a1)] ∧ Z.Warmed39 U.vm ∧ U.heap = h0) (fun _ _ _ _ _ => True) (fun _ U o U' => ∃ v L, o = .returned v ∧ Q3 Z a1 u_elementData_a1 u_modCount_a1 s_ArrayList_DEFAULTCAPACITY_EMPTY_ELEMENTDATA h0 n0 v U'.heap L ∧ FrameEnd U o U' L ({ frames := 3, cells := 0, slots := 0, locals := 36 } : Room).cells ({ frames := 3, cells := 0, slots := 0, locals := 36 } : Room).slots) := by
  refine MetFree.of_bodySF (plainFor_of_name pn_3) hisR ?_
  intro p e s m args below meth c s₁ Bd hml0 hP hK
  obtain ⟨rfl, hZ, hh⟩ := hP
  have hx := Bd.exec
  have hby := Bd.bytes
  have hml : c.maxLocals = 1 := hml0
  have hown : s.vm.findClass "java/util/ArrayList" = some m.cls := findClass_of_methodNamed Bd.named
  have hnm := (name_of_methodNamed Bd.named Bd.method).1
  have X0 : Stand p l e ({ frames := 3, cells := 0, slots := 0, locals := 36 } : Room) s m #[(.ref a1)] below meth c s₁ [] 0 0 := Stand.of_body Bd
  have e0 : s₁.heap = h0 := by rw [← hh, Bd.state]; rfl
  have N0 := Fr.nil n0
  show own_Go p.tables e below (own_Fin below s (Q3 Z a1 u_elementData_a1 u_modCount_a1 s_ArrayList_DEFAULTCAPACITY_EMPTY_ELEMENTDATA h0 n0) ({ frames := 3, cells := 0, slots := 0, locals := 36 } : Room).cells ({ frames := 3, cells := 0, slots := 0, locals := 36 } : Room).slots) (s₁.setTop (entryFrame m #[(.ref a1)] 1))
  refine own_go (S' := s₁.setTop (mkF m 0 #[.val (.ref a1)] [])) (fun t k => castTop (ef_3 m a1) k) ?_
  show own_Go p.tables e below _ (s₁.setTop (mkF m 0 #[.val (.ref a1)] []))
  refine own_go (fun _ => XS.aloadN X0.here hx rfl (hb hby d3_0) rfl rfl) ?_
  show own_Go p.tables e below _ (s₁.setTop (mkF m 1 #[.val (.ref a1)] [(.ref a1)]))
  obtain ⟨_, _, ⟨T2, L2, k2, n2⟩, -, X2, ⟨Lc2, hQ2, l2, y2, z2⟩, st2⟩ := X0.specialBack hx (y := (⟨"java/util/AbstractList", "<init>", "()V"⟩ : MethodName)) rfl hown (mvT hZ (hw _ (List.mem_of_getElem? (i := 21) rfl))) (mvT hZ (hw _ (List.mem_of_getElem? (i := 22) rfl))) (mvT hZ (hw _ (List.mem_of_getElem? (i := 26) rfl))) (by decide) (backOf (W := 0) (rm4 l Z a0 hw [] a1 u_elementData_a1 u_modCount_a1 h0 n0 Z0 E_a1 F_elementData_a1 F_modCount_a1 g_a1) hZ (hw _ (List.mem_of_getElem? (i := 26) rfl)) (hw _ (List.mem_of_getElem? (i := 25) rfl)) (by decide) (by decide)) (g := (mkF m 1 #[.val (.ref a1)] [(.ref a1)])) rfl (by rw [hml]; rfl) (Steps.refl _) (a := a1) (argsL := []) (rest := []) (lenOf pd_2 rfl) rfl (by show 2 * 0 + _ ≤ _; exact Nat.le_of_eq rfl) (hb hby d3_1) (fun _ _ => ⟨rfl, e0, (by decide : 0 + 0 ≤ _), (by decide : 0 + 0 ≤ _)⟩)
  dsimp only [Pt.U, Pt.locs, Pt.cells, Pt.slots] at X2 l2 y2 z2 st2 hQ2
  subst l2 y2 z2
  obtain ⟨rfl, N2q, Kc2, F2_0, F2_1, F2_2⟩ := hQ2
  have N2 := Fr.app N0 N2q
  refine own_via st2 ?_
  have K2 : Keep h0 T2.heap [a1] := (Keep.refl h0 [a1]).trans Kc2 (allS (Or.inl (List.mem_of_getElem? (i := 0) rfl)) all0)
  show own_Go p.tables e below _ (T2.setTop (mkF m 4 #[.val (.ref a1)] []))
  refine own_go (fun _ => XS.aloadN X2.here hx rfl (hb hby d3_4) rfl rfl) ?_
  show own_Go p.tables e below _ (T2.setTop (mkF m 5 #[.val (.ref a1)] [(.ref a1)]))
  obtain ⟨T3, X3, e3, st3⟩ := getS2 X2 hx hZ hown (host := "") (Or.inl (hw _ (List.mem_of_getElem? (i := 38) rfl))) Via.refl rfl (S_ArrayList_DEFAULTCAPACITY_EMPTY_ELEMENTDATA.ext (O0.keep Kc2 (allS g_a1 all0)).2) (g := (mkF m 5 #[.val (.ref a1)] [(.ref a1)])) rfl (hb hby d3_5)
  refine own_go st3 ?_
  show own_Go p.tables e below _ (T3.setTop (mkF m 8 #[.val (.ref a1)] [(.ref s_ArrayList_DEFAULTCAPACITY_EMPTY_ELEMENTDATA), (.ref a1)]))
  obtain ⟨T4, h4, X4, e4, W4, st4⟩ := putF X3 hx hZ hown (host := "") (Or.inl (hw _ (List.mem_of_getElem? (i := 39) rfl))) Via.refl e3 F2_2 F2_0 (Or.inl (hw _ (List.mem_of_getElem? (i := 40) rfl))) (hw _ (List.mem_of_getElem? (i := 16) rfl)) (ty := (.array (.object "java/lang/Object"))) (by decide) rfl rfl (g := (mkF m 8 #[.val (.ref a1)] [(.ref s_ArrayList_DEFAULTCAPACITY_EMPTY_ELEMENTDATA), (.ref a1)])) rfl rfl (hb hby d3_8)
  refine own_go st4 ?_
  have Fw4 := F2_2.same W4
  have K4 : Keep h0 h4 [a1] := K2.wr W4 (Or.inl (List.mem_of_getElem? (i := 0) rfl))
  have N4 := Fr.snoc X4 N2 g_a1
  show own_Go p.tables e below _ (T4.setTop (mkF m 11 #[.val (.ref a1)] []))
  refine own_ret0 X4 Bd.notSynchronized hx Bd.returns (hb hby d3_11) (show Q3 Z a1 u_elementData_a1 u_modCount_a1 s_ArrayList_DEFAULTCAPACITY_EMPTY_ELEMENTDATA h0 n0 _ T4.heap _ from by rw [e4]; exact ⟨rfl, N4, K4, (F2_0.wr W4), (F2_1.other W4 (Or.inr (slot_ne (Or.inl (hw _ (List.mem_of_getElem? (i := 37) rfl))) (Or.inl (hw _ (List.mem_of_getElem? (i := 40) rfl))) (by decide) (t := .int) (t' := (.array (.object "java/lang/Object"))) (by decide) (by decide)))), Fw4⟩) (by decide) (by decide)
theorem d8_0 : decode jdk_30_method_1_code 0 = .ok (.aload_n 0, 1) := by decide +kernel
theorem d8_1 : decode jdk_30_method_1_code 1 = .ok (.invokespecial 1, 3) := by decide +kernel
theorem d8_4 : decode jdk_30_method_1_code 4 = .ok (.return_, 1) := by decide +kernel
theorem pn_8 : plainName "java/lang/Record" = true := by first | (simp [plainName, overriddenIn]; done) | decide +kernel
theorem ef_8 (m : MethodId) (a1 : Addr) : entryFrame m #[(.ref a1)] 1 = mkF m 0 #[.val (.ref a1)] [] := by first | (simp [entryFrame, mkF, argsToLocals, Value.category]; done) | rfl
def Q8 (Z : State) (a1 : Addr) (h0 : Heap) (n0 : Nat) (v : Option Value) (h : Heap) (L : List Loc) : Prop := v = none ∧ Fr n0 L ∧ h = h0
set_option maxRecDepth 65536 in
set_option maxHeartbeats 40000000 in
theorem rm8 (l : Launch) (Z : State) (a0 : Array Value) (hw : ∀ d ∈ tables_1, d.before a0 Z = true) (ws : List Jvm.Cond) (a1 : Addr) (h0 : Heap) (n0 : Nat) (Z0 : n0 ≤ h0.size) :
    MetFree l (⟨"java/lang/Record", "<init>", "()V"⟩ : MethodName) (head1 (Jvm.Cond.code (⟨"java/lang/Record", "<init>", "()V"⟩ : MethodName) jdk_30_method_1_code 1 none :: ws) ({ frames := 1, cells := 0, slots := 0, locals := 12 } : Room)) (fun a U => a = #[(.ref a1)] ∧ Z.Warmed39 U.vm ∧ U.heap = h0) (fun _ _ _ _ _ => True) (fun _ U o U' => ∃ v L, o = .returned v ∧ Q8 Z a1 h0 n0 v U'.heap L ∧ FrameEnd U o U' L ({ frames := 1, cells := 0, slots := 0, locals := 12 } : Room).cells ({ frames := 1, cells := 0, slots := 0, locals := 12 } : Room).slots) := by
  refine MetFree.of_bodySF (plainFor_of_name pn_8) hisR ?_
  intro p e s m args below meth c s₁ Bd hml0 hP hK
  obtain ⟨rfl, hZ, hh⟩ := hP
  have hx := Bd.exec
  have hby := Bd.bytes
  have hml : c.maxLocals = 1 := hml0
  have hown : s.vm.findClass "java/lang/Record" = some m.cls := findClass_of_methodNamed Bd.named
  have hnm := (name_of_methodNamed Bd.named Bd.method).1
  have X0 : Stand p l e ({ frames := 1, cells := 0, slots := 0, locals := 12 } : Room) s m #[(.ref a1)] below meth c s₁ [] 0 0 := Stand.of_body Bd
  have e0 : s₁.heap = h0 := by rw [← hh, Bd.state]; rfl
  have N0 := Fr.nil n0
  show own_Go p.tables e below (own_Fin below s (Q8 Z a1 h0 n0) ({ frames := 1, cells := 0, slots := 0, locals := 12 } : Room).cells ({ frames := 1, cells := 0, slots := 0, locals := 12 } : Room).slots) (s₁.setTop (entryFrame m #[(.ref a1)] 1))
  refine own_go (S' := s₁.setTop (mkF m 0 #[.val (.ref a1)] [])) (fun t k => castTop (ef_8 m a1) k) ?_
  show own_Go p.tables e below _ (s₁.setTop (mkF m 0 #[.val (.ref a1)] []))
  refine own_go (fun _ => XS.aloadN X0.here hx rfl (hb hby d8_0) rfl rfl) ?_
  show own_Go p.tables e below _ (s₁.setTop (mkF m 1 #[.val (.ref a1)] [(.ref a1)]))
  obtain ⟨T2, X2, e2, st2⟩ := initO X0 hx hZ hown (hw _ (List.mem_of_getElem? (i := 49) rfl)) (hw _ (List.mem_of_getElem? (i := 34) rfl)) (hw _ (List.mem_of_getElem? (i := 35) rfl)) e0 (g := (mkF m 1 #[.val (.ref a1)] [(.ref a1)])) rfl (by rw [hml]; rfl) rfl (hb hby d8_1) (by decide) (W := 0) (by show 2 * 0 + _ ≤ _; exact Nat.le_of_eq rfl) (by decide)
  refine own_go st2 ?_
  show own_Go p.tables e below _ (T2.setTop (mkF m 4 #[.val (.ref a1)] []))
  refine own_ret0 X2 Bd.notSynchronized hx Bd.returns (hb hby d8_4) (show Q8 Z a1 h0 n0 _ T2.heap _ from by rw [e2]; exact ⟨rfl, N0, rfl⟩) (by decide) (by decide)
theorem d7_0 : decode prog_10_method_1_code 0 = .ok (.aload_n 0, 1) := by decide +kernel
theorem d7_1 : decode prog_10_method_1_code 1 = .ok (.invokespecial 1, 3) := by decide +kernel
theorem d7_4 : decode prog_10_method_1_code 4 = .ok (.aload_n 0, 1) := by decide +kernel
theorem d7_5 : decode prog_10_method_1_code 5 = .ok (.aload_n 1, 1) := by decide +kernel
theorem d7_6 : decode prog_10_method_1_code 6 = .ok (.putfield 7, 3) := by decide +kernel
theorem d7_9 : decode prog_10_method_1_code 9 = .ok (.aload_n 0, 1) := by decide +kernel
theorem d7_10 : decode prog_10_method_1_code 10 = .ok (.iload_n 2, 1) := by decide +kernel
theorem d7_11 : decode prog_10_method_1_code 11 = .ok (.putfield 13, 3) := by decide +kernel
theorem d7_14 : decode prog_10_method_1_code 14 = .ok (.aload_n 0, 1) := by decide +kernel
theorem d7_15 : decode prog_10_method_1_code 15 = .ok (.iload_n 3, 1) := by decide +kernel
theorem d7_16 : decode prog_10_method_1_code 16 = .ok (.putfield 17, 3) := by decide +kernel
theorem d7_19 : decode prog_10_method_1_code 19 = .ok (.aload_n 0, 1) := by decide +kernel
theorem d7_20 : decode prog_10_method_1_code 20 = .ok (.iload 4, 2) := by decide +kernel
theorem d7_22 : decode prog_10_method_1_code 22 = .ok (.putfield 20, 3) := by decide +kernel
theorem d7_25 : decode prog_10_method_1_code 25 = .ok (.aload_n 0, 1) := by decide +kernel
theorem d7_26 : decode prog_10_method_1_code 26 = .ok (.aload 5, 2) := by decide +kernel
theorem d7_28 : decode prog_10_method_1_code 28 = .ok (.putfield 24, 3) := by decide +kernel
theorem d7_31 : decode prog_10_method_1_code 31 = .ok (.aload_n 0, 1) := by decide +kernel
theorem d7_32 : decode prog_10_method_1_code 32 = .ok (.aload 6, 2) := by decide +kernel
theorem d7_34 : decode prog_10_method_1_code 34 = .ok (.putfield 28, 3) := by decide +kernel
theorem d7_37 : decode prog_10_method_1_code 37 = .ok (.return_, 1) := by decide +kernel
theorem pn_7 : plainName "com/example/barwright/barwright/DataComponent" = true := by first | (simp [plainName, overriddenIn]; done) | decide +kernel
theorem ef_7 (m : MethodId) (a1 : Addr) (a2 : Addr) (p3 : Int32) (p4 : Int32) (p5 : Int32) (a6 : Addr) (a7 : Addr) : entryFrame m #[(.ref a1), (.ref a2), (.int p3), (.int p4), (.int p5), (.ref a6), (.ref a7)] 7 = mkF m 0 #[.val (.ref a1), .val (.ref a2), .val (.int p3), .val (.int p4), .val (.int p5), .val (.ref a6), .val (.ref a7)] [] := by first | (simp [entryFrame, mkF, argsToLocals, Value.category]; done) | rfl
def Q7 (Z : State) (a1 : Addr) (a2 : Addr) (p3 : Int32) (p4 : Int32) (p5 : Int32) (a6 : Addr) (a7 : Addr) (u_characters_a1 : Value) (u_shortest_a1 : Value) (u_longest_a1 : Value) (u_optional_a1 : Value) (u_linters_a1 : Value) (u_checked_a1 : Value) (h0 : Heap) (n0 : Nat) (v : Option Value) (h : Heap) (L : List Loc) : Prop := v = none ∧ Fr n0 L ∧ Keep h0 h [a1] ∧ Exa Z h a1 "com/example/barwright/barwright/DataComponent" ∧ Fld Z h a1 "com/example/barwright/barwright/DataComponent" "characters" "Lcom/example/barwright/barwright/DataComponent$CharacterSet;" (.ref a2) ∧ Fld Z h a1 "com/example/barwright/barwright/DataComponent" "shortest" "I" (.int p3) ∧ Fld Z h a1 "com/example/barwright/barwright/DataComponent" "longest" "I" (.int p4) ∧ Fld Z h a1 "com/example/barwright/barwright/DataComponent" "optional" "Z" (.int (nar .boolean p5)) ∧ Fld Z h a1 "com/example/barwright/barwright/DataComponent" "linters" "Ljava/util/List;" (.ref a6) ∧ Fld Z h a1 "com/example/barwright/barwright/DataComponent" "checked" "Ljava/util/List;" (.ref a7)
set_option maxRecDepth 65536 in
set_option maxHeartbeats 40000000 in
theorem rm7 (l : Launch) (Z : State) (a0 : Array Value) (hw : ∀ d ∈ tables_1, d.before a0 Z = true) (ws : List Jvm.Cond) (a1 : Addr) (a2 : Addr) (p3 : Int32) (p4 : Int32) (p5 : Int32) (a6 : Addr) (a7 : Addr) (u_characters_a1 : Value) (u_shortest_a1 : Value) (u_longest_a1 : Value) (u_optional_a1 : Value) (u_linters_a1 : Value) (u_checked_a1 : Value) (h0 : Heap) (n0 : Nat) (Z0 : n0 ≤ h0.size) (E_a1 : Exa Z h0 a1 "com/example/barwright/barwright/DataComponent") (F_characters_a1 : Fld Z h0 a1 "com/example/barwright/barwright/DataComponent" "characters" "Lcom/example/barwright/barwright/DataComponent$CharacterSet;" u_characters_a1) (g_a1 : n0 ≤ a1) (F_shortest_a1 : Fld Z h0 a1 "com/example/barwright/barwright/DataComponent" "shortest" "I" u_shortest_a1) (F_longest_a1 : Fld Z h0 a1 "com/example/barwright/barwright/DataComponent" "longest" "I" u_longest_a1) (F_optional_a1 : Fld Z h0 a1 "com/example/barwright/barwright/DataComponent" "optional" "Z" u_optional_a1) (F_linters_a1 : Fld Z h0 a1 "com/example/barwright/barwright/DataComponent" "linters" "Ljava/util/List;" u_linters_a1) (F_checked_a1 : Fld Z h0 a1 "com/example/barwright/barwright/DataComponent" "checked" "Ljava/util/List;" u_checked_a1) :
    MetFree l (⟨"com/example/barwright/barwright/DataComponent", "<init>", "(Lcom/example/barwright/barwright/DataComponent$CharacterSet;IIZLjava/util/List;Ljava/util/List;)V"⟩ : MethodName) (head1 (Jvm.Cond.code (⟨"com/example/barwright/barwright/DataComponent", "<init>", "(Lcom/example/barwright/barwright/DataComponent$CharacterSet;IIZLjava/util/List;Ljava/util/List;)V"⟩ : MethodName) prog_10_method_1_code 7 none :: ws) ({ frames := 2, cells := 0, slots := 0, locals := 24 } : Room)) (fun a U => a = #[(.ref a1), (.ref a2), (.int p3), (.int p4), (.int p5), (.ref a6), (.ref a7)] ∧ Z.Warmed39 U.vm ∧ U.heap = h0) (fun _ _ _ _ _ => True) (fun _ U o U' => ∃ v L, o = .returned v ∧ Q7 Z a1 a2 p3 p4 p5 a6 a7 u_characters_a1 u_shortest_a1 u_longest_a1 u_optional_a1 u_linters_a1 u_checked_a1 h0 n0 v U'.heap L ∧ FrameEnd U o U' L ({ frames := 2, cells := 0, slots := 0, locals := 24 } : Room).cells ({ frames := 2, cells := 0, slots := 0, locals := 24 } : Room).slots) := by
  refine MetFree.of_bodySF (plainFor_of_name pn_7) hisR ?_
  intro p e s m args below meth c s₁ Bd hml0 hP hK
  obtain ⟨rfl, hZ, hh⟩ := hP
  have hx := Bd.exec
  have hby := Bd.bytes
  have hml : c.maxLocals = 7 := hml0
  have hown : s.vm.findClass "com/example/barwright/barwright/DataComponent" = some m.cls := findClass_of_methodNamed Bd.named
  have hnm := (name_of_methodNamed Bd.named Bd.method).1
  have X0 : Stand p l e ({ frames := 2, cells := 0, slots := 0, locals := 24 } : Room) s m #[(.ref a1), (.ref a2), (.int p3), (.int p4), (.int p5), (.ref a6), (.ref a7)] below meth c s₁ [] 0 0 := Stand.of_body Bd
  have e0 : s₁.heap = h0 := by rw [← hh, Bd.state]; rfl
  have N0 := Fr.nil n0
  show own_Go p.tables e below (own_Fin below s (Q7 Z a1 a2 p3 p4 p5 a6 a7 u_characters_a1 u_shortest_a1 u_longest_a1 u_optional_a1 u_linters_a1 u_checked_a1 h0 n0) ({ frames := 2, cells := 0, slots := 0, locals := 24 } : Room).cells ({ frames := 2, cells := 0, slots := 0, locals := 24 } : Room).slots) (s₁.setTop (entryFrame m #[(.ref a1), (.ref a2), (.int p3), (.int p4), (.int p5), (.ref a6), (.ref a7)] 7))
  refine own_go (S' := s₁.setTop (mkF m 0 #[.val (.ref a1), .val (.ref a2), .val (.int p3), .val (.int p4), .val (.int p5), .val (.ref a6), .val (.ref a7)] [])) (fun t k => castTop (ef_7 m a1 a2 p3 p4 p5 a6 a7) k) ?_
  show own_Go p.tables e below _ (s₁.setTop (mkF m 0 #[.val (.ref a1), .val (.ref a2), .val (.int p3), .val (.int p4), .val (.int p5), .val (.ref a6), .val (.ref a7)] []))
  refine own_go (fun _ => XS.aloadN X0.here hx rfl (hb hby d7_0) rfl rfl) ?_
  show own_Go p.tables e below _ (s₁.setTop (mkF m 1 #[.val (.ref a1), .val (.ref a2), .val (.int p3), .val (.int p4), .val (.int p5), .val (.ref a6), .val (.ref a7)] [(.ref a1)]))
  obtain ⟨_, _, ⟨T8, L8, k8, n8⟩, -, X8, ⟨Lc8, hQ8, l8, y8, z8⟩, st8⟩ := X0.specialBack hx (y := (⟨"java/lang/Record", "<init>", "()V"⟩ : MethodName)) rfl hown (mvT hZ (hw _ (List.mem_of_getElem? (i := 44) rfl))) (mvT hZ (hw _ (List.mem_of_getElem? (i := 45) rfl))) (mvT hZ (hw _ (List.mem_of_getElem? (i := 48) rfl))) (by decide) (backOf (W := 0) (rm8 l Z a0 hw [] a1 h0 n0 Z0 ) hZ (hw _ (List.mem_of_getElem? (i := 48) rfl)) (hw _ (List.mem_of_getElem? (i := 47) rfl)) (by decide) (by decide)) (g := (mkF m 1 #[.val (.ref a1), .val (.ref a2), .val (.int p3), .val (.int p4), .val (.int p5), .val (.ref a6), .val (.ref a7)] [(.ref a1)])) rfl (by rw [hml]; rfl) (Steps.refl _) (a := a1) (argsL := []) (rest := []) (lenOf pd_2 rfl) rfl (by show 2 * 0 + _ ≤ _; exact Nat.le_of_eq rfl) (hb hby d7_1) (fun _ _ => ⟨rfl, e0, (by decide : 0 + 0 ≤ _), (by decide : 0 + 0 ≤ _)⟩)
  dsimp only [Pt.U, Pt.locs, Pt.cells, Pt.slots] at X8 l8 y8 z8 st8 hQ8
  subst l8 y8 z8
  obtain ⟨rfl, N8q, e8⟩ := hQ8
  have N8 := Fr.app N0 N8q
  refine own_via st8 ?_
  show own_Go p.tables e below _ (T8.setTop (mkF m 4 #[.val (.ref a1), .val (.ref a2), .val (.int p3), .val (.int p4), .val (.int p5), .val (.ref a6), .val (.ref a7)] []))
  refine own_go (fun _ => XS.aloadN X8.here hx rfl (hb hby d7_4) rfl rfl) ?_
  show own_Go p.tables e below _ (T8.setTop (mkF m 5 #[.val (.ref a1), .val (.ref a2), .val (.int p3), .val (.int p4), .val (.int p5), .val (.ref a6), .val (.ref a7)] [(.ref a1)]))
  refine own_go (fun _ => XS.aloadN X8.here hx rfl (hb hby d7_5) rfl rfl) ?_
  show own_Go p.tables e below _ (T8.setTop (mkF m 6 #[.val (.ref a1), .val (.ref a2), .val (.int p3), .val (.int p4), .val (.int p5), .val (.ref a6), .val (.ref a7)] [(.ref a2), (.ref a1)]))
  obtain ⟨T9, h9, X9, e9, W9, st9⟩ := putF X8 hx hZ hown (host := "") (Or.inl (hw _ (List.mem_of_getElem? (i := 50) rfl))) Via.refl e8 F_characters_a1 E_a1 (Or.inr ⟨(hw _ (List.mem_of_getElem? (i := 51) rfl)), rfl, hnm⟩) (hw _ (List.mem_of_getElem? (i := 13) rfl)) (ty := (.object "com/example/barwright/barwright/DataComponent$CharacterSet")) (by decide) rfl rfl (g := (mkF m 6 #[.val (.ref a1), .val (.ref a2), .val (.int p3), .val (.int p4), .val (.int p5), .val (.ref a6), .val (.ref a7)] [(.ref a2), (.ref a1)])) rfl rfl (hb hby d7_6)
  refine own_go st9 ?_
  have Fw9 := F_characters_a1.same W9
  have K9 : Keep h0 h9 [a1] := (Keep.refl h0 [a1]).wr W9 (Or.inl (List.mem_of_getElem? (i := 0) rfl))
  have N9 := Fr.snoc X9 N8 g_a1
  show own_Go p.tables e below _ (T9.setTop (mkF m 9 #[.val (.ref a1), .val (.ref a2), .val (.int p3), .val (.int p4), .val (.int p5), .val (.ref a6), .val (.ref a7)] []))
  refine own_go (fun _ => XS.aloadN X9.here hx rfl (hb hby d7_9) rfl rfl) ?_
  show own_Go p.tables e below _ (T9.setTop (mkF m 10 #[.val (.ref a1), .val (.ref a2), .val (.int p3), .val (.int p4), .val (.int p5), .val (.ref a6), .val (.ref a7)] [(.ref a1)]))
  refine own_go (fun _ => XS.iloadN X9.here hx rfl (hb hby d7_10) rfl) ?_
  show own_Go p.tables e below _ (T9.setTop (mkF m 11 #[.val (.ref a1), .val (.ref a2), .val (.int p3), .val (.int p4), .val (.int p5), .val (.ref a6), .val (.ref a7)] [(.int p3), (.ref a1)]))
  obtain ⟨T10, h10, X10, e10, W10, st10⟩ := putF X9 hx hZ hown (host := "") (Or.inl (hw _ (List.mem_of_getElem? (i := 52) rfl))) Via.refl e9 (F_shortest_a1.other W9 (Or.inr (slot_ne (Or.inr (hw _ (List.mem_of_getElem? (i := 53) rfl))) (Or.inr (hw _ (List.mem_of_getElem? (i := 51) rfl))) (by decide) (t := .int) (t' := (.object "com/example/barwright/barwright/DataComponent$CharacterSet")) (by decide) (by decide)))) (E_a1.wr W9) (Or.inr ⟨(hw _ (List.mem_of_getElem? (i := 53) rfl)), rfl, hnm⟩) (hw _ (List.mem_of_getElem? (i := 13) rfl)) (ty := .int) (by decide) rfl rfl (g := (mkF m 11 #[.val (.ref a1), .val (.ref a2), .val (.int p3), .val (.int p4), .val (.int p5), .val (.ref a6), .val (.ref a7)] [(.int p3), (.ref a1)])) rfl rfl (hb hby d7_11)
  refine own_go st10 ?_
  have Fw10 := (F_shortest_a1.other W9 (Or.inr (slot_ne (Or.inr (hw _ (List.mem_of_getElem? (i := 53) rfl))) (Or.inr (hw _ (List.mem_of_getElem? (i := 51) rfl))) (by decide) (t := .int) (t' := (.object "com/example/barwright/barwright/DataComponent$CharacterSet")) (by decide) (by decide)))).same W10
  have K10 : Keep h0 h10 [a1] := K9.wr W10 (Or.inl (List.mem_of_getElem? (i := 0) rfl))
  have N10 := Fr.snoc X10 N9 g_a1
  show own_Go p.tables e below _ (T10.setTop (mkF m 14 #[.val (.ref a1), .val (.ref a2), .val (.int p3), .val (.int p4), .val (.int p5), .val (.ref a6), .val (.ref a7)] []))
  refine own_go (fun _ => XS.aloadN X10.here hx rfl (hb hby d7_14) rfl rfl) ?_
  show own_Go p.tables e below _ (T10.setTop (mkF m 15 #[.val (.ref a1), .val (.ref a2), .val (.int p3), .val (.int p4), .val (.int p5), .val (.ref a6), .val (.ref a7)] [(.ref a1)]))
  refine own_go (fun _ => XS.iloadN X10.here hx rfl (hb hby d7_15) rfl) ?_
  show own_Go p.tables e below _ (T10.setTop (mkF m 16 #[.val (.ref a1), .val (.ref a2), .val (.int p3), .val (.int p4), .val (.int p5), .val (.ref a6), .val (.ref a7)] [(.int p4), (.ref a1)]))
  obtain ⟨T11, h11, X11, e11, W11, st11⟩ := putF X10 hx hZ hown (host := "") (Or.inl (hw _ (List.mem_of_getElem? (i := 54) rfl))) Via.refl e10 ((F_longest_a1.other W9 (Or.inr (slot_ne (Or.inr (hw _ (List.mem_of_getElem? (i := 55) rfl))) (Or.inr (hw _ (List.mem_of_getElem? (i := 51) rfl))) (by decide) (t := .int) (t' := (.object "com/example/barwright/barwright/DataComponent$CharacterSet")) (by decide) (by decide)))).other W10 (Or.inr (slot_ne (Or.inr (hw _ (List.mem_of_getElem? (i := 55) rfl))) (Or.inr (hw _ (List.mem_of_getElem? (i := 53) rfl))) (by decide) (t := .int) (t' := .int) (by decide) (by decide)))) ((E_a1.wr W9).wr W10) (Or.inr ⟨(hw _ (List.mem_of_getElem? (i := 55) rfl)), rfl, hnm⟩) (hw _ (List.mem_of_getElem? (i := 13) rfl)) (ty := .int) (by decide) rfl rfl (g := (mkF m 16 #[.val (.ref a1), .val (.ref a2), .val (.int p3), .val (.int p4), .val (.int p5), .val (.ref a6), .val (.ref a7)] [(.int p4), (.ref a1)])) rfl rfl (hb hby d7_16)
  refine own_go st11 ?_
  have Fw11 := ((F_longest_a1.other W9 (Or.inr (slot_ne (Or.inr (hw _ (List.mem_of_getElem? (i := 55) rfl))) (Or.inr (hw _ (List.mem_of_getElem? (i := 51) rfl))) (by decide) (t := .int) (t' := (.object "com/example/barwright/barwright/DataComponent$CharacterSet")) (by decide) (by decide)))).other W10 (Or.inr (slot_ne (Or.inr (hw _ (List.mem_of_getElem? (i := 55) rfl))) (Or.inr (hw _ (List.mem_of_getElem? (i := 53) rfl))) (by decide) (t := .int) (t' := .int) (by decide) (by decide)))).same W11
  have K11 : Keep h0 h11 [a1] := K10.wr W11 (Or.inl (List.mem_of_getElem? (i := 0) rfl))
  have N11 := Fr.snoc X11 N10 g_a1
  show own_Go p.tables e below _ (T11.setTop (mkF m 19 #[.val (.ref a1), .val (.ref a2), .val (.int p3), .val (.int p4), .val (.int p5), .val (.ref a6), .val (.ref a7)] []))
  refine own_go (fun _ => XS.aloadN X11.here hx rfl (hb hby d7_19) rfl rfl) ?_
  show own_Go p.tables e below _ (T11.setTop (mkF m 20 #[.val (.ref a1), .val (.ref a2), .val (.int p3), .val (.int p4), .val (.int p5), .val (.ref a6), .val (.ref a7)] [(.ref a1)]))
  refine own_go (fun _ => XS.iload X11.here hx rfl (hb hby d7_20) rfl) ?_
  show own_Go p.tables e below _ (T11.setTop (mkF m 22 #[.val (.ref a1), .val (.ref a2), .val (.int p3), .val (.int p4), .val (.int p5), .val (.ref a6), .val (.ref a7)] [(.int p5), (.ref a1)]))
  obtain ⟨T12, h12, X12, e12, W12, st12⟩ := putFN X11 hx hZ hown (hw _ (List.mem_of_getElem? (i := 56) rfl)) Via.refl e11 (((F_optional_a1.other W9 (Or.inr (slot_ne (Or.inr (hw _ (List.mem_of_getElem? (i := 57) rfl))) (Or.inr (hw _ (List.mem_of_getElem? (i := 51) rfl))) (by decide) (t := .boolean) (t' := (.object "com/example/barwright/barwright/DataComponent$CharacterSet")) (by decide) (by decide)))).other W10 (Or.inr (slot_ne (Or.inr (hw _ (List.mem_of_getElem? (i := 57) rfl))) (Or.inr (hw _ (List.mem_of_getElem? (i := 53) rfl))) (by decide) (t := .boolean) (t' := .int) (by decide) (by decide)))).other W11 (Or.inr (slot_ne (Or.inr (hw _ (List.mem_of_getElem? (i := 57) rfl))) (Or.inr (hw _ (List.mem_of_getElem? (i := 55) rfl))) (by decide) (t := .boolean) (t' := .int) (by decide) (by decide)))) (((E_a1.wr W9).wr W10).wr W11) (Or.inr ⟨(hw _ (List.mem_of_getElem? (i := 57) rfl)), rfl, hnm⟩) (hw _ (List.mem_of_getElem? (i := 13) rfl)) (ty := .boolean) (v' := (.int (nar .boolean p5))) (by decide) rfl (fits_nar_bool _) (g := (mkF m 22 #[.val (.ref a1), .val (.ref a2), .val (.int p3), .val (.int p4), .val (.int p5), .val (.ref a6), .val (.ref a7)] [(.int p5), (.ref a1)])) rfl rfl (hb hby d7_22)
  refine own_go st12 ?_
  have Fw12 := (((F_optional_a1.other W9 (Or.inr (slot_ne (Or.inr (hw _ (List.mem_of_getElem? (i := 57) rfl))) (Or.inr (hw _ (List.mem_of_getElem? (i := 51) rfl))) (by decide) (t := .boolean) (t' := (.object "com/example/barwright/barwright/DataComponent$CharacterSet")) (by decide) (by decide)))).other W10 (Or.inr (slot_ne (Or.inr (hw _ (List.mem_of_getElem? (i := 57) rfl))) (Or.inr (hw _ (List.mem_of_getElem? (i := 53) rfl))) (by decide) (t := .boolean) (t' := .int) (by decide) (by decide)))).other W11 (Or.inr (slot_ne (Or.inr (hw _ (List.mem_of_getElem? (i := 57) rfl))) (Or.inr (hw _ (List.mem_of_getElem? (i := 55) rfl))) (by decide) (t := .boolean) (t' := .int) (by decide) (by decide)))).same W12
  have K12 : Keep h0 h12 [a1] := K11.wr W12 (Or.inl (List.mem_of_getElem? (i := 0) rfl))
  have N12 := Fr.snoc X12 N11 g_a1
  show own_Go p.tables e below _ (T12.setTop (mkF m 25 #[.val (.ref a1), .val (.ref a2), .val (.int p3), .val (.int p4), .val (.int p5), .val (.ref a6), .val (.ref a7)] []))
  refine own_go (fun _ => XS.aloadN X12.here hx rfl (hb hby d7_25) rfl rfl) ?_
  show own_Go p.tables e below _ (T12.setTop (mkF m 26 #[.val (.ref a1), .val (.ref a2), .val (.int p3), .val (.int p4), .val (.int p5), .val (.ref a6), .val (.ref a7)] [(.ref a1)]))
  refine own_go (fun _ => XS.aload X12.here hx rfl (hb hby d7_26) rfl rfl) ?_
  show own_Go p.tables e below _ (T12.setTop (mkF m 28 #[.val (.ref a1), .val (.ref a2), .val (.int p3), .val (.int p4), .val (.int p5), .val (.ref a6), .val (.ref a7)] [(.ref a6), (.ref a1)]))
  obtain ⟨T13, h13, X13, e13, W13, st13⟩ := putF X12 hx hZ hown (host := "") (Or.inl (hw _ (List.mem_of_getElem? (i := 58) rfl))) Via.refl e12 ((((F_linters_a1.other W9 (Or.inr (slot_ne (Or.inr (hw _ (List.mem_of_getElem? (i := 59) rfl))) (Or.inr (hw _ (List.mem_of_getElem? (i := 51) rfl))) (by decide) (t := (.object "java/util/List")) (t' := (.object "com/example/barwright/barwright/DataComponent$CharacterSet")) (by decide) (by decide)))).other W10 (Or.inr (slot_ne (Or.inr (hw _ (List.mem_of_getElem? (i := 59) rfl))) (Or.inr (hw _ (List.mem_of_getElem? (i := 53) rfl))) (by decide) (t := (.object "java/util/List")) (t' := .int) (by decide) (by decide)))).other W11 (Or.inr (slot_ne (Or.inr (hw _ (List.mem_of_getElem? (i := 59) rfl))) (Or.inr (hw _ (List.mem_of_getElem? (i := 55) rfl))) (by decide) (t := (.object "java/util/List")) (t' := .int) (by decide) (by decide)))).other W12 (Or.inr (slot_ne (Or.inr (hw _ (List.mem_of_getElem? (i := 59) rfl))) (Or.inr (hw _ (List.mem_of_getElem? (i := 57) rfl))) (by decide) (t := (.object "java/util/List")) (t' := .boolean) (by decide) (by decide)))) ((((E_a1.wr W9).wr W10).wr W11).wr W12) (Or.inr ⟨(hw _ (List.mem_of_getElem? (i := 59) rfl)), rfl, hnm⟩) (hw _ (List.mem_of_getElem? (i := 13) rfl)) (ty := (.object "java/util/List")) (by decide) rfl rfl (g := (mkF m 28 #[.val (.ref a1), .val (.ref a2), .val (.int p3), .val (.int p4), .val (.int p5), .val (.ref a6), .val (.ref a7)] [(.ref a6), (.ref a1)])) rfl rfl (hb hby d7_28)
  refine own_go st13 ?_
  have Fw13 := ((((F_linters_a1.other W9 (Or.inr (slot_ne (Or.inr (hw _ (List.mem_of_getElem? (i := 59) rfl))) (Or.inr (hw _ (List.mem_of_getElem? (i := 51) rfl))) (by decide) (t := (.object "java/util/List")) (t' := (.object "com/example/barwright/barwright/DataComponent$CharacterSet")) (by decide) (by decide)))).other W10 (Or.inr (slot_ne (Or.inr (hw _ (List.mem_of_getElem? (i := 59) rfl))) (Or.inr (hw _ (List.mem_of_getElem? (i := 53) rfl))) (by decide) (t := (.object "java/util/List")) (t' := .int) (by decide) (by decide)))).other W11 (Or.inr (slot_ne (Or.inr (hw _ (List.mem_of_getElem? (i := 59) rfl))) (Or.inr (hw _ (List.mem_of_getElem? (i := 55) rfl))) (by decide) (t := (.object "java/util/List")) (t' := .int) (by decide) (by decide)))).other W12 (Or.inr (slot_ne (Or.inr (hw _ (List.mem_of_getElem? (i := 59) rfl))) (Or.inr (hw _ (List.mem_of_getElem? (i := 57) rfl))) (by decide) (t := (.object "java/util/List")) (t' := .boolean) (by decide) (by decide)))).same W13
  have K13 : Keep h0 h13 [a1] := K12.wr W13 (Or.inl (List.mem_of_getElem? (i := 0) rfl))
  have N13 := Fr.snoc X13 N12 g_a1
  show own_Go p.tables e below _ (T13.setTop (mkF m 31 #[.val (.ref a1), .val (.ref a2), .val (.int p3), .val (.int p4), .val (.int p5), .val (.ref a6), .val (.ref a7)] []))
  refine own_go (fun _ => XS.aloadN X13.here hx rfl (hb hby d7_31) rfl rfl) ?_
  show own_Go p.tables e below _ (T13.setTop (mkF m 32 #[.val (.ref a1), .val (.ref a2), .val (.int p3), .val (.int p4), .val (.int p5), .val (.ref a6), .val (.ref a7)] [(.ref a1)]))
  refine own_go (fun _ => XS.aload X13.here hx rfl (hb hby d7_32) rfl rfl) ?_
  show own_Go p.tables e below _ (T13.setTop (mkF m 34 #[.val (.ref a1), .val (.ref a2), .val (.int p3), .val (.int p4), .val (.int p5), .val (.ref a6), .val (.ref a7)] [(.ref a7), (.ref a1)]))
  obtain ⟨T14, h14, X14, e14, W14, st14⟩ := putF X13 hx hZ hown (host := "") (Or.inl (hw _ (List.mem_of_getElem? (i := 60) rfl))) Via.refl e13 (((((F_checked_a1.other W9 (Or.inr (slot_ne (Or.inr (hw _ (List.mem_of_getElem? (i := 61) rfl))) (Or.inr (hw _ (List.mem_of_getElem? (i := 51) rfl))) (by decide) (t := (.object "java/util/List")) (t' := (.object "com/example/barwright/barwright/DataComponent$CharacterSet")) (by decide) (by decide)))).other W10 (Or.inr (slot_ne (Or.inr (hw _ (List.mem_of_getElem? (i := 61) rfl))) (Or.inr (hw _ (List.mem_of_getElem? (i := 53) rfl))) (by decide) (t := (.object "java/util/List")) (t' := .int) (by decide) (by decide)))).other W11 (Or.inr (slot_ne (Or.inr (hw _ (List.mem_of_getElem? (i := 61) rfl))) (Or.inr (hw _ (List.mem_of_getElem? (i := 55) rfl))) (by decide) (t := (.object "java/util/List")) (t' := .int) (by decide) (by decide)))).other W12 (Or.inr (slot_ne (Or.inr (hw _ (List.mem_of_getElem? (i := 61) rfl))) (Or.inr (hw _ (List.mem_of_getElem? (i := 57) rfl))) (by decide) (t := (.object "java/util/List")) (t' := .boolean) (by decide) (by decide)))).other W13 (Or.inr (slot_ne (Or.inr (hw _ (List.mem_of_getElem? (i := 61) rfl))) (Or.inr (hw _ (List.mem_of_getElem? (i := 59) rfl))) (by decide) (t := (.object "java/util/List")) (t' := (.object "java/util/List")) (by decide) (by decide)))) (((((E_a1.wr W9).wr W10).wr W11).wr W12).wr W13) (Or.inr ⟨(hw _ (List.mem_of_getElem? (i := 61) rfl)), rfl, hnm⟩) (hw _ (List.mem_of_getElem? (i := 13) rfl)) (ty := (.object "java/util/List")) (by decide) rfl rfl (g := (mkF m 34 #[.val (.ref a1), .val (.ref a2), .val (.int p3), .val (.int p4), .val (.int p5), .val (.ref a6), .val (.ref a7)] [(.ref a7), (.ref a1)])) rfl rfl (hb hby d7_34)
  refine own_go st14 ?_
  have Fw14 := (((((F_checked_a1.other W9 (Or.inr (slot_ne (Or.inr (hw _ (List.mem_of_getElem? (i := 61) rfl))) (Or.inr (hw _ (List.mem_of_getElem? (i := 51) rfl))) (by decide) (t := (.object "java/util/List")) (t' := (.object "com/example/barwright/barwright/DataComponent$CharacterSet")) (by decide) (by decide)))).other W10 (Or.inr (slot_ne (Or.inr (hw _ (List.mem_of_getElem? (i := 61) rfl))) (Or.inr (hw _ (List.mem_of_getElem? (i := 53) rfl))) (by decide) (t := (.object "java/util/List")) (t' := .int) (by decide) (by decide)))).other W11 (Or.inr (slot_ne (Or.inr (hw _ (List.mem_of_getElem? (i := 61) rfl))) (Or.inr (hw _ (List.mem_of_getElem? (i := 55) rfl))) (by decide) (t := (.object "java/util/List")) (t' := .int) (by decide) (by decide)))).other W12 (Or.inr (slot_ne (Or.inr (hw _ (List.mem_of_getElem? (i := 61) rfl))) (Or.inr (hw _ (List.mem_of_getElem? (i := 57) rfl))) (by decide) (t := (.object "java/util/List")) (t' := .boolean) (by decide) (by decide)))).other W13 (Or.inr (slot_ne (Or.inr (hw _ (List.mem_of_getElem? (i := 61) rfl))) (Or.inr (hw _ (List.mem_of_getElem? (i := 59) rfl))) (by decide) (t := (.object "java/util/List")) (t' := (.object "java/util/List")) (by decide) (by decide)))).same W14
  have K14 : Keep h0 h14 [a1] := K13.wr W14 (Or.inl (List.mem_of_getElem? (i := 0) rfl))
  have N14 := Fr.snoc X14 N13 g_a1
  show own_Go p.tables e below _ (T14.setTop (mkF m 37 #[.val (.ref a1), .val (.ref a2), .val (.int p3), .val (.int p4), .val (.int p5), .val (.ref a6), .val (.ref a7)] []))
  refine own_ret0 X14 Bd.notSynchronized hx Bd.returns (hb hby d7_37) (show Q7 Z a1 a2 p3 p4 p5 a6 a7 u_characters_a1 u_shortest_a1 u_longest_a1 u_optional_a1 u_linters_a1 u_checked_a1 h0 n0 _ T14.heap _ from by rw [e14]; exact ⟨rfl, N14, K14, ((((((E_a1.wr W9).wr W10).wr W11).wr W12).wr W13).wr W14), (((((Fw9.other W10 (Or.inr (slot_ne (Or.inr (hw _ (List.mem_of_getElem? (i := 51) rfl))) (Or.inr (hw _ (List.mem_of_getElem? (i := 53) rfl))) (by decide) (t := (.object "com/example/barwright/barwright/DataComponent$CharacterSet")) (t' := .int) (by decide) (by decide)))).other W11 (Or.inr (slot_ne (Or.inr (hw _ (List.mem_of_getElem? (i := 51) rfl))) (Or.inr (hw _ (List.mem_of_getElem? (i := 55) rfl))) (by decide) (t := (.object "com/example/barwright/barwright/DataComponent$CharacterSet")) (t' := .int) (by decide) (by decide)))).other W12 (Or.inr (slot_ne (Or.inr (hw _ (List.mem_of_getElem? (i := 51) rfl))) (Or.inr (hw _ (List.mem_of_getElem? (i := 57) rfl))) (by decide) (t := (.object "com/example/barwright/barwright/DataComponent$CharacterSet")) (t' := .boolean) (by decide) (by decide)))).other W13 (Or.inr (slot_ne (Or.inr (hw _ (List.mem_of_getElem? (i := 51) rfl))) (Or.inr (hw _ (List.mem_of_getElem? (i := 59) rfl))) (by decide) (t := (.object "com/example/barwright/barwright/DataComponent$CharacterSet")) (t' := (.object "java/util/List")) (by decide) (by decide)))).other W14 (Or.inr (slot_ne (Or.inr (hw _ (List.mem_of_getElem? (i := 51) rfl))) (Or.inr (hw _ (List.mem_of_getElem? (i := 61) rfl))) (by decide) (t := (.object "com/example/barwright/barwright/DataComponent$CharacterSet")) (t' := (.object "java/util/List")) (by decide) (by decide)))), ((((Fw10.other W11 (Or.inr (slot_ne (Or.inr (hw _ (List.mem_of_getElem? (i := 53) rfl))) (Or.inr (hw _ (List.mem_of_getElem? (i := 55) rfl))) (by decide) (t := .int) (t' := .int) (by decide) (by decide)))).other W12 (Or.inr (slot_ne (Or.inr (hw _ (List.mem_of_getElem? (i := 53) rfl))) (Or.inr (hw _ (List.mem_of_getElem? (i := 57) rfl))) (by decide) (t := .int) (t' := .boolean) (by decide) (by decide)))).other W13 (Or.inr (slot_ne (Or.inr (hw _ (List.mem_of_getElem? (i := 53) rfl))) (Or.inr (hw _ (List.mem_of_getElem? (i := 59) rfl))) (by decide) (t := .int) (t' := (.object "java/util/List")) (by decide) (by decide)))).other W14 (Or.inr (slot_ne (Or.inr (hw _ (List.mem_of_getElem? (i := 53) rfl))) (Or.inr (hw _ (List.mem_of_getElem? (i := 61) rfl))) (by decide) (t := .int) (t' := (.object "java/util/List")) (by decide) (by decide)))), (((Fw11.other W12 (Or.inr (slot_ne (Or.inr (hw _ (List.mem_of_getElem? (i := 55) rfl))) (Or.inr (hw _ (List.mem_of_getElem? (i := 57) rfl))) (by decide) (t := .int) (t' := .boolean) (by decide) (by decide)))).other W13 (Or.inr (slot_ne (Or.inr (hw _ (List.mem_of_getElem? (i := 55) rfl))) (Or.inr (hw _ (List.mem_of_getElem? (i := 59) rfl))) (by decide) (t := .int) (t' := (.object "java/util/List")) (by decide) (by decide)))).other W14 (Or.inr (slot_ne (Or.inr (hw _ (List.mem_of_getElem? (i := 55) rfl))) (Or.inr (hw _ (List.mem_of_getElem? (i := 61) rfl))) (by decide) (t := .int) (t' := (.object "java/util/List")) (by decide) (by decide)))), ((Fw12.other W13 (Or.inr (slot_ne (Or.inr (hw _ (List.mem_of_getElem? (i := 57) rfl))) (Or.inr (hw _ (List.mem_of_getElem? (i := 59) rfl))) (by decide) (t := .boolean) (t' := (.object "java/util/List")) (by decide) (by decide)))).other W14 (Or.inr (slot_ne (Or.inr (hw _ (List.mem_of_getElem? (i := 57) rfl))) (Or.inr (hw _ (List.mem_of_getElem? (i := 61) rfl))) (by decide) (t := .boolean) (t' := (.object "java/util/List")) (by decide) (by decide)))), (Fw13.other W14 (Or.inr (slot_ne (Or.inr (hw _ (List.mem_of_getElem? (i := 59) rfl))) (Or.inr (hw _ (List.mem_of_getElem? (i := 61) rfl))) (by decide) (t := (.object "java/util/List")) (t' := (.object "java/util/List")) (by decide) (by decide)))), Fw14⟩) (by decide) (by decide)
theorem d9_0 : decode prog_10_method_3_code 0 = .ok (.aload_n 0, 1) := by decide +kernel
theorem d9_1 : decode prog_10_method_3_code 1 = .ok (.getfield 13, 3) := by decide +kernel
theorem d9_4 : decode prog_10_method_3_code 4 = .ok (.aload_n 0, 1) := by decide +kernel
theorem d9_5 : decode prog_10_method_3_code 5 = .ok (.getfield 17, 3) := by decide +kernel
theorem d9_8 : decode prog_10_method_3_code 8 = .ok (.if_icmp .eq 7, 3) := by decide +kernel
theorem d9_11 : decode prog_10_method_3_code 11 = .ok (.iconst 1, 1) := by decide +kernel
theorem d9_12 : decode prog_10_method_3_code 12 = .ok (.goto 4, 3) := by decide +kernel
theorem d9_15 : decode prog_10_method_3_code 15 = .ok (.iconst 0, 1) := by decide +kernel
theorem d9_16 : decode prog_10_method_3_code 16 = .ok (.ireturn, 1) := by decide +kernel
theorem pn_9 : plainName "com/example/barwright/barwright/DataComponent" = true := by first | (simp [plainName, overriddenIn]; done) | decide +kernel
theorem ef_9 (m : MethodId) (a1 : Addr) : entryFrame m #[(.ref a1)] 1 = mkF m 0 #[.val (.ref a1)] [] := by first | (simp [entryFrame, mkF, argsToLocals, Value.category]; done) | rfl
def own_f9 (w2 : Int32) (w4 : Int32) : Int32 :=
  if w2 = w4 then (0 : Int32)
  else (1 : Int32)
def Q9 (Z : State) (a1 : Addr) (w2 : Int32) (w4 : Int32) (h0 : Heap) (n0 : Nat) (v : Option Value) (h : Heap) (L : List Loc) : Prop := v = some (.int (own_f9 w2 w4)) ∧ Fr n0 L ∧ h = h0
set_option maxRecDepth 65536 in
set_option maxHeartbeats 40000000 in
theorem rm9 (l : Launch) (Z : State) (a0 : Array Value) (hw : ∀ d ∈ tables_1, d.before a0 Z = true) (ws : List Jvm.Cond) (a1 : Addr) (w2 : Int32) (w4 : Int32) (h0 : Heap) (n0 : Nat) (Z0 : n0 ≤ h0.size) (F_shortest_a1 : Fld Z h0 a1 "com/example/barwright/barwright/DataComponent" "shortest" "I" (.int w2)) (F_longest_a1 : Fld Z h0 a1 "com/example/barwright/barwright/DataComponent" "longest" "I" (.int w4)) :
    MetFree l (⟨"com/example/barwright/barwright/DataComponent", "varies", "()Z"⟩ : MethodName) (head1 (Jvm.Cond.code (⟨"com/example/barwright/barwright/DataComponent", "varies", "()Z"⟩ : MethodName) prog_10_method_3_code 1 (some .boolean) :: ws) ({ frames := 0, cells := 0, slots := 0, locals := 0 } : Room)) (fun a U => a = #[(.ref a1)] ∧ Z.Warmed39 U.vm ∧ U.heap = h0) (fun _ _ _ _ _ => True) (fun _ U o U' => ∃ v L, o = .returned v ∧ Q9 Z a1 w2 w4 h0 n0 v U'.heap L ∧ FrameEnd U o U' L ({ frames := 0, cells := 0, slots := 0, locals := 0 } : Room).cells ({ frames := 0, cells := 0, slots := 0, locals := 0 } : Room).slots) := by
  refine MetFree.of_bodySF (plainFor_of_name pn_9) hisR ?_
  intro p e s m args below meth c s₁ Bd hml0 hP hK
  obtain ⟨rfl, hZ, hh⟩ := hP
  have hx := Bd.exec
  have hby := Bd.bytes
  have hml : c.maxLocals = 1 := hml0
  have hown : s.vm.findClass "com/example/barwright/barwright/DataComponent" = some m.cls := findClass_of_methodNamed Bd.named
  have hnm := (name_of_methodNamed Bd.named Bd.method).1
  have X0 : Stand p l e ({ frames := 0, cells := 0, slots := 0, locals := 0 } : Room) s m #[(.ref a1)] below meth c s₁ [] 0 0 := Stand.of_body Bd
  have e0 : s₁.heap = h0 := by rw [← hh, Bd.state]; rfl
  have N0 := Fr.nil n0
  show own_Go p.tables e below (own_Fin below s (Q9 Z a1 w2 w4 h0 n0) ({ frames := 0, cells := 0, slots := 0, locals := 0 } : Room).cells ({ frames := 0, cells := 0, slots := 0, locals := 0 } : Room).slots) (s₁.setTop (entryFrame m #[(.ref a1)] 1))
  refine own_go (S' := s₁.setTop (mkF m 0 #[.val (.ref a1)] [])) (fun t k => castTop (ef_9 m a1) k) ?_
  show own_Go p.tables e below _ (s₁.setTop (mkF m 0 #[.val (.ref a1)] []))
  refine own_go (fun _ => XS.aloadN X0.here hx rfl (hb hby d9_0) rfl rfl) ?_
  show own_Go p.tables e below _ (s₁.setTop (mkF m 1 #[.val (.ref a1)] [(.ref a1)]))
  obtain ⟨T3, X3, e3, st3⟩ := getF X0 hx hZ hown (host := "") (Or.inl (hw _ (List.mem_of_getElem? (i := 52) rfl))) Via.refl e0 F_shortest_a1 (g := (mkF m 1 #[.val (.ref a1)] [(.ref a1)])) rfl rfl (hb hby d9_1)
  refine own_go st3 ?_
  show own_Go p.tables e below _ (T3.setTop (mkF m 4 #[.val (.ref a1)] [(.int w2)]))
  refine own_go (fun _ => XS.aloadN X3.here hx rfl (hb hby d9_4) rfl rfl) ?_
  show own_Go p.tables e below _ (T3.setTop (mkF m 5 #[.val (.ref a1)] [(.ref a1), (.int w2)]))
  obtain ⟨T5, X5, e5, st5⟩ := getF X3 hx hZ hown (host := "") (Or.inl (hw _ (List.mem_of_getElem? (i := 54) rfl))) Via.refl e3 F_longest_a1 (g := (mkF m 5 #[.val (.ref a1)] [(.ref a1), (.int w2)])) rfl rfl (hb hby d9_5)
  refine own_go st5 ?_
  show own_Go p.tables e below _ (T5.setTop (mkF m 8 #[.val (.ref a1)] [(.int w4), (.int w2)]))
  by_cases hc6_8 : w2 = w4
  · skip
    refine own_go (fun _ => XS.icmpYes X5.here hx rfl (pc0 := 8) (pc' := 15) rfl (hb hby d9_8) rfl (teq hc6_8).1 (by decide) (by decide)) ?_
    show own_Go p.tables e below _ (T5.setTop (mkF m 15 #[.val (.ref a1)] []))
    refine own_go (fun _ => XS.iconst X5.here hx rfl (hb hby d9_15)) ?_
    show own_Go p.tables e below _ (T5.setTop (mkF m 16 #[.val (.ref a1)] [(.int (0 : Int32))]))
    refine own_retN X5 Bd.notSynchronized hx (t := .boolean) Bd.returns (by simp) (hb hby d9_16) (show Q9 Z a1 w2 w4 h0 n0 _ T5.heap _ from by rw [e5]; exact ⟨(own_val ((if_pos hc6_8).trans rfl)), N0, rfl⟩) (by decide) (by decide)
  · skip
    refine own_go (fun _ => XS.icmpNo X5.here hx rfl (hb hby d9_8) rfl (feq hc6_8).1) ?_
    show own_Go p.tables e below _ (T5.setTop (mkF m 11 #[.val (.ref a1)] []))
    refine own_go (fun _ => XS.iconst X5.here hx rfl (hb hby d9_11)) ?_
    show own_Go p.tables e below _ (T5.setTop (mkF m 12 #[.val (.ref a1)] [(.int (1 : Int32))]))
    refine own_go (fun _ => XS.goto X5.here hx rfl (pc0 := 12) (pc' := 16) rfl (hb hby d9_12) (by decide) (by decide)) ?_
    show own_Go p.tables e below _ (T5.setTop (mkF m 16 #[.val (.ref a1)] [(.int (1 : Int32))]))
    refine own_retN X5 Bd.notSynchronized hx (t := .boolean) Bd.returns (by simp) (hb hby d9_16) (show Q9 Z a1 w2 w4 h0 n0 _ T5.heap _ from by rw [e5]; exact ⟨(own_val ((if_neg hc6_8).trans rfl)), N0, rfl⟩) (by decide) (by decide)
theorem pn_0 : plainName "com/example/barwright/barwright/DataComponentVariesPinLaw" = true := by first | (simp [plainName, overriddenIn]; done) | decide +kernel
theorem pd_0 : parseMethodDescriptor "(I)Lcom/example/barwright/barwright/DataComponent$CharacterSet;" = some ⟨[.int], some (.object "com/example/barwright/barwright/DataComponent$CharacterSet")⟩ := by decide +kernel
theorem pd_1 : parseMethodDescriptor "(II)I" = some ⟨[.int, .int], some .int⟩ := by decide +kernel
theorem pd_3 : parseMethodDescriptor "(Lcom/example/barwright/barwright/DataComponent$CharacterSet;IIZLjava/util/List;Ljava/util/List;)V" = some ⟨[(.object "com/example/barwright/barwright/DataComponent$CharacterSet"), .int, .int, .boolean, (.object "java/util/List"), (.object "java/util/List")], none⟩ := by decide +kernel
theorem pd_4 : parseMethodDescriptor "()Z" = some ⟨[], some .boolean⟩ := by decide +kernel
theorem ef_0 (m : MethodId) (p1 : Int32) (p2 : Int32) (p3 : Int32) (p4 : Int32) : entryFrame m #[(.int p1), (.int p2), (.int p3), (.int p4)] maxLocals = mkF m 0 #[.val (.int p1), .val (.int p2), .val (.int p3), .val (.int p4), .unset, .unset, .unset, .unset, .unset, .unset, .unset] [] := by first | (simp [entryFrame, mkF, argsToLocals, Value.category, maxLocals]; done) | rfl
def own_v0_9 (p3 : Int32) : Int32 := (if (p3 &&& (2 : Int32)) = (0 : Int32) then (0 : Int32) else (1 : Int32))
def own_v0_22 (p3 : Int32) : Int32 := (if (p3 &&& (4 : Int32)) = (0 : Int32) then (0 : Int32) else (1 : Int32))
def own_v0_50_L7 (p1 : Int32) (p3 : Int32) : Int32 := (if (own_v0_22 p3) = (0 : Int32) then (if (1 : Int32) < (own_f2 (1 : Int32) (p1 &&& (2147483647 : Int32))) then (1 : Int32) else (1 : Int32)) else (own_f2 (1 : Int32) (p1 &&& (2147483647 : Int32))))
def own_v0_50_L9 (p1 : Int32) (p3 : Int32) : Int32 := (if (own_v0_22 p3) = (0 : Int32) then (if (1 : Int32) < (own_f2 (1 : Int32) (p1 &&& (2147483647 : Int32))) then (1 : Int32) else (0 : Int32)) else (0 : Int32))
def own_v0_87 (p1 : Int32) (p2 : Int32) (p3 : Int32) : Int32 := (if (own_v0_22 p3) = (0 : Int32) then p2 else p1)
def own_v0_101 (p1 : Int32) (p2 : Int32) (p3 : Int32) : Int32 := (if p1 < (own_v0_87 p1 p2 p3) then (1 : Int32) else (if (own_v0_87 p1 p2 p3) < p1 then (1 : Int32) else (0 : Int32)))
def own_f0 (p1 : Int32) (p2 : Int32) (p3 : Int32) : Int32 :=
  if (p3 &&& (1 : Int32)) = (0 : Int32) then (if (own_f9 (own_v0_50_L7 p1 p3) (own_f2 (1 : Int32) (p1 &&& (2147483647 : Int32)))) = (own_v0_50_L9 p1 p3) then (1 : Int32)
    else (0 : Int32))
  else if (own_f9 p1 (own_v0_87 p1 p2 p3)) = (own_v0_101 p1 p2 p3) then (1 : Int32)
  else (0 : Int32)
def Q0 (Z : State) (p1 : Int32) (p2 : Int32) (p3 : Int32) (p4 : Int32) (s_DataComponent_CharacterSet_N : Addr) (s_DataComponent_CharacterSet_X : Addr) (s_DataComponent_CharacterSet_Y : Addr) (s_DataComponent_CharacterSet_Z : Addr) (s_ArrayList_DEFAULTCAPACITY_EMPTY_ELEMENTDATA : Addr) (h0 : Heap) (n0 : Nat) (v : Option Value) (h : Heap) (L : List Loc) : Prop := v = some (.int (own_f0 p1 p2 p3)) ∧ Fr n0 L
set_option maxRecDepth 65536 in
set_option maxHeartbeats 40000000 in
theorem rm0 (l : Launch) (Z : State) (a0 : Array Value) (hw : ∀ d ∈ tables_1, d.before a0 Z = true) (ws : List Jvm.Cond) (p1 : Int32) (p2 : Int32) (p3 : Int32) (p4 : Int32) (s_DataComponent_CharacterSet_N : Addr) (s_DataComponent_CharacterSet_X : Addr) (s_DataComponent_CharacterSet_Y : Addr) (s_DataComponent_CharacterSet_Z : Addr) (s_ArrayList_DEFAULTCAPACITY_EMPTY_ELEMENTDATA : Addr) (h0 : Heap) (n0 : Nat) (Z0 : n0 ≤ h0.size) (S_DataComponent_CharacterSet_N : Sta Z Z.heap "com/example/barwright/barwright/DataComponent$CharacterSet" "N" "Lcom/example/barwright/barwright/DataComponent$CharacterSet;" (.ref s_DataComponent_CharacterSet_N)) (S_DataComponent_CharacterSet_X : Sta Z Z.heap "com/example/barwright/barwright/DataComponent$CharacterSet" "X" "Lcom/example/barwright/barwright/DataComponent$CharacterSet;" (.ref s_DataComponent_CharacterSet_X)) (S_DataComponent_CharacterSet_Y : Sta Z Z.heap "com/example/barwright/barwright/DataComponent$CharacterSet" "Y" "Lcom/example/barwright/barwright/DataComponent$CharacterSet;" (.ref s_DataComponent_CharacterSet_Y)) (S_DataComponent_CharacterSet_Z : Sta Z Z.heap "com/example/barwright/barwright/DataComponent$CharacterSet" "Z" "Lcom/example/barwright/barwright/DataComponent$CharacterSet;" (.ref s_DataComponent_CharacterSet_Z)) (S_ArrayList_DEFAULTCAPACITY_EMPTY_ELEMENTDATA : Sta Z Z.heap "java/util/ArrayList" "DEFAULTCAPACITY_EMPTY_ELEMENTDATA" "[Ljava/lang/Object;" (.ref s_ArrayList_DEFAULTCAPACITY_EMPTY_ELEMENTDATA)) (O0 : Old Z n0 h0) :
    MetFree l x (head1 (Jvm.Cond.code x code maxLocals ret :: ws) room_1) (fun a U => a = #[(.int p1), (.int p2), (.int p3), (.int p4)] ∧ Z.Warmed39 U.vm ∧ U.heap = h0) (fun _ _ _ _ _ => True) (fun _ U o U' => ∃ v L, o = .returned v ∧ Q0 Z p1 p2 p3 p4 s_DataComponent_CharacterSet_N s_DataComponent_CharacterSet_X s_DataComponent_CharacterSet_Y s_DataComponent_CharacterSet_Z s_ArrayList_DEFAULTCAPACITY_EMPTY_ELEMENTDATA h0 n0 v U'.heap L ∧ FrameEnd U o U' L 16 128) := by
  refine MetFree.of_bodySF (plainFor_of_name pn_0) hisR ?_
  intro p e s m args below meth c s₁ Bd hml0 hP hK
  obtain ⟨rfl, hZ, hh⟩ := hP
  have hx := Bd.exec
  have hby := Bd.bytes
  have hml : c.maxLocals = 11 := hml0
  have hown : s.vm.findClass "com/example/barwright/barwright/DataComponentVariesPinLaw" = some m.cls := findClass_of_methodNamed Bd.named
  have hnm := (name_of_methodNamed Bd.named Bd.method).1
  have X0 : Stand p l e room_1 s m #[(.int p1), (.int p2), (.int p3), (.int p4)] below meth c s₁ [] 0 0 := Stand.of_body Bd
  have e0 : s₁.heap = h0 := by rw [← hh, Bd.state]; rfl
  have N0 := Fr.nil n0
  show own_Go p.tables e below (own_Fin below s (Q0 Z p1 p2 p3 p4 s_DataComponent_CharacterSet_N s_DataComponent_CharacterSet_X s_DataComponent_CharacterSet_Y s_DataComponent_CharacterSet_Z s_ArrayList_DEFAULTCAPACITY_EMPTY_ELEMENTDATA h0 n0) 16 128) (s₁.setTop (entryFrame m #[(.int p1), (.int p2), (.int p3), (.int p4)] maxLocals))
  refine own_go (S' := s₁.setTop (mkF m 0 #[.val (.int p1), .val (.int p2), .val (.int p3), .val (.int p4), .unset, .unset, .unset, .unset, .unset, .unset, .unset] [])) (fun t k => castTop (ef_0 m p1 p2 p3 p4) k) ?_
  show own_Go p.tables e below _ (s₁.setTop (mkF m 0 #[.val (.int p1), .val (.int p2), .val (.int p3), .val (.int p4), .unset, .unset, .unset, .unset, .unset, .unset, .unset] []))
  refine own_go (fun _ => XS.iloadN X0.here hx rfl (hb hby at_0) rfl) ?_
  show own_Go p.tables e below _ (s₁.setTop (mkF m 1 #[.val (.int p1), .val (.int p2), .val (.int p3), .val (.int p4), .unset, .unset, .unset, .unset, .unset, .unset, .unset] [(.int p4)]))
  obtain ⟨_, _, ⟨T5, L5, k5, n5⟩, -, X5, ⟨Lc5, hQ5, l5, y5, z5⟩, st5⟩ := Jvm.LawKit.callS X0 hx (y := (⟨"com/example/barwright/barwright/DataComponentVariesPinLaw", "pick", "(I)Lcom/example/barwright/barwright/DataComponent$CharacterSet;"⟩ : MethodName)) hown (mvT hZ (hw _ (List.mem_of_getElem? (i := 0) rfl))) (mvT hZ (hw _ (List.mem_of_getElem? (i := 1) rfl))) (mvT hZ (hw _ (List.mem_of_getElem? (i := 2) rfl))) (mvT hZ (hw _ (List.mem_of_getElem? (i := 3) rfl))) (by decide) (backOf (W := 0) (rm1 l Z a0 hw [] p4 s_DataComponent_CharacterSet_N s_DataComponent_CharacterSet_X s_DataComponent_CharacterSet_Y s_DataComponent_CharacterSet_Z h0 n0 Z0 S_DataComponent_CharacterSet_N S_DataComponent_CharacterSet_X S_DataComponent_CharacterSet_Y S_DataComponent_CharacterSet_Z O0) hZ (hw _ (List.mem_of_getElem? (i := 3) rfl)) (hw _ (List.mem_of_getElem? (i := 2) rfl)) (by decide) (by decide)) (g := (mkF m 1 #[.val (.int p1), .val (.int p2), .val (.int p3), .val (.int p4), .unset, .unset, .unset, .unset, .unset, .unset, .unset] [(.int p4)])) rfl (by rw [hml]; rfl) (argsL := [(.int p4)]) (rest := []) (lenOf pd_0 rfl) rfl (by show 2 * 0 + _ ≤ _; exact Nat.le_of_eq rfl) (hb hby at_1) (fun _ _ => ⟨rfl, e0, (by decide : 0 + 0 ≤ _), (by decide : 0 + 0 ≤ _)⟩)
  dsimp only [Pt.U, Pt.locs, Pt.cells, Pt.slots] at X5 l5 y5 z5 st5 hQ5
  subst l5 y5 z5
  obtain ⟨rfl, N5q, e5⟩ := hQ5
  have N5 := Fr.app N0 N5q
  refine own_go st5 ?_
  show own_Go p.tables e below _ (T5.setTop (mkF m 4 #[.val (.int p1), .val (.int p2), .val (.int p3), .val (.int p4), .unset, .unset, .unset, .unset, .unset, .unset, .unset] [(.ref (own_f1 p4 s_DataComponent_CharacterSet_N s_DataComponent_CharacterSet_X s_DataComponent_CharacterSet_Y s_DataComponent_CharacterSet_Z))]))
  refine own_go (fun _ => XS.astore X5.here hx rfl (hb hby at_4) rfl rfl (l' := #[.val (.int p1), .val (.int p2), .val (.int p3), .val (.int p4), .val (.ref (own_f1 p4 s_DataComponent_CharacterSet_N s_DataComponent_CharacterSet_X s_DataComponent_CharacterSet_Y s_DataComponent_CharacterSet_Z)), .unset, .unset, .unset, .unset, .unset, .unset]) rfl) ?_
  show own_Go p.tables e below _ (T5.setTop (mkF m 6 #[.val (.int p1), .val (.int p2), .val (.int p3), .val (.int p4), .val (.ref (own_f1 p4 s_DataComponent_CharacterSet_N s_DataComponent_CharacterSet_X s_DataComponent_CharacterSet_Y s_DataComponent_CharacterSet_Z)), .unset, .unset, .unset, .unset, .unset, .unset] []))
  refine own_go (fun _ => XS.iloadN X5.here hx rfl (hb hby at_6) rfl) ?_
  show own_Go p.tables e below _ (T5.setTop (mkF m 7 #[.val (.int p1), .val (.int p2), .val (.int p3), .val (.int p4), .val (.ref (own_f1 p4 s_DataComponent_CharacterSet_N s_DataComponent_CharacterSet_X s_DataComponent_CharacterSet_Y s_DataComponent_CharacterSet_Z)), .unset, .unset, .unset, .unset, .unset, .unset] [(.int p3)]))
  refine own_go (fun _ => XS.iconst X5.here hx rfl (hb hby at_7)) ?_
  show own_Go p.tables e below _ (T5.setTop (mkF m 8 #[.val (.int p1), .val (.int p2), .val (.int p3), .val (.int p4), .val (.ref (own_f1 p4 s_DataComponent_CharacterSet_N s_DataComponent_CharacterSet_X s_DataComponent_CharacterSet_Y s_DataComponent_CharacterSet_Z)), .unset, .unset, .unset, .unset, .unset, .unset] [(.int (2 : Int32)), (.int p3)]))
  refine own_go (fun _ => XS.iand X5.here hx rfl (hb hby at_8) rfl) ?_
  refine own_go (S' := T5.setTop (mkF m 17 #[.val (.int p1), .val (.int p2), .val (.int p3), .val (.int p4), .val (.ref (own_f1 p4 s_DataComponent_CharacterSet_N s_DataComponent_CharacterSet_X s_DataComponent_CharacterSet_Y s_DataComponent_CharacterSet_Z)), .unset, .unset, .unset, .unset, .unset, .unset] [(.int (own_v0_9 p3))])) (fun t kt => ?_) ?_
  · skip
    show Steps p.tables e below (T5.setTop (mkF m 9 #[.val (.int p1), .val (.int p2), .val (.int p3), .val (.int p4), .val (.ref (own_f1 p4 s_DataComponent_CharacterSet_N s_DataComponent_CharacterSet_X s_DataComponent_CharacterSet_Y s_DataComponent_CharacterSet_Z)), .unset, .unset, .unset, .unset, .unset, .unset] [(.int (p3 &&& (2 : Int32)))])) _
    by_cases hc6_9 : (p3 &&& (2 : Int32)) = (0 : Int32)
    · skip
      refine XS.ifYes X5.here hx rfl (pc0 := 9) (pc' := 16) rfl (hb hby at_9) rfl ((if0 _ _).trans (teq hc6_9).1) (by decide) (by decide) ?_
      show Steps p.tables e below (T5.setTop (mkF m 16 #[.val (.int p1), .val (.int p2), .val (.int p3), .val (.int p4), .val (.ref (own_f1 p4 s_DataComponent_CharacterSet_N s_DataComponent_CharacterSet_X s_DataComponent_CharacterSet_Y s_DataComponent_CharacterSet_Z)), .unset, .unset, .unset, .unset, .unset, .unset] [])) _
      refine XS.iconst X5.here hx rfl (hb hby at_16) ?_
      show Steps p.tables e below (T5.setTop (mkF m 17 #[.val (.int p1), .val (.int p2), .val (.int p3), .val (.int p4), .val (.ref (own_f1 p4 s_DataComponent_CharacterSet_N s_DataComponent_CharacterSet_X s_DataComponent_CharacterSet_Y s_DataComponent_CharacterSet_Z)), .unset, .unset, .unset, .unset, .unset, .unset] [(.int (0 : Int32))])) _
      rw [show (own_v0_9 p3) = (0 : Int32) from ((if_pos hc6_9).trans rfl)] at kt
      exact kt
    · skip
      refine XS.ifNo X5.here hx rfl (hb hby at_9) rfl ((if0 _ _).trans (feq hc6_9).1) ?_
      show Steps p.tables e below (T5.setTop (mkF m 12 #[.val (.int p1), .val (.int p2), .val (.int p3), .val (.int p4), .val (.ref (own_f1 p4 s_DataComponent_CharacterSet_N s_DataComponent_CharacterSet_X s_DataComponent_CharacterSet_Y s_DataComponent_CharacterSet_Z)), .unset, .unset, .unset, .unset, .unset, .unset] [])) _
      refine XS.iconst X5.here hx rfl (hb hby at_12) ?_
      show Steps p.tables e below (T5.setTop (mkF m 13 #[.val (.int p1), .val (.int p2), .val (.int p3), .val (.int p4), .val (.ref (own_f1 p4 s_DataComponent_CharacterSet_N s_DataComponent_CharacterSet_X s_DataComponent_CharacterSet_Y s_DataComponent_CharacterSet_Z)), .unset, .unset, .unset, .unset, .unset, .unset] [(.int (1 : Int32))])) _
      refine XS.goto X5.here hx rfl (pc0 := 13) (pc' := 17) rfl (hb hby at_13) (by decide) (by decide) ?_
      show Steps p.tables e below (T5.setTop (mkF m 17 #[.val (.int p1), .val (.int p2), .val (.int p3), .val (.int p4), .val (.ref (own_f1 p4 s_DataComponent_CharacterSet_N s_DataComponent_CharacterSet_X s_DataComponent_CharacterSet_Y s_DataComponent_CharacterSet_Z)), .unset, .unset, .unset, .unset, .unset, .unset] [(.int (1 : Int32))])) _
      rw [show (own_v0_9 p3) = (1 : Int32) from ((if_neg hc6_9).trans rfl)] at kt
      exact kt
  show own_Go p.tables e below _ (T5.setTop (mkF m 17 #[.val (.int p1), .val (.int p2), .val (.int p3), .val (.int p4), .val (.ref (own_f1 p4 s_DataComponent_CharacterSet_N s_DataComponent_CharacterSet_X s_DataComponent_CharacterSet_Y s_DataComponent_CharacterSet_Z)), .unset, .unset, .unset, .unset, .unset, .unset] [(.int (own_v0_9 p3))]))
  refine own_go (fun _ => XS.istore X5.here hx rfl (hb hby at_17) rfl (l' := #[.val (.int p1), .val (.int p2), .val (.int p3), .val (.int p4), .val (.ref (own_f1 p4 s_DataComponent_CharacterSet_N s_DataComponent_CharacterSet_X s_DataComponent_CharacterSet_Y s_DataComponent_CharacterSet_Z)), .val (.int (own_v0_9 p3)), .unset, .unset, .unset, .unset, .unset]) rfl) ?_
  show own_Go p.tables e below _ (T5.setTop (mkF m 19 #[.val (.int p1), .val (.int p2), .val (.int p3), .val (.int p4), .val (.ref (own_f1 p4 s_DataComponent_CharacterSet_N s_DataComponent_CharacterSet_X s_DataComponent_CharacterSet_Y s_DataComponent_CharacterSet_Z)), .val (.int (own_v0_9 p3)), .unset, .unset, .unset, .unset, .unset] []))
  refine own_go (fun _ => XS.iloadN X5.here hx rfl (hb hby at_19) rfl) ?_
  show own_Go p.tables e below _ (T5.setTop (mkF m 20 #[.val (.int p1), .val (.int p2), .val (.int p3), .val (.int p4), .val (.ref (own_f1 p4 s_DataComponent_CharacterSet_N s_DataComponent_CharacterSet_X s_DataComponent_CharacterSet_Y s_DataComponent_CharacterSet_Z)), .val (.int (own_v0_9 p3)), .unset, .unset, .unset, .unset, .unset] [(.int p3)]))
  refine own_go (fun _ => XS.iconst X5.here hx rfl (hb hby at_20)) ?_
  show own_Go p.tables e below _ (T5.setTop (mkF m 21 #[.val (.int p1), .val (.int p2), .val (.int p3), .val (.int p4), .val (.ref (own_f1 p4 s_DataComponent_CharacterSet_N s_DataComponent_CharacterSet_X s_DataComponent_CharacterSet_Y s_DataComponent_CharacterSet_Z)), .val (.int (own_v0_9 p3)), .unset, .unset, .unset, .unset, .unset] [(.int (4 : Int32)), (.int p3)]))
  refine own_go (fun _ => XS.iand X5.here hx rfl (hb hby at_21) rfl) ?_
  refine own_go (S' := T5.setTop (mkF m 30 #[.val (.int p1), .val (.int p2), .val (.int p3), .val (.int p4), .val (.ref (own_f1 p4 s_DataComponent_CharacterSet_N s_DataComponent_CharacterSet_X s_DataComponent_CharacterSet_Y s_DataComponent_CharacterSet_Z)), .val (.int (own_v0_9 p3)), .unset, .unset, .unset, .unset, .unset] [(.int (own_v0_22 p3))])) (fun t kt => ?_) ?_
  · skip
    show Steps p.tables e below (T5.setTop (mkF m 22 #[.val (.int p1), .val (.int p2), .val (.int p3), .val (.int p4), .val (.ref (own_f1 p4 s_DataComponent_CharacterSet_N s_DataComponent_CharacterSet_X s_DataComponent_CharacterSet_Y s_DataComponent_CharacterSet_Z)), .val (.int (own_v0_9 p3)), .unset, .unset, .unset, .unset, .unset] [(.int (p3 &&& (4 : Int32)))])) _
    by_cases hc7_22 : (p3 &&& (4 : Int32)) = (0 : Int32)
    · skip
      refine XS.ifYes X5.here hx rfl (pc0 := 22) (pc' := 29) rfl (hb hby at_22) rfl ((if0 _ _).trans (teq hc7_22).1) (by decide) (by decide) ?_
      show Steps p.tables e below (T5.setTop (mkF m 29 #[.val (.int p1), .val (.int p2), .val (.int p3), .val (.int p4), .val (.ref (own_f1 p4 s_DataComponent_CharacterSet_N s_DataComponent_CharacterSet_X s_DataComponent_CharacterSet_Y s_DataComponent_CharacterSet_Z)), .val (.int (own_v0_9 p3)), .unset, .unset, .unset, .unset, .unset] [])) _
      refine XS.iconst X5.here hx rfl (hb hby at_29) ?_
      show Steps p.tables e below (T5.setTop (mkF m 30 #[.val (.int p1), .val (.int p2), .val (.int p3), .val (.int p4), .val (.ref (own_f1 p4 s_DataComponent_CharacterSet_N s_DataComponent_CharacterSet_X s_DataComponent_CharacterSet_Y s_DataComponent_CharacterSet_Z)), .val (.int (own_v0_9 p3)), .unset, .unset, .unset, .unset, .unset] [(.int (0 : Int32))])) _
      rw [show (own_v0_22 p3) = (0 : Int32) from ((if_pos hc7_22).trans rfl)] at kt
      exact kt
    · skip
      refine XS.ifNo X5.here hx rfl (hb hby at_22) rfl ((if0 _ _).trans (feq hc7_22).1) ?_
      show Steps p.tables e below (T5.setTop (mkF m 25 #[.val (.int p1), .val (.int p2), .val (.int p3), .val (.int p4), .val (.ref (own_f1 p4 s_DataComponent_CharacterSet_N s_DataComponent_CharacterSet_X s_DataComponent_CharacterSet_Y s_DataComponent_CharacterSet_Z)), .val (.int (own_v0_9 p3)), .unset, .unset, .unset, .unset, .unset] [])) _
      refine XS.iconst X5.here hx rfl (hb hby at_25) ?_
      show Steps p.tables e below (T5.setTop (mkF m 26 #[.val (.int p1), .val (.int p2), .val (.int p3), .val (.int p4), .val (.ref (own_f1 p4 s_DataComponent_CharacterSet_N s_DataComponent_CharacterSet_X s_DataComponent_CharacterSet_Y s_DataComponent_CharacterSet_Z)), .val (.int (own_v0_9 p3)), .unset, .unset, .unset, .unset, .unset] [(.int (1 : Int32))])) _
      refine XS.goto X5.here hx rfl (pc0 := 26) (pc' := 30) rfl (hb hby at_26) (by decide) (by decide) ?_
      show Steps p.tables e below (T5.setTop (mkF m 30 #[.val (.int p1), .val (.int p2), .val (.int p3), .val (.int p4), .val (.ref (own_f1 p4 s_DataComponent_CharacterSet_N s_DataComponent_CharacterSet_X s_DataComponent_CharacterSet_Y s_DataComponent_CharacterSet_Z)), .val (.int (own_v0_9 p3)), .unset, .unset, .unset, .unset, .unset] [(.int (1 : Int32))])) _
      rw [show (own_v0_22 p3) = (1 : Int32) from ((if_neg hc7_22).trans rfl)] at kt
      exact kt
  show own_Go p.tables e below _ (T5.setTop (mkF m 30 #[.val (.int p1), .val (.int p2), .val (.int p3), .val (.int p4), .val (.ref (own_f1 p4 s_DataComponent_CharacterSet_N s_DataComponent_CharacterSet_X s_DataComponent_CharacterSet_Y s_DataComponent_CharacterSet_Z)), .val (.int (own_v0_9 p3)), .unset, .unset, .unset, .unset, .unset] [(.int (own_v0_22 p3))]))
  refine own_go (fun _ => XS.istore X5.here hx rfl (hb hby at_30) rfl (l' := #[.val (.int p1), .val (.int p2), .val (.int p3), .val (.int p4), .val (.ref (own_f1 p4 s_DataComponent_CharacterSet_N s_DataComponent_CharacterSet_X s_DataComponent_CharacterSet_Y s_DataComponent_CharacterSet_Z)), .val (.int (own_v0_9 p3)), .val (.int (own_v0_22 p3)), .unset, .unset, .unset, .unset]) rfl) ?_
  show own_Go p.tables e below _ (T5.setTop (mkF m 32 #[.val (.int p1), .val (.int p2), .val (.int p3), .val (.int p4), .val (.ref (own_f1 p4 s_DataComponent_CharacterSet_N s_DataComponent_CharacterSet_X s_DataComponent_CharacterSet_Y s_DataComponent_CharacterSet_Z)), .val (.int (own_v0_9 p3)), .val (.int (own_v0_22 p3)), .unset, .unset, .unset, .unset] []))
  refine own_go (fun _ => XS.iloadN X5.here hx rfl (hb hby at_32) rfl) ?_
  show own_Go p.tables e below _ (T5.setTop (mkF m 33 #[.val (.int p1), .val (.int p2), .val (.int p3), .val (.int p4), .val (.ref (own_f1 p4 s_DataComponent_CharacterSet_N s_DataComponent_CharacterSet_X s_DataComponent_CharacterSet_Y s_DataComponent_CharacterSet_Z)), .val (.int (own_v0_9 p3)), .val (.int (own_v0_22 p3)), .unset, .unset, .unset, .unset] [(.int p3)]))
  refine own_go (fun _ => XS.iconst X5.here hx rfl (hb hby at_33)) ?_
  show own_Go p.tables e below _ (T5.setTop (mkF m 34 #[.val (.int p1), .val (.int p2), .val (.int p3), .val (.int p4), .val (.ref (own_f1 p4 s_DataComponent_CharacterSet_N s_DataComponent_CharacterSet_X s_DataComponent_CharacterSet_Y s_DataComponent_CharacterSet_Z)), .val (.int (own_v0_9 p3)), .val (.int (own_v0_22 p3)), .unset, .unset, .unset, .unset] [(.int (1 : Int32)), (.int p3)]))
  refine own_go (fun _ => XS.iand X5.here hx rfl (hb hby at_34) rfl) ?_
  show own_Go p.tables e below _ (T5.setTop (mkF m 35 #[.val (.int p1), .val (.int p2), .val (.int p3), .val (.int p4), .val (.ref (own_f1 p4 s_DataComponent_CharacterSet_N s_DataComponent_CharacterSet_X s_DataComponent_CharacterSet_Y s_DataComponent_CharacterSet_Z)), .val (.int (own_v0_9 p3)), .val (.int (own_v0_22 p3)), .unset, .unset, .unset, .unset] [(.int (p3 &&& (1 : Int32)))]))
  by_cases hc8_35 : (p3 &&& (1 : Int32)) = (0 : Int32)
  · skip
    refine own_go (fun _ => XS.ifNo X5.here hx rfl (hb hby at_35) rfl ((if0 _ _).trans (teq hc8_35).2)) ?_
    show own_Go p.tables e below _ (T5.setTop (mkF m 38 #[.val (.int p1), .val (.int p2), .val (.int p3), .val (.int p4), .val (.ref (own_f1 p4 s_DataComponent_CharacterSet_N s_DataComponent_CharacterSet_X s_DataComponent_CharacterSet_Y s_DataComponent_CharacterSet_Z)), .val (.int (own_v0_9 p3)), .val (.int (own_v0_22 p3)), .unset, .unset, .unset, .unset] []))
    refine own_go (fun _ => XS.iconst X5.here hx rfl (hb hby at_38)) ?_
    show own_Go p.tables e below _ (T5.setTop (mkF m 39 #[.val (.int p1), .val (.int p2), .val (.int p3), .val (.int p4), .val (.ref (own_f1 p4 s_DataComponent_CharacterSet_N s_DataComponent_CharacterSet_X s_DataComponent_CharacterSet_Y s_DataComponent_CharacterSet_Z)), .val (.int (own_v0_9 p3)), .val (.int (own_v0_22 p3)), .unset, .unset, .unset, .unset] [(.int (1 : Int32))]))
    refine own_go (fun _ => XS.iloadN X5.here hx rfl (hb hby at_39) rfl) ?_
    show own_Go p.tables e below _ (T5.setTop (mkF m 40 #[.val (.int p1), .val (.int p2), .val (.int p3), .val (.int p4), .val (.ref (own_f1 p4 s_DataComponent_CharacterSet_N s_DataComponent_CharacterSet_X s_DataComponent_CharacterSet_Y s_DataComponent_CharacterSet_Z)), .val (.int (own_v0_9 p3)), .val (.int (own_v0_22 p3)), .unset, .unset, .unset, .unset] [(.int p1), (.int (1 : Int32))]))
    refine own_go (X5.ldcInt hx hown (mvT hZ (hw _ (List.mem_of_getElem? (i := 7) rfl))) (g := (mkF m 40 #[.val (.int p1), .val (.int p2), .val (.int p3), .val (.int p4), .val (.ref (own_f1 p4 s_DataComponent_CharacterSet_N s_DataComponent_CharacterSet_X s_DataComponent_CharacterSet_Y s_DataComponent_CharacterSet_Z)), .val (.int (own_v0_9 p3)), .val (.int (own_v0_22 p3)), .unset, .unset, .unset, .unset] [(.int p1), (.int (1 : Int32))])) rfl (hb hby at_40)) ?_
    show own_Go p.tables e below _ (T5.setTop (mkF m 42 #[.val (.int p1), .val (.int p2), .val (.int p3), .val (.int p4), .val (.ref (own_f1 p4 s_DataComponent_CharacterSet_N s_DataComponent_CharacterSet_X s_DataComponent_CharacterSet_Y s_DataComponent_CharacterSet_Z)), .val (.int (own_v0_9 p3)), .val (.int (own_v0_22 p3)), .unset, .unset, .unset, .unset] [(.int (2147483647 : Int32)), (.int p1), (.int (1 : Int32))]))
    refine own_go (fun _ => XS.iand X5.here hx rfl (hb hby at_42) rfl) ?_
    show own_Go p.tables e below _ (T5.setTop (mkF m 43 #[.val (.int p1), .val (.int p2), .val (.int p3), .val (.int p4), .val (.ref (own_f1 p4 s_DataComponent_CharacterSet_N s_DataComponent_CharacterSet_X s_DataComponent_CharacterSet_Y s_DataComponent_CharacterSet_Z)), .val (.int (own_v0_9 p3)), .val (.int (own_v0_22 p3)), .unset, .unset, .unset, .unset] [(.int (p1 &&& (2147483647 : Int32))), (.int (1 : Int32))]))
    obtain ⟨_, _, ⟨T9, L9, k9, n9⟩, -, X9, ⟨Lc9, hQ9, l9, y9, z9⟩, st9⟩ := Jvm.LawKit.callS X5 hx (y := (⟨"java/lang/Math", "max", "(II)I"⟩ : MethodName)) hown (mvT hZ (hw _ (List.mem_of_getElem? (i := 8) rfl))) (mvT hZ (hw _ (List.mem_of_getElem? (i := 9) rfl))) (mvT hZ (hw _ (List.mem_of_getElem? (i := 10) rfl))) (mvT hZ (hw _ (List.mem_of_getElem? (i := 11) rfl))) (by decide) (backOf (W := 0) (rm2 l Z a0 hw [] (1 : Int32) (p1 &&& (2147483647 : Int32)) h0 n0 Z0 ) hZ (hw _ (List.mem_of_getElem? (i := 11) rfl)) (hw _ (List.mem_of_getElem? (i := 10) rfl)) (by decide) (by decide)) (g := (mkF m 43 #[.val (.int p1), .val (.int p2), .val (.int p3), .val (.int p4), .val (.ref (own_f1 p4 s_DataComponent_CharacterSet_N s_DataComponent_CharacterSet_X s_DataComponent_CharacterSet_Y s_DataComponent_CharacterSet_Z)), .val (.int (own_v0_9 p3)), .val (.int (own_v0_22 p3)), .unset, .unset, .unset, .unset] [(.int (p1 &&& (2147483647 : Int32))), (.int (1 : Int32))])) rfl (by rw [hml]; rfl) (argsL := [(.int (1 : Int32)), (.int (p1 &&& (2147483647 : Int32)))]) (rest := []) (lenOf pd_1 rfl) rfl (by show 2 * 0 + _ ≤ _; exact Nat.le_of_eq rfl) (hb hby at_43) (fun _ _ => ⟨rfl, e5, (by decide : 0 + 0 ≤ _), (by decide : 0 + 0 ≤ _)⟩)
    dsimp only [Pt.U, Pt.locs, Pt.cells, Pt.slots] at X9 l9 y9 z9 st9 hQ9
    subst l9 y9 z9
    obtain ⟨rfl, N9q, e9⟩ := hQ9
    have N9 := Fr.app N5 N9q
    refine own_go st9 ?_
    show own_Go p.tables e below _ (T9.setTop (mkF m 46 #[.val (.int p1), .val (.int p2), .val (.int p3), .val (.int p4), .val (.ref (own_f1 p4 s_DataComponent_CharacterSet_N s_DataComponent_CharacterSet_X s_DataComponent_CharacterSet_Y s_DataComponent_CharacterSet_Z)), .val (.int (own_v0_9 p3)), .val (.int (own_v0_22 p3)), .unset, .unset, .unset, .unset] [(.int (own_f2 (1 : Int32) (p1 &&& (2147483647 : Int32))))]))
    refine own_go (fun _ => XS.istore X9.here hx rfl (hb hby at_46) rfl (l' := #[.val (.int p1), .val (.int p2), .val (.int p3), .val (.int p4), .val (.ref (own_f1 p4 s_DataComponent_CharacterSet_N s_DataComponent_CharacterSet_X s_DataComponent_CharacterSet_Y s_DataComponent_CharacterSet_Z)), .val (.int (own_v0_9 p3)), .val (.int (own_v0_22 p3)), .unset, .val (.int (own_f2 (1 : Int32) (p1 &&& (2147483647 : Int32)))), .unset, .unset]) rfl) ?_
    show own_Go p.tables e below _ (T9.setTop (mkF m 48 #[.val (.int p1), .val (.int p2), .val (.int p3), .val (.int p4), .val (.ref (own_f1 p4 s_DataComponent_CharacterSet_N s_DataComponent_CharacterSet_X s_DataComponent_CharacterSet_Y s_DataComponent_CharacterSet_Z)), .val (.int (own_v0_9 p3)), .val (.int (own_v0_22 p3)), .unset, .val (.int (own_f2 (1 : Int32) (p1 &&& (2147483647 : Int32)))), .unset, .unset] []))
    refine own_go (fun _ => XS.iload X9.here hx rfl (hb hby at_48) rfl) ?_
    refine own_go (S' := T9.setTop (mkF m 118 #[.val (.int p1), .val (.int p2), .val (.int p3), .val (.int p4), .val (.ref (own_f1 p4 s_DataComponent_CharacterSet_N s_DataComponent_CharacterSet_X s_DataComponent_CharacterSet_Y s_DataComponent_CharacterSet_Z)), .val (.int (own_v0_9 p3)), .val (.int (own_v0_22 p3)), .val (.int (own_v0_50_L7 p1 p3)), .val (.int (own_f2 (1 : Int32) (p1 &&& (2147483647 : Int32)))), .val (.int (own_v0_50_L9 p1 p3)), .unset] [])) (fun t kt => ?_) ?_
    · skip
      show Steps p.tables e below (T9.setTop (mkF m 50 #[.val (.int p1), .val (.int p2), .val (.int p3), .val (.int p4), .val (.ref (own_f1 p4 s_DataComponent_CharacterSet_N s_DataComponent_CharacterSet_X s_DataComponent_CharacterSet_Y s_DataComponent_CharacterSet_Z)), .val (.int (own_v0_9 p3)), .val (.int (own_v0_22 p3)), .unset, .val (.int (own_f2 (1 : Int32) (p1 &&& (2147483647 : Int32)))), .unset, .unset] [(.int (own_v0_22 p3))])) _
      by_cases hc10_50 : (own_v0_22 p3) = (0 : Int32)
      · skip
        refine XS.ifYes X9.here hx rfl (pc0 := 50) (pc' := 63) rfl (hb hby at_50) rfl ((if0 _ _).trans (teq hc10_50).1) (by decide) (by decide) ?_
        show Steps p.tables e below (T9.setTop (mkF m 63 #[.val (.int p1), .val (.int p2), .val (.int p3), .val (.int p4), .val (.ref (own_f1 p4 s_DataComponent_CharacterSet_N s_DataComponent_CharacterSet_X s_DataComponent_CharacterSet_Y s_DataComponent_CharacterSet_Z)), .val (.int (own_v0_9 p3)), .val (.int (own_v0_22 p3)), .unset, .val (.int (own_f2 (1 : Int32) (p1 &&& (2147483647 : Int32)))), .unset, .unset] [])) _
        refine XS.iconst X9.here hx rfl (hb hby at_63) ?_
        show Steps p.tables e below (T9.setTop (mkF m 64 #[.val (.int p1), .val (.int p2), .val (.int p3), .val (.int p4), .val (.ref (own_f1 p4 s_DataComponent_CharacterSet_N s_DataComponent_CharacterSet_X s_DataComponent_CharacterSet_Y s_DataComponent_CharacterSet_Z)), .val (.int (own_v0_9 p3)), .val (.int (own_v0_22 p3)), .unset, .val (.int (own_f2 (1 : Int32) (p1 &&& (2147483647 : Int32)))), .unset, .unset] [(.int (1 : Int32))])) _
        refine XS.istore X9.here hx rfl (hb hby at_64) rfl (l' := #[.val (.int p1), .val (.int p2), .val (.int p3), .val (.int p4), .val (.ref (own_f1 p4 s_DataComponent_CharacterSet_N s_DataComponent_CharacterSet_X s_DataComponent_CharacterSet_Y s_DataComponent_CharacterSet_Z)), .val (.int (own_v0_9 p3)), .val (.int (own_v0_22 p3)), .val (.int (1 : Int32)), .val (.int (own_f2 (1 : Int32) (p1 &&& (2147483647 : Int32)))), .unset, .unset]) rfl ?_
        show Steps p.tables e below (T9.setTop (mkF m 66 #[.val (.int p1), .val (.int p2), .val (.int p3), .val (.int p4), .val (.ref (own_f1 p4 s_DataComponent_CharacterSet_N s_DataComponent_CharacterSet_X s_DataComponent_CharacterSet_Y s_DataComponent_CharacterSet_Z)), .val (.int (own_v0_9 p3)), .val (.int (own_v0_22 p3)), .val (.int (1 : Int32)), .val (.int (own_f2 (1 : Int32) (p1 &&& (2147483647 : Int32)))), .unset, .unset] [])) _
        refine XS.iload X9.here hx rfl (hb hby at_66) rfl ?_
        show Steps p.tables e below (T9.setTop (mkF m 68 #[.val (.int p1), .val (.int p2), .val (.int p3), .val (.int p4), .val (.ref (own_f1 p4 s_DataComponent_CharacterSet_N s_DataComponent_CharacterSet_X s_DataComponent_CharacterSet_Y s_DataComponent_CharacterSet_Z)), .val (.int (own_v0_9 p3)), .val (.int (own_v0_22 p3)), .val (.int (1 : Int32)), .val (.int (own_f2 (1 : Int32) (p1 &&& (2147483647 : Int32)))), .unset, .unset] [(.int (own_f2 (1 : Int32) (p1 &&& (2147483647 : Int32))))])) _
        refine XS.iconst X9.here hx rfl (hb hby at_68) ?_
        show Steps p.tables e below (T9.setTop (mkF m 69 #[.val (.int p1), .val (.int p2), .val (.int p3), .val (.int p4), .val (.ref (own_f1 p4 s_DataComponent_CharacterSet_N s_DataComponent_CharacterSet_X s_DataComponent_CharacterSet_Y s_DataComponent_CharacterSet_Z)), .val (.int (own_v0_9 p3)), .val (.int (own_v0_22 p3)), .val (.int (1 : Int32)), .val (.int (own_f2 (1 : Int32) (p1 &&& (2147483647 : Int32)))), .unset, .unset] [(.int (1 : Int32)), (.int (own_f2 (1 : Int32) (p1 &&& (2147483647 : Int32))))])) _
        by_cases hc11_69 : (1 : Int32) < (own_f2 (1 : Int32) (p1 &&& (2147483647 : Int32)))
        · skip
          refine XS.icmpNo X9.here hx rfl (hb hby at_69) rfl (tlt hc11_69).2.2.2 ?_
          show Steps p.tables e below (T9.setTop (mkF m 72 #[.val (.int p1), .val (.int p2), .val (.int p3), .val (.int p4), .val (.ref (own_f1 p4 s_DataComponent_CharacterSet_N s_DataComponent_CharacterSet_X s_DataComponent_CharacterSet_Y s_DataComponent_CharacterSet_Z)), .val (.int (own_v0_9 p3)), .val (.int (own_v0_22 p3)), .val (.int (1 : Int32)), .val (.int (own_f2 (1 : Int32) (p1 &&& (2147483647 : Int32)))), .unset, .unset] [])) _
          refine XS.iconst X9.here hx rfl (hb hby at_72) ?_
          show Steps p.tables e below (T9.setTop (mkF m 73 #[.val (.int p1), .val (.int p2), .val (.int p3), .val (.int p4), .val (.ref (own_f1 p4 s_DataComponent_CharacterSet_N s_DataComponent_CharacterSet_X s_DataComponent_CharacterSet_Y s_DataComponent_CharacterSet_Z)), .val (.int (own_v0_9 p3)), .val (.int (own_v0_22 p3)), .val (.int (1 : Int32)), .val (.int (own_f2 (1 : Int32) (p1 &&& (2147483647 : Int32)))), .unset, .unset] [(.int (1 : Int32))])) _
          refine XS.goto X9.here hx rfl (pc0 := 73) (pc' := 77) rfl (hb hby at_73) (by decide) (by decide) ?_
          show Steps p.tables e below (T9.setTop (mkF m 77 #[.val (.int p1), .val (.int p2), .val (.int p3), .val (.int p4), .val (.ref (own_f1 p4 s_DataComponent_CharacterSet_N s_DataComponent_CharacterSet_X s_DataComponent_CharacterSet_Y s_DataComponent_CharacterSet_Z)), .val (.int (own_v0_9 p3)), .val (.int (own_v0_22 p3)), .val (.int (1 : Int32)), .val (.int (own_f2 (1 : Int32) (p1 &&& (2147483647 : Int32)))), .unset, .unset] [(.int (1 : Int32))])) _
          refine XS.istore X9.here hx rfl (hb hby at_77) rfl (l' := #[.val (.int p1), .val (.int p2), .val (.int p3), .val (.int p4), .val (.ref (own_f1 p4 s_DataComponent_CharacterSet_N s_DataComponent_CharacterSet_X s_DataComponent_CharacterSet_Y s_DataComponent_CharacterSet_Z)), .val (.int (own_v0_9 p3)), .val (.int (own_v0_22 p3)), .val (.int (1 : Int32)), .val (.int (own_f2 (1 : Int32) (p1 &&& (2147483647 : Int32)))), .val (.int (1 : Int32)), .unset]) rfl ?_
          show Steps p.tables e below (T9.setTop (mkF m 79 #[.val (.int p1), .val (.int p2), .val (.int p3), .val (.int p4), .val (.ref (own_f1 p4 s_DataComponent_CharacterSet_N s_DataComponent_CharacterSet_X s_DataComponent_CharacterSet_Y s_DataComponent_CharacterSet_Z)), .val (.int (own_v0_9 p3)), .val (.int (own_v0_22 p3)), .val (.int (1 : Int32)), .val (.int (own_f2 (1 : Int32) (p1 &&& (2147483647 : Int32)))), .val (.int (1 : Int32)), .unset] [])) _
          refine XS.goto X9.here hx rfl (pc0 := 79) (pc' := 118) rfl (hb hby at_79) (by decide) (by decide) ?_
          show Steps p.tables e below (T9.setTop (mkF m 118 #[.val (.int p1), .val (.int p2), .val (.int p3), .val (.int p4), .val (.ref (own_f1 p4 s_DataComponent_CharacterSet_N s_DataComponent_CharacterSet_X s_DataComponent_CharacterSet_Y s_DataComponent_CharacterSet_Z)), .val (.int (own_v0_9 p3)), .val (.int (own_v0_22 p3)), .val (.int (1 : Int32)), .val (.int (own_f2 (1 : Int32) (p1 &&& (2147483647 : Int32)))), .val (.int (1 : Int32)), .unset] [])) _
          rw [show (own_v0_50_L7 p1 p3) = (1 : Int32) from ((if_pos hc10_50).trans ((if_pos hc11_69).trans rfl))] at kt
          rw [show (own_v0_50_L9 p1 p3) = (1 : Int32) from ((if_pos hc10_50).trans ((if_pos hc11_69).trans rfl))] at kt
          exact kt
        · skip
          refine XS.icmpYes X9.here hx rfl (pc0 := 69) (pc' := 76) rfl (hb hby at_69) rfl (flt hc11_69).2.2.2 (by decide) (by decide) ?_
          show Steps p.tables e below (T9.setTop (mkF m 76 #[.val (.int p1), .val (.int p2), .val (.int p3), .val (.int p4), .val (.ref (own_f1 p4 s_DataComponent_CharacterSet_N s_DataComponent_CharacterSet_X s_DataComponent_CharacterSet_Y s_DataComponent_CharacterSet_Z)), .val (.int (own_v0_9 p3)), .val (.int (own_v0_22 p3)), .val (.int (1 : Int32)), .val (.int (own_f2 (1 : Int32) (p1 &&& (2147483647 : Int32)))), .unset, .unset] [])) _
          refine XS.iconst X9.here hx rfl (hb hby at_76) ?_
          show Steps p.tables e below (T9.setTop (mkF m 77 #[.val (.int p1), .val (.int p2), .val (.int p3), .val (.int p4), .val (.ref (own_f1 p4 s_DataComponent_CharacterSet_N s_DataComponent_CharacterSet_X s_DataComponent_CharacterSet_Y s_DataComponent_CharacterSet_Z)), .val (.int (own_v0_9 p3)), .val (.int (own_v0_22 p3)), .val (.int (1 : Int32)), .val (.int (own_f2 (1 : Int32) (p1 &&& (2147483647 : Int32)))), .unset, .unset] [(.int (0 : Int32))])) _
          refine XS.istore X9.here hx rfl (hb hby at_77) rfl (l' := #[.val (.int p1), .val (.int p2), .val (.int p3), .val (.int p4), .val (.ref (own_f1 p4 s_DataComponent_CharacterSet_N s_DataComponent_CharacterSet_X s_DataComponent_CharacterSet_Y s_DataComponent_CharacterSet_Z)), .val (.int (own_v0_9 p3)), .val (.int (own_v0_22 p3)), .val (.int (1 : Int32)), .val (.int (own_f2 (1 : Int32) (p1 &&& (2147483647 : Int32)))), .val (.int (0 : Int32)), .unset]) rfl ?_
          show Steps p.tables e below (T9.setTop (mkF m 79 #[.val (.int p1), .val (.int p2), .val (.int p3), .val (.int p4), .val (.ref (own_f1 p4 s_DataComponent_CharacterSet_N s_DataComponent_CharacterSet_X s_DataComponent_CharacterSet_Y s_DataComponent_CharacterSet_Z)), .val (.int (own_v0_9 p3)), .val (.int (own_v0_22 p3)), .val (.int (1 : Int32)), .val (.int (own_f2 (1 : Int32) (p1 &&& (2147483647 : Int32)))), .val (.int (0 : Int32)), .unset] [])) _
          refine XS.goto X9.here hx rfl (pc0 := 79) (pc' := 118) rfl (hb hby at_79) (by decide) (by decide) ?_
          show Steps p.tables e below (T9.setTop (mkF m 118 #[.val (.int p1), .val (.int p2), .val (.int p3), .val (.int p4), .val (.ref (own_f1 p4 s_DataComponent_CharacterSet_N s_DataComponent_CharacterSet_X s_DataComponent_CharacterSet_Y s_DataComponent_CharacterSet_Z)), .val (.int (own_v0_9 p3)), .val (.int (own_v0_22 p3)), .val (.int (1 : Int32)), .val (.int (own_f2 (1 : Int32) (p1 &&& (2147483647 : Int32)))), .val (.int (0 : Int32)), .unset] [])) _
          rw [show (own_v0_50_L7 p1 p3) = (1 : Int32) from ((if_pos hc10_50).trans ((if_neg hc11_69).trans rfl))] at kt
          rw [show (own_v0_50_L9 p1 p3) = (0 : Int32) from ((if_pos hc10_50).trans ((if_neg hc11_69).trans rfl))] at kt
          exact kt
      · skip
        refine XS.ifNo X9.here hx rfl (hb hby at_50) rfl ((if0 _ _).trans (feq hc10_50).1) ?_
        show Steps p.tables e below (T9.setTop (mkF m 53 #[.val (.int p1), .val (.int p2), .val (.int p3), .val (.int p4), .val (.ref (own_f1 p4 s_DataComponent_CharacterSet_N s_DataComponent_CharacterSet_X s_DataComponent_CharacterSet_Y s_DataComponent_CharacterSet_Z)), .val (.int (own_v0_9 p3)), .val (.int (own_v0_22 p3)), .unset, .val (.int (own_f2 (1 : Int32) (p1 &&& (2147483647 : Int32)))), .unset, .unset] [])) _
        refine XS.iload X9.here hx rfl (hb hby at_53) rfl ?_
        show Steps p.tables e below (T9.setTop (mkF m 55 #[.val (.int p1), .val (.int p2), .val (.int p3), .val (.int p4), .val (.ref (own_f1 p4 s_DataComponent_CharacterSet_N s_DataComponent_CharacterSet_X s_DataComponent_CharacterSet_Y s_DataComponent_CharacterSet_Z)), .val (.int (own_v0_9 p3)), .val (.int (own_v0_22 p3)), .unset, .val (.int (own_f2 (1 : Int32) (p1 &&& (2147483647 : Int32)))), .unset, .unset] [(.int (own_f2 (1 : Int32) (p1 &&& (2147483647 : Int32))))])) _
        refine XS.istore X9.here hx rfl (hb hby at_55) rfl (l' := #[.val (.int p1), .val (.int p2), .val (.int p3), .val (.int p4), .val (.ref (own_f1 p4 s_DataComponent_CharacterSet_N s_DataComponent_CharacterSet_X s_DataComponent_CharacterSet_Y s_DataComponent_CharacterSet_Z)), .val (.int (own_v0_9 p3)), .val (.int (own_v0_22 p3)), .val (.int (own_f2 (1 : Int32) (p1 &&& (2147483647 : Int32)))), .val (.int (own_f2 (1 : Int32) (p1 &&& (2147483647 : Int32)))), .unset, .unset]) rfl ?_
        show Steps p.tables e below (T9.setTop (mkF m 57 #[.val (.int p1), .val (.int p2), .val (.int p3), .val (.int p4), .val (.ref (own_f1 p4 s_DataComponent_CharacterSet_N s_DataComponent_CharacterSet_X s_DataComponent_CharacterSet_Y s_DataComponent_CharacterSet_Z)), .val (.int (own_v0_9 p3)), .val (.int (own_v0_22 p3)), .val (.int (own_f2 (1 : Int32) (p1 &&& (2147483647 : Int32)))), .val (.int (own_f2 (1 : Int32) (p1 &&& (2147483647 : Int32)))), .unset, .unset] [])) _
        refine XS.iconst X9.here hx rfl (hb hby at_57) ?_
        show Steps p.tables e below (T9.setTop (mkF m 58 #[.val (.int p1), .val (.int p2), .val (.int p3), .val (.int p4), .val (.ref (own_f1 p4 s_DataComponent_CharacterSet_N s_DataComponent_CharacterSet_X s_DataComponent_CharacterSet_Y s_DataComponent_CharacterSet_Z)), .val (.int (own_v0_9 p3)), .val (.int (own_v0_22 p3)), .val (.int (own_f2 (1 : Int32) (p1 &&& (2147483647 : Int32)))), .val (.int (own_f2 (1 : Int32) (p1 &&& (2147483647 : Int32)))), .unset, .unset] [(.int (0 : Int32))])) _
        refine XS.istore X9.here hx rfl (hb hby at_58) rfl (l' := #[.val (.int p1), .val (.int p2), .val (.int p3), .val (.int p4), .val (.ref (own_f1 p4 s_DataComponent_CharacterSet_N s_DataComponent_CharacterSet_X s_DataComponent_CharacterSet_Y s_DataComponent_CharacterSet_Z)), .val (.int (own_v0_9 p3)), .val (.int (own_v0_22 p3)), .val (.int (own_f2 (1 : Int32) (p1 &&& (2147483647 : Int32)))), .val (.int (own_f2 (1 : Int32) (p1 &&& (2147483647 : Int32)))), .val (.int (0 : Int32)), .unset]) rfl ?_
        show Steps p.tables e below (T9.setTop (mkF m 60 #[.val (.int p1), .val (.int p2), .val (.int p3), .val (.int p4), .val (.ref (own_f1 p4 s_DataComponent_CharacterSet_N s_DataComponent_CharacterSet_X s_DataComponent_CharacterSet_Y s_DataComponent_CharacterSet_Z)), .val (.int (own_v0_9 p3)), .val (.int (own_v0_22 p3)), .val (.int (own_f2 (1 : Int32) (p1 &&& (2147483647 : Int32)))), .val (.int (own_f2 (1 : Int32) (p1 &&& (2147483647 : Int32)))), .val (.int (0 : Int32)), .unset] [])) _
        refine XS.goto X9.here hx rfl (pc0 := 60) (pc' := 118) rfl (hb hby at_60) (by decide) (by decide) ?_
        show Steps p.tables e below (T9.setTop (mkF m 118 #[.val (.int p1), .val (.int p2), .val (.int p3), .val (.int p4), .val (.ref (own_f1 p4 s_DataComponent_CharacterSet_N s_DataComponent_CharacterSet_X s_DataComponent_CharacterSet_Y s_DataComponent_CharacterSet_Z)), .val (.int (own_v0_9 p3)), .val (.int (own_v0_22 p3)), .val (.int (own_f2 (1 : Int32) (p1 &&& (2147483647 : Int32)))), .val (.int (own_f2 (1 : Int32) (p1 &&& (2147483647 : Int32)))), .val (.int (0 : Int32)), .unset] [])) _
        rw [show (own_v0_50_L7 p1 p3) = (own_f2 (1 : Int32) (p1 &&& (2147483647 : Int32))) from ((if_neg hc10_50).trans rfl)] at kt
        rw [show (own_v0_50_L9 p1 p3) = (0 : Int32) from ((if_neg hc10_50).trans rfl)] at kt
        exact kt
    show own_Go p.tables e below _ (T9.setTop (mkF m 118 #[.val (.int p1), .val (.int p2), .val (.int p3), .val (.int p4), .val (.ref (own_f1 p4 s_DataComponent_CharacterSet_N s_DataComponent_CharacterSet_X s_DataComponent_CharacterSet_Y s_DataComponent_CharacterSet_Z)), .val (.int (own_v0_9 p3)), .val (.int (own_v0_22 p3)), .val (.int (own_v0_50_L7 p1 p3)), .val (.int (own_f2 (1 : Int32) (p1 &&& (2147483647 : Int32)))), .val (.int (own_v0_50_L9 p1 p3)), .unset] []))
    obtain ⟨T12, h12, X12, e12, E12, A12, D12, -, st12⟩ := newO X9 hx hZ hown (hw _ (List.mem_of_getElem? (i := 12) rfl)) (hw _ (List.mem_of_getElem? (i := 13) rfl)) (hw _ (List.mem_of_getElem? (i := 14) rfl)) e9 (g := (mkF m 118 #[.val (.int p1), .val (.int p2), .val (.int p3), .val (.int p4), .val (.ref (own_f1 p4 s_DataComponent_CharacterSet_N s_DataComponent_CharacterSet_X s_DataComponent_CharacterSet_Y s_DataComponent_CharacterSet_Z)), .val (.int (own_v0_9 p3)), .val (.int (own_v0_22 p3)), .val (.int (own_v0_50_L7 p1 p3)), .val (.int (own_f2 (1 : Int32) (p1 &&& (2147483647 : Int32)))), .val (.int (own_v0_50_L9 p1 p3)), .unset] [])) rfl (hb hby at_118) (by decide) (by decide)
    obtain ⟨b12, g12⟩ : ∃ z, z = h0.size := ⟨_, rfl⟩
    rw [← g12] at A12 D12 st12
    refine own_go st12 ?_
    have g_b12 : n0 ≤ b12 := Nat.le_trans Z0 (Nat.le_of_eq g12.symm)
    have sz_b12 : h0.size ≤ b12 := (Nat.le_trans (Keep.refl h0 []).1 (Nat.le_of_eq g12.symm))
    have K12 : Keep h0 h12 [] := (Keep.refl h0 []).ext E12
    have F_characters_b12 : Fld Z h12 b12 "com/example/barwright/barwright/DataComponent" "characters" "Lcom/example/barwright/barwright/DataComponent$CharacterSet;" .null := D12 (Or.inr (hw _ (List.mem_of_getElem? (i := 51) rfl))) (ty := (.object "com/example/barwright/barwright/DataComponent$CharacterSet")) (by decide)
    have F_shortest_b12 : Fld Z h12 b12 "com/example/barwright/barwright/DataComponent" "shortest" "I" (.int (0 : Int32)) := D12 (Or.inr (hw _ (List.mem_of_getElem? (i := 53) rfl))) (ty := .int) (by decide)
    have F_longest_b12 : Fld Z h12 b12 "com/example/barwright/barwright/DataComponent" "longest" "I" (.int (0 : Int32)) := D12 (Or.inr (hw _ (List.mem_of_getElem? (i := 55) rfl))) (ty := .int) (by decide)
    have F_optional_b12 : Fld Z h12 b12 "com/example/barwright/barwright/DataComponent" "optional" "Z" (.int (0 : Int32)) := D12 (Or.inr (hw _ (List.mem_of_getElem? (i := 57) rfl))) (ty := .boolean) (by decide)
    have F_linters_b12 : Fld Z h12 b12 "com/example/barwright/barwright/DataComponent" "linters" "Ljava/util/List;" .null := D12 (Or.inr (hw _ (List.mem_of_getElem? (i := 59) rfl))) (ty := (.object "java/util/List")) (by decide)
    have F_checked_b12 : Fld Z h12 b12 "com/example/barwright/barwright/DataComponent" "checked" "Ljava/util/List;" .null := D12 (Or.inr (hw _ (List.mem_of_getElem? (i := 61) rfl))) (ty := (.object "java/util/List")) (by decide)
    show own_Go p.tables e below _ (T12.setTop (mkF m 121 #[.val (.int p1), .val (.int p2), .val (.int p3), .val (.int p4), .val (.ref (own_f1 p4 s_DataComponent_CharacterSet_N s_DataComponent_CharacterSet_X s_DataComponent_CharacterSet_Y s_DataComponent_CharacterSet_Z)), .val (.int (own_v0_9 p3)), .val (.int (own_v0_22 p3)), .val (.int (own_v0_50_L7 p1 p3)), .val (.int (own_f2 (1 : Int32) (p1 &&& (2147483647 : Int32)))), .val (.int (own_v0_50_L9 p1 p3)), .unset] [(.ref b12)]))
    refine own_go (fun _ => XS.dup X12.here hx rfl (hb hby at_121) rfl rfl) ?_
    show own_Go p.tables e below _ (T12.setTop (mkF m 122 #[.val (.int p1), .val (.int p2), .val (.int p3), .val (.int p4), .val (.ref (own_f1 p4 s_DataComponent_CharacterSet_N s_DataComponent_CharacterSet_X s_DataComponent_CharacterSet_Y s_DataComponent_CharacterSet_Z)), .val (.int (own_v0_9 p3)), .val (.int (own_v0_22 p3)), .val (.int (own_v0_50_L7 p1 p3)), .val (.int (own_f2 (1 : Int32) (p1 &&& (2147483647 : Int32)))), .val (.int (own_v0_50_L9 p1 p3)), .unset] [(.ref b12), (.ref b12)]))
    refine own_go (fun _ => XS.aload X12.here hx rfl (hb hby at_122) rfl rfl) ?_
    show own_Go p.tables e below _ (T12.setTop (mkF m 124 #[.val (.int p1), .val (.int p2), .val (.int p3), .val (.int p4), .val (.ref (own_f1 p4 s_DataComponent_CharacterSet_N s_DataComponent_CharacterSet_X s_DataComponent_CharacterSet_Y s_DataComponent_CharacterSet_Z)), .val (.int (own_v0_9 p3)), .val (.int (own_v0_22 p3)), .val (.int (own_v0_50_L7 p1 p3)), .val (.int (own_f2 (1 : Int32) (p1 &&& (2147483647 : Int32)))), .val (.int (own_v0_50_L9 p1 p3)), .unset] [(.ref (own_f1 p4 s_DataComponent_CharacterSet_N s_DataComponent_CharacterSet_X s_DataComponent_CharacterSet_Y s_DataComponent_CharacterSet_Z)), (.ref b12), (.ref b12)]))
    refine own_go (fun _ => XS.iload X12.here hx rfl (hb hby at_124) rfl) ?_
    show own_Go p.tables e below _ (T12.setTop (mkF m 126 #[.val (.int p1), .val (.int p2), .val (.int p3), .val (.int p4), .val (.ref (own_f1 p4 s_DataComponent_CharacterSet_N s_DataComponent_CharacterSet_X s_DataComponent_CharacterSet_Y s_DataComponent_CharacterSet_Z)), .val (.int (own_v0_9 p3)), .val (.int (own_v0_22 p3)), .val (.int (own_v0_50_L7 p1 p3)), .val (.int (own_f2 (1 : Int32) (p1 &&& (2147483647 : Int32)))), .val (.int (own_v0_50_L9 p1 p3)), .unset] [(.int (own_v0_50_L7 p1 p3)), (.ref (own_f1 p4 s_DataComponent_CharacterSet_N s_DataComponent_CharacterSet_X s_DataComponent_CharacterSet_Y s_DataComponent_CharacterSet_Z)), (.ref b12), (.ref b12)]))
    refine own_go (fun _ => XS.iload X12.here hx rfl (hb hby at_126) rfl) ?_
    show own_Go p.tables e below _ (T12.setTop (mkF m 128 #[.val (.int p1), .val (.int p2), .val (.int p3), .val (.int p4), .val (.ref (own_f1 p4 s_DataComponent_CharacterSet_N s_DataComponent_CharacterSet_X s_DataComponent_CharacterSet_Y s_DataComponent_CharacterSet_Z)), .val (.int (own_v0_9 p3)), .val (.int (own_v0_22 p3)), .val (.int (own_v0_50_L7 p1 p3)), .val (.int (own_f2 (1 : Int32) (p1 &&& (2147483647 : Int32)))), .val (.int (own_v0_50_L9 p1 p3)), .unset] [(.int (own_f2 (1 : Int32) (p1 &&& (2147483647 : Int32)))), (.int (own_v0_50_L7 p1 p3)), (.ref (own_f1 p4 s_DataComponent_CharacterSet_N s_DataComponent_CharacterSet_X s_DataComponent_CharacterSet_Y s_DataComponent_CharacterSet_Z)), (.ref b12), (.ref b12)]))
    refine own_go (fun _ => XS.iload X12.here hx rfl (hb hby at_128) rfl) ?_
    show own_Go p.tables e below _ (T12.setTop (mkF m 130 #[.val (.int p1), .val (.int p2), .val (.int p3), .val (.int p4), .val (.ref (own_f1 p4 s_DataComponent_CharacterSet_N s_DataComponent_CharacterSet_X s_DataComponent_CharacterSet_Y s_DataComponent_CharacterSet_Z)), .val (.int (own_v0_9 p3)), .val (.int (own_v0_22 p3)), .val (.int (own_v0_50_L7 p1 p3)), .val (.int (own_f2 (1 : Int32) (p1 &&& (2147483647 : Int32)))), .val (.int (own_v0_50_L9 p1 p3)), .unset] [(.int (own_v0_9 p3)), (.int (own_f2 (1 : Int32) (p1 &&& (2147483647 : Int32)))), (.int (own_v0_50_L7 p1 p3)), (.ref (own_f1 p4 s_DataComponent_CharacterSet_N s_DataComponent_CharacterSet_X s_DataComponent_CharacterSet_Y s_DataComponent_CharacterSet_Z)), (.ref b12), (.ref b12)]))
    obtain ⟨T13, h13, X13, e13, E13, A13, D13, -, st13⟩ := newO X12 hx hZ hown (hw _ (List.mem_of_getElem? (i := 15) rfl)) (hw _ (List.mem_of_getElem? (i := 16) rfl)) (hw _ (List.mem_of_getElem? (i := 17) rfl)) e12 (g := (mkF m 130 #[.val (.int p1), .val (.int p2), .val (.int p3), .val (.int p4), .val (.ref (own_f1 p4 s_DataComponent_CharacterSet_N s_DataComponent_CharacterSet_X s_DataComponent_CharacterSet_Y s_DataComponent_CharacterSet_Z)), .val (.int (own_v0_9 p3)), .val (.int (own_v0_22 p3)), .val (.int (own_v0_50_L7 p1 p3)), .val (.int (own_f2 (1 : Int32) (p1 &&& (2147483647 : Int32)))), .val (.int (own_v0_50_L9 p1 p3)), .unset] [(.int (own_v0_9 p3)), (.int (own_f2 (1 : Int32) (p1 &&& (2147483647 : Int32)))), (.int (own_v0_50_L7 p1 p3)), (.ref (own_f1 p4 s_DataComponent_CharacterSet_N s_DataComponent_CharacterSet_X s_DataComponent_CharacterSet_Y s_DataComponent_CharacterSet_Z)), (.ref b12), (.ref b12)])) rfl (hb hby at_130) (by decide) (by decide)
    obtain ⟨b13, g13⟩ : ∃ z, z = h12.size := ⟨_, rfl⟩
    rw [← g13] at A13 D13 st13
    refine own_go st13 ?_
    have g_b13 : n0 ≤ b13 := Nat.le_trans (Nat.le_trans Z0 E12.1) (Nat.le_of_eq g13.symm)
    have sz_b13 : h0.size ≤ b13 := (Nat.le_trans K12.1 (Nat.le_of_eq g13.symm))
    have K13 : Keep h0 h13 [] := K12.ext E13
    have F_modCount_b13 : Fld Z h13 b13 "java/util/AbstractList" "modCount" "I" (.int (0 : Int32)) := D13 (Or.inl (hw _ (List.mem_of_getElem? (i := 37) rfl))) (ty := .int) (by decide)
    have F_elementData_b13 : Fld Z h13 b13 "java/util/ArrayList" "elementData" "[Ljava/lang/Object;" .null := D13 (Or.inl (hw _ (List.mem_of_getElem? (i := 40) rfl))) (ty := (.array (.object "java/lang/Object"))) (by decide)
    show own_Go p.tables e below _ (T13.setTop (mkF m 133 #[.val (.int p1), .val (.int p2), .val (.int p3), .val (.int p4), .val (.ref (own_f1 p4 s_DataComponent_CharacterSet_N s_DataComponent_CharacterSet_X s_DataComponent_CharacterSet_Y s_DataComponent_CharacterSet_Z)), .val (.int (own_v0_9 p3)), .val (.int (own_v0_22 p3)), .val (.int (own_v0_50_L7 p1 p3)), .val (.int (own_f2 (1 : Int32) (p1 &&& (2147483647 : Int32)))), .val (.int (own_v0_50_L9 p1 p3)), .unset] [(.ref b13), (.int (own_v0_9 p3)), (.int (own_f2 (1 : Int32) (p1 &&& (2147483647 : Int32)))), (.int (own_v0_50_L7 p1 p3)), (.ref (own_f1 p4 s_DataComponent_CharacterSet_N s_DataComponent_CharacterSet_X s_DataComponent_CharacterSet_Y s_DataComponent_CharacterSet_Z)), (.ref b12), (.ref b12)]))
    refine own_go (fun _ => XS.dup X13.here hx rfl (hb hby at_133) rfl rfl) ?_
    show own_Go p.tables e below _ (T13.setTop (mkF m 134 #[.val (.int p1), .val (.int p2), .val (.int p3), .val (.int p4), .val (.ref (own_f1 p4 s_DataComponent_CharacterSet_N s_DataComponent_CharacterSet_X s_DataComponent_CharacterSet_Y s_DataComponent_CharacterSet_Z)), .val (.int (own_v0_9 p3)), .val (.int (own_v0_22 p3)), .val (.int (own_v0_50_L7 p1 p3)), .val (.int (own_f2 (1 : Int32) (p1 &&& (2147483647 : Int32)))), .val (.int (own_v0_50_L9 p1 p3)), .unset] [(.ref b13), (.ref b13), (.int (own_v0_9 p3)), (.int (own_f2 (1 : Int32) (p1 &&& (2147483647 : Int32)))), (.int (own_v0_50_L7 p1 p3)), (.ref (own_f1 p4 s_DataComponent_CharacterSet_N s_DataComponent_CharacterSet_X s_DataComponent_CharacterSet_Y s_DataComponent_CharacterSet_Z)), (.ref b12), (.ref b12)]))
    obtain ⟨_, _, ⟨T14, L14, k14, n14⟩, -, X14, ⟨Lc14, hQ14, l14, y14, z14⟩, st14⟩ := X13.specialBack hx (y := (⟨"java/util/ArrayList", "<init>", "()V"⟩ : MethodName)) rfl hown (mvT hZ (hw _ (List.mem_of_getElem? (i := 18) rfl))) (mvT hZ (hw _ (List.mem_of_getElem? (i := 19) rfl))) (mvT hZ (hw _ (List.mem_of_getElem? (i := 20) rfl))) (by decide) (backOf (W := 7) (rm3 l Z a0 hw [] b13 .null (.int (0 : Int32)) s_ArrayList_DEFAULTCAPACITY_EMPTY_ELEMENTDATA h13 n0 (Nat.le_trans (Nat.le_trans Z0 E12.1) E13.1) A13 F_elementData_b13 F_modCount_b13 g_b13 S_ArrayList_DEFAULTCAPACITY_EMPTY_ELEMENTDATA ((O0.ext E12).ext E13)) hZ (hw _ (List.mem_of_getElem? (i := 20) rfl)) (hw _ (List.mem_of_getElem? (i := 17) rfl)) (by decide) (by decide)) (g := (mkF m 134 #[.val (.int p1), .val (.int p2), .val (.int p3), .val (.int p4), .val (.ref (own_f1 p4 s_DataComponent_CharacterSet_N s_DataComponent_CharacterSet_X s_DataComponent_CharacterSet_Y s_DataComponent_CharacterSet_Z)), .val (.int (own_v0_9 p3)), .val (.int (own_v0_22 p3)), .val (.int (own_v0_50_L7 p1 p3)), .val (.int (own_f2 (1 : Int32) (p1 &&& (2147483647 : Int32)))), .val (.int (own_v0_50_L9 p1 p3)), .unset] [(.ref b13), (.ref b13), (.int (own_v0_9 p3)), (.int (own_f2 (1 : Int32) (p1 &&& (2147483647 : Int32)))), (.int (own_v0_50_L7 p1 p3)), (.ref (own_f1 p4 s_DataComponent_CharacterSet_N s_DataComponent_CharacterSet_X s_DataComponent_CharacterSet_Y s_DataComponent_CharacterSet_Z)), (.ref b12), (.ref b12)])) rfl (by rw [hml]; rfl) (Steps.refl _) (a := b13) (argsL := []) (rest := [(.ref b13), (.int (own_v0_9 p3)), (.int (own_f2 (1 : Int32) (p1 &&& (2147483647 : Int32)))), (.int (own_v0_50_L7 p1 p3)), (.ref (own_f1 p4 s_DataComponent_CharacterSet_N s_DataComponent_CharacterSet_X s_DataComponent_CharacterSet_Y s_DataComponent_CharacterSet_Z)), (.ref b12), (.ref b12)]) (lenOf pd_2 rfl) rfl (by show 2 * 0 + _ ≤ _; exact Nat.le_of_eq rfl) (hb hby at_134) (fun _ _ => ⟨rfl, e13, (by decide : 2 + 0 ≤ _), (by decide : 9 + 0 ≤ _)⟩)
    dsimp only [Pt.U, Pt.locs, Pt.cells, Pt.slots] at X14 l14 y14 z14 st14 hQ14
    subst l14 y14 z14
    obtain ⟨rfl, N14q, Kc14, F14_0, F14_1, F14_2⟩ := hQ14
    have N14 := Fr.app N9 N14q
    refine own_via st14 ?_
    have K14 : Keep h0 T14.heap [] := K13.trans Kc14 (allS (Or.inr sz_b13) all0)
    show own_Go p.tables e below _ (T14.setTop (mkF m 137 #[.val (.int p1), .val (.int p2), .val (.int p3), .val (.int p4), .val (.ref (own_f1 p4 s_DataComponent_CharacterSet_N s_DataComponent_CharacterSet_X s_DataComponent_CharacterSet_Y s_DataComponent_CharacterSet_Z)), .val (.int (own_v0_9 p3)), .val (.int (own_v0_22 p3)), .val (.int (own_v0_50_L7 p1 p3)), .val (.int (own_f2 (1 : Int32) (p1 &&& (2147483647 : Int32)))), .val (.int (own_v0_50_L9 p1 p3)), .unset] [(.ref b13), (.int (own_v0_9 p3)), (.int (own_f2 (1 : Int32) (p1 &&& (2147483647 : Int32)))), (.int (own_v0_50_L7 p1 p3)), (.ref (own_f1 p4 s_DataComponent_CharacterSet_N s_DataComponent_CharacterSet_X s_DataComponent_CharacterSet_Y s_DataComponent_CharacterSet_Z)), (.ref b12), (.ref b12)]))
    obtain ⟨T15, h15, X15, e15, E15, A15, D15, -, st15⟩ := newO X14 hx hZ hown (hw _ (List.mem_of_getElem? (i := 15) rfl)) (hw _ (List.mem_of_getElem? (i := 16) rfl)) (hw _ (List.mem_of_getElem? (i := 17) rfl)) rfl (g := (mkF m 137 #[.val (.int p1), .val (.int p2), .val (.int p3), .val (.int p4), .val (.ref (own_f1 p4 s_DataComponent_CharacterSet_N s_DataComponent_CharacterSet_X s_DataComponent_CharacterSet_Y s_DataComponent_CharacterSet_Z)), .val (.int (own_v0_9 p3)), .val (.int (own_v0_22 p3)), .val (.int (own_v0_50_L7 p1 p3)), .val (.int (own_f2 (1 : Int32) (p1 &&& (2147483647 : Int32)))), .val (.int (own_v0_50_L9 p1 p3)), .unset] [(.ref b13), (.int (own_v0_9 p3)), (.int (own_f2 (1 : Int32) (p1 &&& (2147483647 : Int32)))), (.int (own_v0_50_L7 p1 p3)), (.ref (own_f1 p4 s_DataComponent_CharacterSet_N s_DataComponent_CharacterSet_X s_DataComponent_CharacterSet_Y s_DataComponent_CharacterSet_Z)), (.ref b12), (.ref b12)])) rfl (hb hby at_137) (by decide) (by decide)
    obtain ⟨b15, g15⟩ : ∃ z, z = T14.heap.size := ⟨_, rfl⟩
    rw [← g15] at A15 D15 st15
    refine own_go st15 ?_
    have g_b15 : n0 ≤ b15 := Nat.le_trans (Nat.le_trans (Nat.le_trans (Nat.le_trans Z0 E12.1) E13.1) Kc14.1) (Nat.le_of_eq g15.symm)
    have sz_b15 : h0.size ≤ b15 := (Nat.le_trans K14.1 (Nat.le_of_eq g15.symm))
    have K15 : Keep h0 h15 [] := K14.ext E15
    have F_modCount_b15 : Fld Z h15 b15 "java/util/AbstractList" "modCount" "I" (.int (0 : Int32)) := D15 (Or.inl (hw _ (List.mem_of_getElem? (i := 37) rfl))) (ty := .int) (by decide)
    have F_elementData_b15 : Fld Z h15 b15 "java/util/ArrayList" "elementData" "[Ljava/lang/Object;" .null := D15 (Or.inl (hw _ (List.mem_of_getElem? (i := 40) rfl))) (ty := (.array (.object "java/lang/Object"))) (by decide)
    show own_Go p.tables e below _ (T15.setTop (mkF m 140 #[.val (.int p1), .val (.int p2), .val (.int p3), .val (.int p4), .val (.ref (own_f1 p4 s_DataComponent_CharacterSet_N s_DataComponent_CharacterSet_X s_DataComponent_CharacterSet_Y s_DataComponent_CharacterSet_Z)), .val (.int (own_v0_9 p3)), .val (.int (own_v0_22 p3)), .val (.int (own_v0_50_L7 p1 p3)), .val (.int (own_f2 (1 : Int32) (p1 &&& (2147483647 : Int32)))), .val (.int (own_v0_50_L9 p1 p3)), .unset] [(.ref b15), (.ref b13), (.int (own_v0_9 p3)), (.int (own_f2 (1 : Int32) (p1 &&& (2147483647 : Int32)))), (.int (own_v0_50_L7 p1 p3)), (.ref (own_f1 p4 s_DataComponent_CharacterSet_N s_DataComponent_CharacterSet_X s_DataComponent_CharacterSet_Y s_DataComponent_CharacterSet_Z)), (.ref b12), (.ref b12)]))
    refine own_go (fun _ => XS.dup X15.here hx rfl (hb hby at_140) rfl rfl) ?_
    show own_Go p.tables e below _ (T15.setTop (mkF m 141 #[.val (.int p1), .val (.int p2), .val (.int p3), .val (.int p4), .val (.ref (own_f1 p4 s_DataComponent_CharacterSet_N s_DataComponent_CharacterSet_X s_DataComponent_CharacterSet_Y s_DataComponent_CharacterSet_Z)), .val (.int (own_v0_9 p3)), .val (.int (own_v0_22 p3)), .val (.int (own_v0_50_L7 p1 p3)), .val (.int (own_f2 (1 : Int32) (p1 &&& (2147483647 : Int32)))), .val (.int (own_v0_50_L9 p1 p3)), .unset] [(.ref b15), (.ref b15), (.ref b13), (.int (own_v0_9 p3)), (.int (own_f2 (1 : Int32) (p1 &&& (2147483647 : Int32)))), (.int (own_v0_50_L7 p1 p3)), (.ref (own_f1 p4 s_DataComponent_CharacterSet_N s_DataComponent_CharacterSet_X s_DataComponent_CharacterSet_Y s_DataComponent_CharacterSet_Z)), (.ref b12), (.ref b12)]))
    obtain ⟨_, _, ⟨T16, L16, k16, n16⟩, -, X16, ⟨Lc16, hQ16, l16, y16, z16⟩, st16⟩ := X15.specialBack hx (y := (⟨"java/util/ArrayList", "<init>", "()V"⟩ : MethodName)) rfl hown (mvT hZ (hw _ (List.mem_of_getElem? (i := 18) rfl))) (mvT hZ (hw _ (List.mem_of_getElem? (i := 19) rfl))) (mvT hZ (hw _ (List.mem_of_getElem? (i := 20) rfl))) (by decide) (backOf (W := 8) (rm3 l Z a0 hw [] b15 .null (.int (0 : Int32)) s_ArrayList_DEFAULTCAPACITY_EMPTY_ELEMENTDATA h15 n0 (Nat.le_trans (Nat.le_trans (Nat.le_trans (Nat.le_trans Z0 E12.1) E13.1) Kc14.1) E15.1) A15 F_elementData_b15 F_modCount_b15 g_b15 S_ArrayList_DEFAULTCAPACITY_EMPTY_ELEMENTDATA ((((O0.ext E12).ext E13).keep Kc14 (allS g_b13 all0)).ext E15)) hZ (hw _ (List.mem_of_getElem? (i := 20) rfl)) (hw _ (List.mem_of_getElem? (i := 17) rfl)) (by decide) (by decide)) (g := (mkF m 141 #[.val (.int p1), .val (.int p2), .val (.int p3), .val (.int p4), .val (.ref (own_f1 p4 s_DataComponent_CharacterSet_N s_DataComponent_CharacterSet_X s_DataComponent_CharacterSet_Y s_DataComponent_CharacterSet_Z)), .val (.int (own_v0_9 p3)), .val (.int (own_v0_22 p3)), .val (.int (own_v0_50_L7 p1 p3)), .val (.int (own_f2 (1 : Int32) (p1 &&& (2147483647 : Int32)))), .val (.int (own_v0_50_L9 p1 p3)), .unset] [(.ref b15), (.ref b15), (.ref b13), (.int (own_v0_9 p3)), (.int (own_f2 (1 : Int32) (p1 &&& (2147483647 : Int32)))), (.int (own_v0_50_L7 p1 p3)), (.ref (own_f1 p4 s_DataComponent_CharacterSet_N s_DataComponent_CharacterSet_X s_DataComponent_CharacterSet_Y s_DataComponent_CharacterSet_Z)), (.ref b12), (.ref b12)])) rfl (by rw [hml]; rfl) (Steps.refl _) (a := b15) (argsL := []) (rest := [(.ref b15), (.ref b13), (.int (own_v0_9 p3)), (.int (own_f2 (1 : Int32) (p1 &&& (2147483647 : Int32)))), (.int (own_v0_50_L7 p1 p3)), (.ref (own_f1 p4 s_DataComponent_CharacterSet_N s_DataComponent_CharacterSet_X s_DataComponent_CharacterSet_Y s_DataComponent_CharacterSet_Z)), (.ref b12), (.ref b12)]) (lenOf pd_2 rfl) rfl (by show 2 * 0 + _ ≤ _; exact Nat.le_of_eq rfl) (hb hby at_141) (fun _ _ => ⟨rfl, e15, (by decide : 3 + 0 ≤ _), (by decide : 12 + 0 ≤ _)⟩)
    dsimp only [Pt.U, Pt.locs, Pt.cells, Pt.slots] at X16 l16 y16 z16 st16 hQ16
    subst l16 y16 z16
    obtain ⟨rfl, N16q, Kc16, F16_0, F16_1, F16_2⟩ := hQ16
    have N16 := Fr.app N14 N16q
    refine own_via st16 ?_
    have K16 : Keep h0 T16.heap [] := K15.trans Kc16 (allS (Or.inr sz_b15) all0)
    show own_Go p.tables e below _ (T16.setTop (mkF m 144 #[.val (.int p1), .val (.int p2), .val (.int p3), .val (.int p4), .val (.ref (own_f1 p4 s_DataComponent_CharacterSet_N s_DataComponent_CharacterSet_X s_DataComponent_CharacterSet_Y s_DataComponent_CharacterSet_Z)), .val (.int (own_v0_9 p3)), .val (.int (own_v0_22 p3)), .val (.int (own_v0_50_L7 p1 p3)), .val (.int (own_f2 (1 : Int32) (p1 &&& (2147483647 : Int32)))), .val (.int (own_v0_50_L9 p1 p3)), .unset] [(.ref b15), (.ref b13), (.int (own_v0_9 p3)), (.int (own_f2 (1 : Int32) (p1 &&& (2147483647 : Int32)))), (.int (own_v0_50_L7 p1 p3)), (.ref (own_f1 p4 s_DataComponent_CharacterSet_N s_DataComponent_CharacterSet_X s_DataComponent_CharacterSet_Y s_DataComponent_CharacterSet_Z)), (.ref b12), (.ref b12)]))
    obtain ⟨_, _, ⟨T17, L17, k17, n17⟩, -, X17, ⟨Lc17, hQ17, l17, y17, z17⟩, st17⟩ := X16.specialBack hx (y := (⟨"com/example/barwright/barwright/DataComponent", "<init>", "(Lcom/example/barwright/barwright/DataComponent$CharacterSet;IIZLjava/util/List;Ljava/util/List;)V"⟩ : MethodName)) rfl hown (mvT hZ (hw _ (List.mem_of_getElem? (i := 41) rfl))) (mvT hZ (hw _ (List.mem_of_getElem? (i := 42) rfl))) (mvT hZ (hw _ (List.mem_of_getElem? (i := 43) rfl))) (by decide) (backOf (W := 1) (rm7 l Z a0 hw [] b12 (own_f1 p4 s_DataComponent_CharacterSet_N s_DataComponent_CharacterSet_X s_DataComponent_CharacterSet_Y s_DataComponent_CharacterSet_Z) (own_v0_50_L7 p1 p3) (own_f2 (1 : Int32) (p1 &&& (2147483647 : Int32))) (own_v0_9 p3) b13 b15 .null (.int (0 : Int32)) (.int (0 : Int32)) (.int (0 : Int32)) .null .null T16.heap n0 (Nat.le_trans (Nat.le_trans (Nat.le_trans (Nat.le_trans (Nat.le_trans Z0 E12.1) E13.1) Kc14.1) E15.1) Kc16.1) ((((A12.ext E13).keep Kc14).ext E15).keep Kc16) ((((F_characters_b12.ext E13).keep Kc14 (ninS (Nat.ne_of_lt (Nat.lt_of_lt_of_le A12.lt (Nat.le_of_eq g13.symm))) nin0)).ext E15).keep Kc16 (ninS (Nat.ne_of_lt (Nat.lt_of_lt_of_le ((A12.ext E13).keep Kc14).lt (Nat.le_of_eq g15.symm))) nin0)) g_b12 ((((F_shortest_b12.ext E13).keep Kc14 (ninS (Nat.ne_of_lt (Nat.lt_of_lt_of_le A12.lt (Nat.le_of_eq g13.symm))) nin0)).ext E15).keep Kc16 (ninS (Nat.ne_of_lt (Nat.lt_of_lt_of_le ((A12.ext E13).keep Kc14).lt (Nat.le_of_eq g15.symm))) nin0)) ((((F_longest_b12.ext E13).keep Kc14 (ninS (Nat.ne_of_lt (Nat.lt_of_lt_of_le A12.lt (Nat.le_of_eq g13.symm))) nin0)).ext E15).keep Kc16 (ninS (Nat.ne_of_lt (Nat.lt_of_lt_of_le ((A12.ext E13).keep Kc14).lt (Nat.le_of_eq g15.symm))) nin0)) ((((F_optional_b12.ext E13).keep Kc14 (ninS (Nat.ne_of_lt (Nat.lt_of_lt_of_le A12.lt (Nat.le_of_eq g13.symm))) nin0)).ext E15).keep Kc16 (ninS (Nat.ne_of_lt (Nat.lt_of_lt_of_le ((A12.ext E13).keep Kc14).lt (Nat.le_of_eq g15.symm))) nin0)) ((((F_linters_b12.ext E13).keep Kc14 (ninS (Nat.ne_of_lt (Nat.lt_of_lt_of_le A12.lt (Nat.le_of_eq g13.symm))) nin0)).ext E15).keep Kc16 (ninS (Nat.ne_of_lt (Nat.lt_of_lt_of_le ((A12.ext E13).keep Kc14).lt (Nat.le_of_eq g15.symm))) nin0)) ((((F_checked_b12.ext E13).keep Kc14 (ninS (Nat.ne_of_lt (Nat.lt_of_lt_of_le A12.lt (Nat.le_of_eq g13.symm))) nin0)).ext E15).keep Kc16 (ninS (Nat.ne_of_lt (Nat.lt_of_lt_of_le ((A12.ext E13).keep Kc14).lt (Nat.le_of_eq g15.symm))) nin0))) hZ (hw _ (List.mem_of_getElem? (i := 43) rfl)) (hw _ (List.mem_of_getElem? (i := 14) rfl)) (by decide) (by decide)) (g := (mkF m 144 #[.val (.int p1), .val (.int p2), .val (.int p3), .val (.int p4), .val (.ref (own_f1 p4 s_DataComponent_CharacterSet_N s_DataComponent_CharacterSet_X s_DataComponent_CharacterSet_Y s_DataComponent_CharacterSet_Z)), .val (.int (own_v0_9 p3)), .val (.int (own_v0_22 p3)), .val (.int (own_v0_50_L7 p1 p3)), .val (.int (own_f2 (1 : Int32) (p1 &&& (2147483647 : Int32)))), .val (.int (own_v0_50_L9 p1 p3)), .unset] [(.ref b15), (.ref b13), (.int (own_v0_9 p3)), (.int (own_f2 (1 : Int32) (p1 &&& (2147483647 : Int32)))), (.int (own_v0_50_L7 p1 p3)), (.ref (own_f1 p4 s_DataComponent_CharacterSet_N s_DataComponent_CharacterSet_X s_DataComponent_CharacterSet_Y s_DataComponent_CharacterSet_Z)), (.ref b12), (.ref b12)])) rfl (by rw [hml]; rfl) (Steps.refl _) (a := b12) (argsL := [(.ref (own_f1 p4 s_DataComponent_CharacterSet_N s_DataComponent_CharacterSet_X s_DataComponent_CharacterSet_Y s_DataComponent_CharacterSet_Z)), (.int (own_v0_50_L7 p1 p3)), (.int (own_f2 (1 : Int32) (p1 &&& (2147483647 : Int32)))), (.int (own_v0_9 p3)), (.ref b13), (.ref b15)]) (rest := [(.ref b12)]) (lenOf pd_3 rfl) rfl (by show 2 * 0 + _ ≤ _; exact Nat.le_of_eq rfl) (hb hby at_144) (fun _ _ => ⟨rfl, rfl, (by decide : 3 + 0 ≤ _), (by decide : 12 + 0 ≤ _)⟩)
    dsimp only [Pt.U, Pt.locs, Pt.cells, Pt.slots] at X17 l17 y17 z17 st17 hQ17
    subst l17 y17 z17
    obtain ⟨rfl, N17q, Kc17, F17_0, F17_1, F17_2, F17_3, F17_4, F17_5, F17_6⟩ := hQ17
    have N17 := Fr.app N16 N17q
    refine own_via st17 ?_
    have K17 : Keep h0 T17.heap [] := K16.trans Kc17 (allS (Or.inr sz_b12) all0)
    show own_Go p.tables e below _ (T17.setTop (mkF m 147 #[.val (.int p1), .val (.int p2), .val (.int p3), .val (.int p4), .val (.ref (own_f1 p4 s_DataComponent_CharacterSet_N s_DataComponent_CharacterSet_X s_DataComponent_CharacterSet_Y s_DataComponent_CharacterSet_Z)), .val (.int (own_v0_9 p3)), .val (.int (own_v0_22 p3)), .val (.int (own_v0_50_L7 p1 p3)), .val (.int (own_f2 (1 : Int32) (p1 &&& (2147483647 : Int32)))), .val (.int (own_v0_50_L9 p1 p3)), .unset] [(.ref b12)]))
    refine own_go (fun _ => XS.astore X17.here hx rfl (hb hby at_147) rfl rfl (l' := #[.val (.int p1), .val (.int p2), .val (.int p3), .val (.int p4), .val (.ref (own_f1 p4 s_DataComponent_CharacterSet_N s_DataComponent_CharacterSet_X s_DataComponent_CharacterSet_Y s_DataComponent_CharacterSet_Z)), .val (.int (own_v0_9 p3)), .val (.int (own_v0_22 p3)), .val (.int (own_v0_50_L7 p1 p3)), .val (.int (own_f2 (1 : Int32) (p1 &&& (2147483647 : Int32)))), .val (.int (own_v0_50_L9 p1 p3)), .val (.ref b12)]) rfl) ?_
    show own_Go p.tables e below _ (T17.setTop (mkF m 149 #[.val (.int p1), .val (.int p2), .val (.int p3), .val (.int p4), .val (.ref (own_f1 p4 s_DataComponent_CharacterSet_N s_DataComponent_CharacterSet_X s_DataComponent_CharacterSet_Y s_DataComponent_CharacterSet_Z)), .val (.int (own_v0_9 p3)), .val (.int (own_v0_22 p3)), .val (.int (own_v0_50_L7 p1 p3)), .val (.int (own_f2 (1 : Int32) (p1 &&& (2147483647 : Int32)))), .val (.int (own_v0_50_L9 p1 p3)), .val (.ref b12)] []))
    refine own_go (fun _ => XS.aload X17.here hx rfl (hb hby at_149) rfl rfl) ?_
    show own_Go p.tables e below _ (T17.setTop (mkF m 151 #[.val (.int p1), .val (.int p2), .val (.int p3), .val (.int p4), .val (.ref (own_f1 p4 s_DataComponent_CharacterSet_N s_DataComponent_CharacterSet_X s_DataComponent_CharacterSet_Y s_DataComponent_CharacterSet_Z)), .val (.int (own_v0_9 p3)), .val (.int (own_v0_22 p3)), .val (.int (own_v0_50_L7 p1 p3)), .val (.int (own_f2 (1 : Int32) (p1 &&& (2147483647 : Int32)))), .val (.int (own_v0_50_L9 p1 p3)), .val (.ref b12)] [(.ref b12)]))
    obtain ⟨cq18, kq18, q18a, q18b, q18c⟩ := isOf hZ rfl F17_0
    obtain ⟨_, _, ⟨T18, L18, k18, n18⟩, -, X18, ⟨Lc18, hQ18, l18, y18, z18⟩, st18⟩ := X17.virtualBack hx (y := (⟨"com/example/barwright/barwright/DataComponent", "varies", "()Z"⟩ : MethodName)) (z := (⟨"com/example/barwright/barwright/DataComponent", "varies", "()Z"⟩ : MethodName)) hown (mvT hZ (hw _ (List.mem_of_getElem? (i := 62) rfl))) (mvT hZ (hw _ (List.mem_of_getElem? (i := 63) rfl))) (notFace_of_selects (args := #[]) (mvT hZ (hw _ (List.mem_of_getElem? (i := 65) rfl)))) (mvT hZ (hw _ (List.mem_of_getElem? (i := 65) rfl))) (mvT hZ (hw _ (List.mem_of_getElem? (i := 64) rfl))) (by decide) (backOf (W := 0) (rm9 l Z a0 hw [] b12 (own_v0_50_L7 p1 p3) (own_f2 (1 : Int32) (p1 &&& (2147483647 : Int32))) T17.heap n0 (Nat.le_trans (Nat.le_trans (Nat.le_trans (Nat.le_trans (Nat.le_trans (Nat.le_trans Z0 E12.1) E13.1) Kc14.1) E15.1) Kc16.1) Kc17.1) F17_2 F17_3) hZ (hw _ (List.mem_of_getElem? (i := 66) rfl)) (hw _ (List.mem_of_getElem? (i := 14) rfl)) (by decide) (by decide)) q18a q18c (g := (mkF m 151 #[.val (.int p1), .val (.int p2), .val (.int p3), .val (.int p4), .val (.ref (own_f1 p4 s_DataComponent_CharacterSet_N s_DataComponent_CharacterSet_X s_DataComponent_CharacterSet_Y s_DataComponent_CharacterSet_Z)), .val (.int (own_v0_9 p3)), .val (.int (own_v0_22 p3)), .val (.int (own_v0_50_L7 p1 p3)), .val (.int (own_f2 (1 : Int32) (p1 &&& (2147483647 : Int32)))), .val (.int (own_v0_50_L9 p1 p3)), .val (.ref b12)] [(.ref b12)])) rfl (by rw [hml]; rfl) (Steps.refl _) (argsL := []) (rest := []) (lenOf pd_4 rfl) rfl (by show 2 * 0 + _ ≤ _; exact Nat.le_of_eq rfl) (hb hby at_151) (fun _ _ => ⟨rfl, rfl, (by decide : 3 + 0 ≤ _), (by decide : 12 + 0 ≤ _)⟩)
    dsimp only [Pt.U, Pt.locs, Pt.cells, Pt.slots] at X18 l18 y18 z18 st18 hQ18
    subst l18 y18 z18
    obtain ⟨rfl, N18q, e18⟩ := hQ18
    have N18 := Fr.app N17 N18q
    refine own_via st18 ?_
    show own_Go p.tables e below _ (T18.setTop (mkF m 154 #[.val (.int p1), .val (.int p2), .val (.int p3), .val (.int p4), .val (.ref (own_f1 p4 s_DataComponent_CharacterSet_N s_DataComponent_CharacterSet_X s_DataComponent_CharacterSet_Y s_DataComponent_CharacterSet_Z)), .val (.int (own_v0_9 p3)), .val (.int (own_v0_22 p3)), .val (.int (own_v0_50_L7 p1 p3)), .val (.int (own_f2 (1 : Int32) (p1 &&& (2147483647 : Int32)))), .val (.int (own_v0_50_L9 p1 p3)), .val (.ref b12)] [(.int (own_f9 (own_v0_50_L7 p1 p3) (own_f2 (1 : Int32) (p1 &&& (2147483647 : Int32)))))]))
    refine own_go (fun _ => XS.iload X18.here hx rfl (hb hby at_154) rfl) ?_
    show own_Go p.tables e below _ (T18.setTop (mkF m 156 #[.val (.int p1), .val (.int p2), .val (.int p3), .val (.int p4), .val (.ref (own_f1 p4 s_DataComponent_CharacterSet_N s_DataComponent_CharacterSet_X s_DataComponent_CharacterSet_Y s_DataComponent_CharacterSet_Z)), .val (.int (own_v0_9 p3)), .val (.int (own_v0_22 p3)), .val (.int (own_v0_50_L7 p1 p3)), .val (.int (own_f2 (1 : Int32) (p1 &&& (2147483647 : Int32)))), .val (.int (own_v0_50_L9 p1 p3)), .val (.ref b12)] [(.int (own_v0_50_L9 p1 p3)), (.int (own_f9 (own_v0_50_L7 p1 p3) (own_f2 (1 : Int32) (p1 &&& (2147483647 : Int32)))))]))
    by_cases hc19_156 : (own_f9 (own_v0_50_L7 p1 p3) (own_f2 (1 : Int32) (p1 &&& (2147483647 : Int32)))) = (own_v0_50_L9 p1 p3)
    · skip
      refine own_go (fun _ => XS.icmpNo X18.here hx rfl (hb hby at_156) rfl (teq hc19_156).2) ?_
      show own_Go p.tables e below _ (T18.setTop (mkF m 159 #[.val (.int p1), .val (.int p2), .val (.int p3), .val (.int p4), .val (.ref (own_f1 p4 s_DataComponent_CharacterSet_N s_DataComponent_CharacterSet_X s_DataComponent_CharacterSet_Y s_DataComponent_CharacterSet_Z)), .val (.int (own_v0_9 p3)), .val (.int (own_v0_22 p3)), .val (.int (own_v0_50_L7 p1 p3)), .val (.int (own_f2 (1 : Int32) (p1 &&& (2147483647 : Int32)))), .val (.int (own_v0_50_L9 p1 p3)), .val (.ref b12)] []))
      refine own_go (fun _ => XS.iconst X18.here hx rfl (hb hby at_159)) ?_
      show own_Go p.tables e below _ (T18.setTop (mkF m 160 #[.val (.int p1), .val (.int p2), .val (.int p3), .val (.int p4), .val (.ref (own_f1 p4 s_DataComponent_CharacterSet_N s_DataComponent_CharacterSet_X s_DataComponent_CharacterSet_Y s_DataComponent_CharacterSet_Z)), .val (.int (own_v0_9 p3)), .val (.int (own_v0_22 p3)), .val (.int (own_v0_50_L7 p1 p3)), .val (.int (own_f2 (1 : Int32) (p1 &&& (2147483647 : Int32)))), .val (.int (own_v0_50_L9 p1 p3)), .val (.ref b12)] [(.int (1 : Int32))]))
      refine own_go (fun _ => XS.goto X18.here hx rfl (pc0 := 160) (pc' := 164) rfl (hb hby at_160) (by decide) (by decide)) ?_
      show own_Go p.tables e below _ (T18.setTop (mkF m 164 #[.val (.int p1), .val (.int p2), .val (.int p3), .val (.int p4), .val (.ref (own_f1 p4 s_DataComponent_CharacterSet_N s_DataComponent_CharacterSet_X s_DataComponent_CharacterSet_Y s_DataComponent_CharacterSet_Z)), .val (.int (own_v0_9 p3)), .val (.int (own_v0_22 p3)), .val (.int (own_v0_50_L7 p1 p3)), .val (.int (own_f2 (1 : Int32) (p1 &&& (2147483647 : Int32)))), .val (.int (own_v0_50_L9 p1 p3)), .val (.ref b12)] [(.int (1 : Int32))]))
      refine own_retN X18 Bd.notSynchronized hx (t := .boolean) Bd.returns (by simp) (hb hby at_164) (show Q0 Z p1 p2 p3 p4 s_DataComponent_CharacterSet_N s_DataComponent_CharacterSet_X s_DataComponent_CharacterSet_Y s_DataComponent_CharacterSet_Z s_ArrayList_DEFAULTCAPACITY_EMPTY_ELEMENTDATA h0 n0 _ T18.heap _ from by rw [e18]; exact ⟨(own_val ((if_pos hc8_35).trans ((if_pos hc19_156).trans rfl))), N18⟩) (by decide) (by decide)
    · skip
      refine own_go (fun _ => XS.icmpYes X18.here hx rfl (pc0 := 156) (pc' := 163) rfl (hb hby at_156) rfl (feq hc19_156).2 (by decide) (by decide)) ?_
      show own_Go p.tables e below _ (T18.setTop (mkF m 163 #[.val (.int p1), .val (.int p2), .val (.int p3), .val (.int p4), .val (.ref (own_f1 p4 s_DataComponent_CharacterSet_N s_DataComponent_CharacterSet_X s_DataComponent_CharacterSet_Y s_DataComponent_CharacterSet_Z)), .val (.int (own_v0_9 p3)), .val (.int (own_v0_22 p3)), .val (.int (own_v0_50_L7 p1 p3)), .val (.int (own_f2 (1 : Int32) (p1 &&& (2147483647 : Int32)))), .val (.int (own_v0_50_L9 p1 p3)), .val (.ref b12)] []))
      refine own_go (fun _ => XS.iconst X18.here hx rfl (hb hby at_163)) ?_
      show own_Go p.tables e below _ (T18.setTop (mkF m 164 #[.val (.int p1), .val (.int p2), .val (.int p3), .val (.int p4), .val (.ref (own_f1 p4 s_DataComponent_CharacterSet_N s_DataComponent_CharacterSet_X s_DataComponent_CharacterSet_Y s_DataComponent_CharacterSet_Z)), .val (.int (own_v0_9 p3)), .val (.int (own_v0_22 p3)), .val (.int (own_v0_50_L7 p1 p3)), .val (.int (own_f2 (1 : Int32) (p1 &&& (2147483647 : Int32)))), .val (.int (own_v0_50_L9 p1 p3)), .val (.ref b12)] [(.int (0 : Int32))]))
      refine own_retN X18 Bd.notSynchronized hx (t := .boolean) Bd.returns (by simp) (hb hby at_164) (show Q0 Z p1 p2 p3 p4 s_DataComponent_CharacterSet_N s_DataComponent_CharacterSet_X s_DataComponent_CharacterSet_Y s_DataComponent_CharacterSet_Z s_ArrayList_DEFAULTCAPACITY_EMPTY_ELEMENTDATA h0 n0 _ T18.heap _ from by rw [e18]; exact ⟨(own_val ((if_pos hc8_35).trans ((if_neg hc19_156).trans rfl))), N18⟩) (by decide) (by decide)
  · skip
    refine own_go (fun _ => XS.ifYes X5.here hx rfl (pc0 := 35) (pc' := 82) rfl (hb hby at_35) rfl ((if0 _ _).trans (feq hc8_35).2) (by decide) (by decide)) ?_
    show own_Go p.tables e below _ (T5.setTop (mkF m 82 #[.val (.int p1), .val (.int p2), .val (.int p3), .val (.int p4), .val (.ref (own_f1 p4 s_DataComponent_CharacterSet_N s_DataComponent_CharacterSet_X s_DataComponent_CharacterSet_Y s_DataComponent_CharacterSet_Z)), .val (.int (own_v0_9 p3)), .val (.int (own_v0_22 p3)), .unset, .unset, .unset, .unset] []))
    refine own_go (fun _ => XS.iloadN X5.here hx rfl (hb hby at_82) rfl) ?_
    show own_Go p.tables e below _ (T5.setTop (mkF m 83 #[.val (.int p1), .val (.int p2), .val (.int p3), .val (.int p4), .val (.ref (own_f1 p4 s_DataComponent_CharacterSet_N s_DataComponent_CharacterSet_X s_DataComponent_CharacterSet_Y s_DataComponent_CharacterSet_Z)), .val (.int (own_v0_9 p3)), .val (.int (own_v0_22 p3)), .unset, .unset, .unset, .unset] [(.int p1)]))
    refine own_go (fun _ => XS.istore X5.here hx rfl (hb hby at_83) rfl (l' := #[.val (.int p1), .val (.int p2), .val (.int p3), .val (.int p4), .val (.ref (own_f1 p4 s_DataComponent_CharacterSet_N s_DataComponent_CharacterSet_X s_DataComponent_CharacterSet_Y s_DataComponent_CharacterSet_Z)), .val (.int (own_v0_9 p3)), .val (.int (own_v0_22 p3)), .val (.int p1), .unset, .unset, .unset]) rfl) ?_
    show own_Go p.tables e below _ (T5.setTop (mkF m 85 #[.val (.int p1), .val (.int p2), .val (.int p3), .val (.int p4), .val (.ref (own_f1 p4 s_DataComponent_CharacterSet_N s_DataComponent_CharacterSet_X s_DataComponent_CharacterSet_Y s_DataComponent_CharacterSet_Z)), .val (.int (own_v0_9 p3)), .val (.int (own_v0_22 p3)), .val (.int p1), .unset, .unset, .unset] []))
    refine own_go (fun _ => XS.iload X5.here hx rfl (hb hby at_85) rfl) ?_
    refine own_go (S' := T5.setTop (mkF m 95 #[.val (.int p1), .val (.int p2), .val (.int p3), .val (.int p4), .val (.ref (own_f1 p4 s_DataComponent_CharacterSet_N s_DataComponent_CharacterSet_X s_DataComponent_CharacterSet_Y s_DataComponent_CharacterSet_Z)), .val (.int (own_v0_9 p3)), .val (.int (own_v0_22 p3)), .val (.int p1), .unset, .unset, .unset] [(.int (own_v0_87 p1 p2 p3))])) (fun t kt => ?_) ?_
    · skip
      show Steps p.tables e below (T5.setTop (mkF m 87 #[.val (.int p1), .val (.int p2), .val (.int p3), .val (.int p4), .val (.ref (own_f1 p4 s_DataComponent_CharacterSet_N s_DataComponent_CharacterSet_X s_DataComponent_CharacterSet_Y s_DataComponent_CharacterSet_Z)), .val (.int (own_v0_9 p3)), .val (.int (own_v0_22 p3)), .val (.int p1), .unset, .unset, .unset] [(.int (own_v0_22 p3))])) _
      by_cases hc20_87 : (own_v0_22 p3) = (0 : Int32)
      · skip
        refine XS.ifYes X5.here hx rfl (pc0 := 87) (pc' := 94) rfl (hb hby at_87) rfl ((if0 _ _).trans (teq hc20_87).1) (by decide) (by decide) ?_
        show Steps p.tables e below (T5.setTop (mkF m 94 #[.val (.int p1), .val (.int p2), .val (.int p3), .val (.int p4), .val (.ref (own_f1 p4 s_DataComponent_CharacterSet_N s_DataComponent_CharacterSet_X s_DataComponent_CharacterSet_Y s_DataComponent_CharacterSet_Z)), .val (.int (own_v0_9 p3)), .val (.int (own_v0_22 p3)), .val (.int p1), .unset, .unset, .unset] [])) _
        refine XS.iloadN X5.here hx rfl (hb hby at_94) rfl ?_
        show Steps p.tables e below (T5.setTop (mkF m 95 #[.val (.int p1), .val (.int p2), .val (.int p3), .val (.int p4), .val (.ref (own_f1 p4 s_DataComponent_CharacterSet_N s_DataComponent_CharacterSet_X s_DataComponent_CharacterSet_Y s_DataComponent_CharacterSet_Z)), .val (.int (own_v0_9 p3)), .val (.int (own_v0_22 p3)), .val (.int p1), .unset, .unset, .unset] [(.int p2)])) _
        rw [show (own_v0_87 p1 p2 p3) = p2 from ((if_pos hc20_87).trans rfl)] at kt
        exact kt
      · skip
        refine XS.ifNo X5.here hx rfl (hb hby at_87) rfl ((if0 _ _).trans (feq hc20_87).1) ?_
        show Steps p.tables e below (T5.setTop (mkF m 90 #[.val (.int p1), .val (.int p2), .val (.int p3), .val (.int p4), .val (.ref (own_f1 p4 s_DataComponent_CharacterSet_N s_DataComponent_CharacterSet_X s_DataComponent_CharacterSet_Y s_DataComponent_CharacterSet_Z)), .val (.int (own_v0_9 p3)), .val (.int (own_v0_22 p3)), .val (.int p1), .unset, .unset, .unset] [])) _
        refine XS.iloadN X5.here hx rfl (hb hby at_90) rfl ?_
        show Steps p.tables e below (T5.setTop (mkF m 91 #[.val (.int p1), .val (.int p2), .val (.int p3), .val (.int p4), .val (.ref (own_f1 p4 s_DataComponent_CharacterSet_N s_DataComponent_CharacterSet_X s_DataComponent_CharacterSet_Y s_DataComponent_CharacterSet_Z)), .val (.int (own_v0_9 p3)), .val (.int (own_v0_22 p3)), .val (.int p1), .unset, .unset, .unset] [(.int p1)])) _
        refine XS.goto X5.here hx rfl (pc0 := 91) (pc' := 95) rfl (hb hby at_91) (by decide) (by decide) ?_
        show Steps p.tables e below (T5.setTop (mkF m 95 #[.val (.int p1), .val (.int p2), .val (.int p3), .val (.int p4), .val (.ref (own_f1 p4 s_DataComponent_CharacterSet_N s_DataComponent_CharacterSet_X s_DataComponent_CharacterSet_Y s_DataComponent_CharacterSet_Z)), .val (.int (own_v0_9 p3)), .val (.int (own_v0_22 p3)), .val (.int p1), .unset, .unset, .unset] [(.int p1)])) _
        rw [show (own_v0_87 p1 p2 p3) = p1 from ((if_neg hc20_87).trans rfl)] at kt
        exact kt
    show own_Go p.tables e below _ (T5.setTop (mkF m 95 #[.val (.int p1), .val (.int p2), .val (.int p3), .val (.int p4), .val (.ref (own_f1 p4 s_DataComponent_CharacterSet_N s_DataComponent_CharacterSet_X s_DataComponent_CharacterSet_Y s_DataComponent_CharacterSet_Z)), .val (.int (own_v0_9 p3)), .val (.int (own_v0_22 p3)), .val (.int p1), .unset, .unset, .unset] [(.int (own_v0_87 p1 p2 p3))]))
    refine own_go (fun _ => XS.istore X5.here hx rfl (hb hby at_95) rfl (l' := #[.val (.int p1), .val (.int p2), .val (.int p3), .val (.int p4), .val (.ref (own_f1 p4 s_DataComponent_CharacterSet_N s_DataComponent_CharacterSet_X s_DataComponent_CharacterSet_Y s_DataComponent_CharacterSet_Z)), .val (.int (own_v0_9 p3)), .val (.int (own_v0_22 p3)), .val (.int p1), .val (.int (own_v0_87 p1 p2 p3)), .unset, .unset]) rfl) ?_
    show own_Go p.tables e below _ (T5.setTop (mkF m 97 #[.val (.int p1), .val (.int p2), .val (.int p3), .val (.int p4), .val (.ref (own_f1 p4 s_DataComponent_CharacterSet_N s_DataComponent_CharacterSet_X s_DataComponent_CharacterSet_Y s_DataComponent_CharacterSet_Z)), .val (.int (own_v0_9 p3)), .val (.int (own_v0_22 p3)), .val (.int p1), .val (.int (own_v0_87 p1 p2 p3)), .unset, .unset] []))
    refine own_go (fun _ => XS.iload X5.here hx rfl (hb hby at_97) rfl) ?_
    show own_Go p.tables e below _ (T5.setTop (mkF m 99 #[.val (.int p1), .val (.int p2), .val (.int p3), .val (.int p4), .val (.ref (own_f1 p4 s_DataComponent_CharacterSet_N s_DataComponent_CharacterSet_X s_DataComponent_CharacterSet_Y s_DataComponent_CharacterSet_Z)), .val (.int (own_v0_9 p3)), .val (.int (own_v0_22 p3)), .val (.int p1), .val (.int (own_v0_87 p1 p2 p3)), .unset, .unset] [(.int p1)]))
    refine own_go (fun _ => XS.iload X5.here hx rfl (hb hby at_99) rfl) ?_
    refine own_go (S' := T5.setTop (mkF m 116 #[.val (.int p1), .val (.int p2), .val (.int p3), .val (.int p4), .val (.ref (own_f1 p4 s_DataComponent_CharacterSet_N s_DataComponent_CharacterSet_X s_DataComponent_CharacterSet_Y s_DataComponent_CharacterSet_Z)), .val (.int (own_v0_9 p3)), .val (.int (own_v0_22 p3)), .val (.int p1), .val (.int (own_v0_87 p1 p2 p3)), .unset, .unset] [(.int (own_v0_101 p1 p2 p3))])) (fun t kt => ?_) ?_
    · skip
      show Steps p.tables e below (T5.setTop (mkF m 101 #[.val (.int p1), .val (.int p2), .val (.int p3), .val (.int p4), .val (.ref (own_f1 p4 s_DataComponent_CharacterSet_N s_DataComponent_CharacterSet_X s_DataComponent_CharacterSet_Y s_DataComponent_CharacterSet_Z)), .val (.int (own_v0_9 p3)), .val (.int (own_v0_22 p3)), .val (.int p1), .val (.int (own_v0_87 p1 p2 p3)), .unset, .unset] [(.int (own_v0_87 p1 p2 p3)), (.int p1)])) _
      by_cases hc21_101 : p1 < (own_v0_87 p1 p2 p3)
      · skip
        refine XS.icmpYes X5.here hx rfl (pc0 := 101) (pc' := 111) rfl (hb hby at_101) rfl (tlt hc21_101).1 (by decide) (by decide) ?_
        show Steps p.tables e below (T5.setTop (mkF m 111 #[.val (.int p1), .val (.int p2), .val (.int p3), .val (.int p4), .val (.ref (own_f1 p4 s_DataComponent_CharacterSet_N s_DataComponent_CharacterSet_X s_DataComponent_CharacterSet_Y s_DataComponent_CharacterSet_Z)), .val (.int (own_v0_9 p3)), .val (.int (own_v0_22 p3)), .val (.int p1), .val (.int (own_v0_87 p1 p2 p3)), .unset, .unset] [])) _
        refine XS.iconst X5.here hx rfl (hb hby at_111) ?_
        show Steps p.tables e below (T5.setTop (mkF m 112 #[.val (.int p1), .val (.int p2), .val (.int p3), .val (.int p4), .val (.ref (own_f1 p4 s_DataComponent_CharacterSet_N s_DataComponent_CharacterSet_X s_DataComponent_CharacterSet_Y s_DataComponent_CharacterSet_Z)), .val (.int (own_v0_9 p3)), .val (.int (own_v0_22 p3)), .val (.int p1), .val (.int (own_v0_87 p1 p2 p3)), .unset, .unset] [(.int (1 : Int32))])) _
        refine XS.goto X5.here hx rfl (pc0 := 112) (pc' := 116) rfl (hb hby at_112) (by decide) (by decide) ?_
        show Steps p.tables e below (T5.setTop (mkF m 116 #[.val (.int p1), .val (.int p2), .val (.int p3), .val (.int p4), .val (.ref (own_f1 p4 s_DataComponent_CharacterSet_N s_DataComponent_CharacterSet_X s_DataComponent_CharacterSet_Y s_DataComponent_CharacterSet_Z)), .val (.int (own_v0_9 p3)), .val (.int (own_v0_22 p3)), .val (.int p1), .val (.int (own_v0_87 p1 p2 p3)), .unset, .unset] [(.int (1 : Int32))])) _
        rw [show (own_v0_101 p1 p2 p3) = (1 : Int32) from ((if_pos hc21_101).trans rfl)] at kt
        exact kt
      · skip
        refine XS.icmpNo X5.here hx rfl (hb hby at_101) rfl (flt hc21_101).1 ?_
        show Steps p.tables e below (T5.setTop (mkF m 104 #[.val (.int p1), .val (.int p2), .val (.int p3), .val (.int p4), .val (.ref (own_f1 p4 s_DataComponent_CharacterSet_N s_DataComponent_CharacterSet_X s_DataComponent_CharacterSet_Y s_DataComponent_CharacterSet_Z)), .val (.int (own_v0_9 p3)), .val (.int (own_v0_22 p3)), .val (.int p1), .val (.int (own_v0_87 p1 p2 p3)), .unset, .unset] [])) _
        refine XS.iload X5.here hx rfl (hb hby at_104) rfl ?_
        show Steps p.tables e below (T5.setTop (mkF m 106 #[.val (.int p1), .val (.int p2), .val (.int p3), .val (.int p4), .val (.ref (own_f1 p4 s_DataComponent_CharacterSet_N s_DataComponent_CharacterSet_X s_DataComponent_CharacterSet_Y s_DataComponent_CharacterSet_Z)), .val (.int (own_v0_9 p3)), .val (.int (own_v0_22 p3)), .val (.int p1), .val (.int (own_v0_87 p1 p2 p3)), .unset, .unset] [(.int (own_v0_87 p1 p2 p3))])) _
        refine XS.iload X5.here hx rfl (hb hby at_106) rfl ?_
        show Steps p.tables e below (T5.setTop (mkF m 108 #[.val (.int p1), .val (.int p2), .val (.int p3), .val (.int p4), .val (.ref (own_f1 p4 s_DataComponent_CharacterSet_N s_DataComponent_CharacterSet_X s_DataComponent_CharacterSet_Y s_DataComponent_CharacterSet_Z)), .val (.int (own_v0_9 p3)), .val (.int (own_v0_22 p3)), .val (.int p1), .val (.int (own_v0_87 p1 p2 p3)), .unset, .unset] [(.int p1), (.int (own_v0_87 p1 p2 p3))])) _
        by_cases hc22_108 : (own_v0_87 p1 p2 p3) < p1
        · skip
          refine XS.icmpNo X5.here hx rfl (hb hby at_108) rfl (tlt hc22_108).2.1 ?_
          show Steps p.tables e below (T5.setTop (mkF m 111 #[.val (.int p1), .val (.int p2), .val (.int p3), .val (.int p4), .val (.ref (own_f1 p4 s_DataComponent_CharacterSet_N s_DataComponent_CharacterSet_X s_DataComponent_CharacterSet_Y s_DataComponent_CharacterSet_Z)), .val (.int (own_v0_9 p3)), .val (.int (own_v0_22 p3)), .val (.int p1), .val (.int (own_v0_87 p1 p2 p3)), .unset, .unset] [])) _
          refine XS.iconst X5.here hx rfl (hb hby at_111) ?_
          show Steps p.tables e below (T5.setTop (mkF m 112 #[.val (.int p1), .val (.int p2), .val (.int p3), .val (.int p4), .val (.ref (own_f1 p4 s_DataComponent_CharacterSet_N s_DataComponent_CharacterSet_X s_DataComponent_CharacterSet_Y s_DataComponent_CharacterSet_Z)), .val (.int (own_v0_9 p3)), .val (.int (own_v0_22 p3)), .val (.int p1), .val (.int (own_v0_87 p1 p2 p3)), .unset, .unset] [(.int (1 : Int32))])) _
          refine XS.goto X5.here hx rfl (pc0 := 112) (pc' := 116) rfl (hb hby at_112) (by decide) (by decide) ?_
          show Steps p.tables e below (T5.setTop (mkF m 116 #[.val (.int p1), .val (.int p2), .val (.int p3), .val (.int p4), .val (.ref (own_f1 p4 s_DataComponent_CharacterSet_N s_DataComponent_CharacterSet_X s_DataComponent_CharacterSet_Y s_DataComponent_CharacterSet_Z)), .val (.int (own_v0_9 p3)), .val (.int (own_v0_22 p3)), .val (.int p1), .val (.int (own_v0_87 p1 p2 p3)), .unset, .unset] [(.int (1 : Int32))])) _
          rw [show (own_v0_101 p1 p2 p3) = (1 : Int32) from ((if_neg hc21_101).trans ((if_pos hc22_108).trans rfl))] at kt
          exact kt
        · skip
          refine XS.icmpYes X5.here hx rfl (pc0 := 108) (pc' := 115) rfl (hb hby at_108) rfl (flt hc22_108).2.1 (by decide) (by decide) ?_
          show Steps p.tables e below (T5.setTop (mkF m 115 #[.val (.int p1), .val (.int p2), .val (.int p3), .val (.int p4), .val (.ref (own_f1 p4 s_DataComponent_CharacterSet_N s_DataComponent_CharacterSet_X s_DataComponent_CharacterSet_Y s_DataComponent_CharacterSet_Z)), .val (.int (own_v0_9 p3)), .val (.int (own_v0_22 p3)), .val (.int p1), .val (.int (own_v0_87 p1 p2 p3)), .unset, .unset] [])) _
          refine XS.iconst X5.here hx rfl (hb hby at_115) ?_
          show Steps p.tables e below (T5.setTop (mkF m 116 #[.val (.int p1), .val (.int p2), .val (.int p3), .val (.int p4), .val (.ref (own_f1 p4 s_DataComponent_CharacterSet_N s_DataComponent_CharacterSet_X s_DataComponent_CharacterSet_Y s_DataComponent_CharacterSet_Z)), .val (.int (own_v0_9 p3)), .val (.int (own_v0_22 p3)), .val (.int p1), .val (.int (own_v0_87 p1 p2 p3)), .unset, .unset] [(.int (0 : Int32))])) _
          rw [show (own_v0_101 p1 p2 p3) = (0 : Int32) from ((if_neg hc21_101).trans ((if_neg hc22_108).trans rfl))] at kt
          exact kt
    show own_Go p.tables e below _ (T5.setTop (mkF m 116 #[.val (.int p1), .val (.int p2), .val (.int p3), .val (.int p4), .val (.ref (own_f1 p4 s_DataComponent_CharacterSet_N s_DataComponent_CharacterSet_X s_DataComponent_CharacterSet_Y s_DataComponent_CharacterSet_Z)), .val (.int (own_v0_9 p3)), .val (.int (own_v0_22 p3)), .val (.int p1), .val (.int (own_v0_87 p1 p2 p3)), .unset, .unset] [(.int (own_v0_101 p1 p2 p3))]))
    refine own_go (fun _ => XS.istore X5.here hx rfl (hb hby at_116) rfl (l' := #[.val (.int p1), .val (.int p2), .val (.int p3), .val (.int p4), .val (.ref (own_f1 p4 s_DataComponent_CharacterSet_N s_DataComponent_CharacterSet_X s_DataComponent_CharacterSet_Y s_DataComponent_CharacterSet_Z)), .val (.int (own_v0_9 p3)), .val (.int (own_v0_22 p3)), .val (.int p1), .val (.int (own_v0_87 p1 p2 p3)), .val (.int (own_v0_101 p1 p2 p3)), .unset]) rfl) ?_
    show own_Go p.tables e below _ (T5.setTop (mkF m 118 #[.val (.int p1), .val (.int p2), .val (.int p3), .val (.int p4), .val (.ref (own_f1 p4 s_DataComponent_CharacterSet_N s_DataComponent_CharacterSet_X s_DataComponent_CharacterSet_Y s_DataComponent_CharacterSet_Z)), .val (.int (own_v0_9 p3)), .val (.int (own_v0_22 p3)), .val (.int p1), .val (.int (own_v0_87 p1 p2 p3)), .val (.int (own_v0_101 p1 p2 p3)), .unset] []))
    obtain ⟨T23, h23, X23, e23, E23, A23, D23, -, st23⟩ := newO X5 hx hZ hown (hw _ (List.mem_of_getElem? (i := 12) rfl)) (hw _ (List.mem_of_getElem? (i := 13) rfl)) (hw _ (List.mem_of_getElem? (i := 14) rfl)) e5 (g := (mkF m 118 #[.val (.int p1), .val (.int p2), .val (.int p3), .val (.int p4), .val (.ref (own_f1 p4 s_DataComponent_CharacterSet_N s_DataComponent_CharacterSet_X s_DataComponent_CharacterSet_Y s_DataComponent_CharacterSet_Z)), .val (.int (own_v0_9 p3)), .val (.int (own_v0_22 p3)), .val (.int p1), .val (.int (own_v0_87 p1 p2 p3)), .val (.int (own_v0_101 p1 p2 p3)), .unset] [])) rfl (hb hby at_118) (by decide) (by decide)
    obtain ⟨b23, g23⟩ : ∃ z, z = h0.size := ⟨_, rfl⟩
    rw [← g23] at A23 D23 st23
    refine own_go st23 ?_
    have g_b23 : n0 ≤ b23 := Nat.le_trans Z0 (Nat.le_of_eq g23.symm)
    have sz_b23 : h0.size ≤ b23 := (Nat.le_trans (Keep.refl h0 []).1 (Nat.le_of_eq g23.symm))
    have K23 : Keep h0 h23 [] := (Keep.refl h0 []).ext E23
    have F_characters_b23 : Fld Z h23 b23 "com/example/barwright/barwright/DataComponent" "characters" "Lcom/example/barwright/barwright/DataComponent$CharacterSet;" .null := D23 (Or.inr (hw _ (List.mem_of_getElem? (i := 51) rfl))) (ty := (.object "com/example/barwright/barwright/DataComponent$CharacterSet")) (by decide)
    have F_shortest_b23 : Fld Z h23 b23 "com/example/barwright/barwright/DataComponent" "shortest" "I" (.int (0 : Int32)) := D23 (Or.inr (hw _ (List.mem_of_getElem? (i := 53) rfl))) (ty := .int) (by decide)
    have F_longest_b23 : Fld Z h23 b23 "com/example/barwright/barwright/DataComponent" "longest" "I" (.int (0 : Int32)) := D23 (Or.inr (hw _ (List.mem_of_getElem? (i := 55) rfl))) (ty := .int) (by decide)
    have F_optional_b23 : Fld Z h23 b23 "com/example/barwright/barwright/DataComponent" "optional" "Z" (.int (0 : Int32)) := D23 (Or.inr (hw _ (List.mem_of_getElem? (i := 57) rfl))) (ty := .boolean) (by decide)
    have F_linters_b23 : Fld Z h23 b23 "com/example/barwright/barwright/DataComponent" "linters" "Ljava/util/List;" .null := D23 (Or.inr (hw _ (List.mem_of_getElem? (i := 59) rfl))) (ty := (.object "java/util/List")) (by decide)
    have F_checked_b23 : Fld Z h23 b23 "com/example/barwright/barwright/DataComponent" "checked" "Ljava/util/List;" .null := D23 (Or.inr (hw _ (List.mem_of_getElem? (i := 61) rfl))) (ty := (.object "java/util/List")) (by decide)
    show own_Go p.tables e below _ (T23.setTop (mkF m 121 #[.val (.int p1), .val (.int p2), .val (.int p3), .val (.int p4), .val (.ref (own_f1 p4 s_DataComponent_CharacterSet_N s_DataComponent_CharacterSet_X s_DataComponent_CharacterSet_Y s_DataComponent_CharacterSet_Z)), .val (.int (own_v0_9 p3)), .val (.int (own_v0_22 p3)), .val (.int p1), .val (.int (own_v0_87 p1 p2 p3)), .val (.int (own_v0_101 p1 p2 p3)), .unset] [(.ref b23)]))
    refine own_go (fun _ => XS.dup X23.here hx rfl (hb hby at_121) rfl rfl) ?_
    show own_Go p.tables e below _ (T23.setTop (mkF m 122 #[.val (.int p1), .val (.int p2), .val (.int p3), .val (.int p4), .val (.ref (own_f1 p4 s_DataComponent_CharacterSet_N s_DataComponent_CharacterSet_X s_DataComponent_CharacterSet_Y s_DataComponent_CharacterSet_Z)), .val (.int (own_v0_9 p3)), .val (.int (own_v0_22 p3)), .val (.int p1), .val (.int (own_v0_87 p1 p2 p3)), .val (.int (own_v0_101 p1 p2 p3)), .unset] [(.ref b23), (.ref b23)]))
    refine own_go (fun _ => XS.aload X23.here hx rfl (hb hby at_122) rfl rfl) ?_
    show own_Go p.tables e below _ (T23.setTop (mkF m 124 #[.val (.int p1), .val (.int p2), .val (.int p3), .val (.int p4), .val (.ref (own_f1 p4 s_DataComponent_CharacterSet_N s_DataComponent_CharacterSet_X s_DataComponent_CharacterSet_Y s_DataComponent_CharacterSet_Z)), .val (.int (own_v0_9 p3)), .val (.int (own_v0_22 p3)), .val (.int p1), .val (.int (own_v0_87 p1 p2 p3)), .val (.int (own_v0_101 p1 p2 p3)), .unset] [(.ref (own_f1 p4 s_DataComponent_CharacterSet_N s_DataComponent_CharacterSet_X s_DataComponent_CharacterSet_Y s_DataComponent_CharacterSet_Z)), (.ref b23), (.ref b23)]))
    refine own_go (fun _ => XS.iload X23.here hx rfl (hb hby at_124) rfl) ?_
    show own_Go p.tables e below _ (T23.setTop (mkF m 126 #[.val (.int p1), .val (.int p2), .val (.int p3), .val (.int p4), .val (.ref (own_f1 p4 s_DataComponent_CharacterSet_N s_DataComponent_CharacterSet_X s_DataComponent_CharacterSet_Y s_DataComponent_CharacterSet_Z)), .val (.int (own_v0_9 p3)), .val (.int (own_v0_22 p3)), .val (.int p1), .val (.int (own_v0_87 p1 p2 p3)), .val (.int (own_v0_101 p1 p2 p3)), .unset] [(.int p1), (.ref (own_f1 p4 s_DataComponent_CharacterSet_N s_DataComponent_CharacterSet_X s_DataComponent_CharacterSet_Y s_DataComponent_CharacterSet_Z)), (.ref b23), (.ref b23)]))
    refine own_go (fun _ => XS.iload X23.here hx rfl (hb hby at_126) rfl) ?_
    show own_Go p.tables e below _ (T23.setTop (mkF m 128 #[.val (.int p1), .val (.int p2), .val (.int p3), .val (.int p4), .val (.ref (own_f1 p4 s_DataComponent_CharacterSet_N s_DataComponent_CharacterSet_X s_DataComponent_CharacterSet_Y s_DataComponent_CharacterSet_Z)), .val (.int (own_v0_9 p3)), .val (.int (own_v0_22 p3)), .val (.int p1), .val (.int (own_v0_87 p1 p2 p3)), .val (.int (own_v0_101 p1 p2 p3)), .unset] [(.int (own_v0_87 p1 p2 p3)), (.int p1), (.ref (own_f1 p4 s_DataComponent_CharacterSet_N s_DataComponent_CharacterSet_X s_DataComponent_CharacterSet_Y s_DataComponent_CharacterSet_Z)), (.ref b23), (.ref b23)]))
    refine own_go (fun _ => XS.iload X23.here hx rfl (hb hby at_128) rfl) ?_
    show own_Go p.tables e below _ (T23.setTop (mkF m 130 #[.val (.int p1), .val (.int p2), .val (.int p3), .val (.int p4), .val (.ref (own_f1 p4 s_DataComponent_CharacterSet_N s_DataComponent_CharacterSet_X s_DataComponent_CharacterSet_Y s_DataComponent_CharacterSet_Z)), .val (.int (own_v0_9 p3)), .val (.int (own_v0_22 p3)), .val (.int p1), .val (.int (own_v0_87 p1 p2 p3)), .val (.int (own_v0_101 p1 p2 p3)), .unset] [(.int (own_v0_9 p3)), (.int (own_v0_87 p1 p2 p3)), (.int p1), (.ref (own_f1 p4 s_DataComponent_CharacterSet_N s_DataComponent_CharacterSet_X s_DataComponent_CharacterSet_Y s_DataComponent_CharacterSet_Z)), (.ref b23), (.ref b23)]))
    obtain ⟨T24, h24, X24, e24, E24, A24, D24, -, st24⟩ := newO X23 hx hZ hown (hw _ (List.mem_of_getElem? (i := 15) rfl)) (hw _ (List.mem_of_getElem? (i := 16) rfl)) (hw _ (List.mem_of_getElem? (i := 17) rfl)) e23 (g := (mkF m 130 #[.val (.int p1), .val (.int p2), .val (.int p3), .val (.int p4), .val (.ref (own_f1 p4 s_DataComponent_CharacterSet_N s_DataComponent_CharacterSet_X s_DataComponent_CharacterSet_Y s_DataComponent_CharacterSet_Z)), .val (.int (own_v0_9 p3)), .val (.int (own_v0_22 p3)), .val (.int p1), .val (.int (own_v0_87 p1 p2 p3)), .val (.int (own_v0_101 p1 p2 p3)), .unset] [(.int (own_v0_9 p3)), (.int (own_v0_87 p1 p2 p3)), (.int p1), (.ref (own_f1 p4 s_DataComponent_CharacterSet_N s_DataComponent_CharacterSet_X s_DataComponent_CharacterSet_Y s_DataComponent_CharacterSet_Z)), (.ref b23), (.ref b23)])) rfl (hb hby at_130) (by decide) (by decide)
    obtain ⟨b24, g24⟩ : ∃ z, z = h23.size := ⟨_, rfl⟩
    rw [← g24] at A24 D24 st24
    refine own_go st24 ?_
    have g_b24 : n0 ≤ b24 := Nat.le_trans (Nat.le_trans Z0 E23.1) (Nat.le_of_eq g24.symm)
    have sz_b24 : h0.size ≤ b24 := (Nat.le_trans K23.1 (Nat.le_of_eq g24.symm))
    have K24 : Keep h0 h24 [] := K23.ext E24
    have F_modCount_b24 : Fld Z h24 b24 "java/util/AbstractList" "modCount" "I" (.int (0 : Int32)) := D24 (Or.inl (hw _ (List.mem_of_getElem? (i := 37) rfl))) (ty := .int) (by decide)
    have F_elementData_b24 : Fld Z h24 b24 "java/util/ArrayList" "elementData" "[Ljava/lang/Object;" .null := D24 (Or.inl (hw _ (List.mem_of_getElem? (i := 40) rfl))) (ty := (.array (.object "java/lang/Object"))) (by decide)
    show own_Go p.tables e below _ (T24.setTop (mkF m 133 #[.val (.int p1), .val (.int p2), .val (.int p3), .val (.int p4), .val (.ref (own_f1 p4 s_DataComponent_CharacterSet_N s_DataComponent_CharacterSet_X s_DataComponent_CharacterSet_Y s_DataComponent_CharacterSet_Z)), .val (.int (own_v0_9 p3)), .val (.int (own_v0_22 p3)), .val (.int p1), .val (.int (own_v0_87 p1 p2 p3)), .val (.int (own_v0_101 p1 p2 p3)), .unset] [(.ref b24), (.int (own_v0_9 p3)), (.int (own_v0_87 p1 p2 p3)), (.int p1), (.ref (own_f1 p4 s_DataComponent_CharacterSet_N s_DataComponent_CharacterSet_X s_DataComponent_CharacterSet_Y s_DataComponent_CharacterSet_Z)), (.ref b23), (.ref b23)]))
    refine own_go (fun _ => XS.dup X24.here hx rfl (hb hby at_133) rfl rfl) ?_
    show own_Go p.tables e below _ (T24.setTop (mkF m 134 #[.val (.int p1), .val (.int p2), .val (.int p3), .val (.int p4), .val (.ref (own_f1 p4 s_DataComponent_CharacterSet_N s_DataComponent_CharacterSet_X s_DataComponent_CharacterSet_Y s_DataComponent_CharacterSet_Z)), .val (.int (own_v0_9 p3)), .val (.int (own_v0_22 p3)), .val (.int p1), .val (.int (own_v0_87 p1 p2 p3)), .val (.int (own_v0_101 p1 p2 p3)), .unset] [(.ref b24), (.ref b24), (.int (own_v0_9 p3)), (.int (own_v0_87 p1 p2 p3)), (.int p1), (.ref (own_f1 p4 s_DataComponent_CharacterSet_N s_DataComponent_CharacterSet_X s_DataComponent_CharacterSet_Y s_DataComponent_CharacterSet_Z)), (.ref b23), (.ref b23)]))
    obtain ⟨_, _, ⟨T25, L25, k25, n25⟩, -, X25, ⟨Lc25, hQ25, l25, y25, z25⟩, st25⟩ := X24.specialBack hx (y := (⟨"java/util/ArrayList", "<init>", "()V"⟩ : MethodName)) rfl hown (mvT hZ (hw _ (List.mem_of_getElem? (i := 18) rfl))) (mvT hZ (hw _ (List.mem_of_getElem? (i := 19) rfl))) (mvT hZ (hw _ (List.mem_of_getElem? (i := 20) rfl))) (by decide) (backOf (W := 7) (rm3 l Z a0 hw [] b24 .null (.int (0 : Int32)) s_ArrayList_DEFAULTCAPACITY_EMPTY_ELEMENTDATA h24 n0 (Nat.le_trans (Nat.le_trans Z0 E23.1) E24.1) A24 F_elementData_b24 F_modCount_b24 g_b24 S_ArrayList_DEFAULTCAPACITY_EMPTY_ELEMENTDATA ((O0.ext E23).ext E24)) hZ (hw _ (List.mem_of_getElem? (i := 20) rfl)) (hw _ (List.mem_of_getElem? (i := 17) rfl)) (by decide) (by decide)) (g := (mkF m 134 #[.val (.int p1), .val (.int p2), .val (.int p3), .val (.int p4), .val (.ref (own_f1 p4 s_DataComponent_CharacterSet_N s_DataComponent_CharacterSet_X s_DataComponent_CharacterSet_Y s_DataComponent_CharacterSet_Z)), .val (.int (own_v0_9 p3)), .val (.int (own_v0_22 p3)), .val (.int p1), .val (.int (own_v0_87 p1 p2 p3)), .val (.int (own_v0_101 p1 p2 p3)), .unset] [(.ref b24), (.ref b24), (.int (own_v0_9 p3)), (.int (own_v0_87 p1 p2 p3)), (.int p1), (.ref (own_f1 p4 s_DataComponent_CharacterSet_N s_DataComponent_CharacterSet_X s_DataComponent_CharacterSet_Y s_DataComponent_CharacterSet_Z)), (.ref b23), (.ref b23)])) rfl (by rw [hml]; rfl) (Steps.refl _) (a := b24) (argsL := []) (rest := [(.ref b24), (.int (own_v0_9 p3)), (.int (own_v0_87 p1 p2 p3)), (.int p1), (.ref (own_f1 p4 s_DataComponent_CharacterSet_N s_DataComponent_CharacterSet_X s_DataComponent_CharacterSet_Y s_DataComponent_CharacterSet_Z)), (.ref b23), (.ref b23)]) (lenOf pd_2 rfl) rfl (by show 2 * 0 + _ ≤ _; exact Nat.le_of_eq rfl) (hb hby at_134) (fun _ _ => ⟨rfl, e24, (by decide : 2 + 0 ≤ _), (by decide : 9 + 0 ≤ _)⟩)
    dsimp only [Pt.U, Pt.locs, Pt.cells, Pt.slots] at X25 l25 y25 z25 st25 hQ25
    subst l25 y25 z25
    obtain ⟨rfl, N25q, Kc25, F25_0, F25_1, F25_2⟩ := hQ25
    have N25 := Fr.app N5 N25q
    refine own_via st25 ?_
    have K25 : Keep h0 T25.heap [] := K24.trans Kc25 (allS (Or.inr sz_b24) all0)
    show own_Go p.tables e below _ (T25.setTop (mkF m 137 #[.val (.int p1), .val (.int p2), .val (.int p3), .val (.int p4), .val (.ref (own_f1 p4 s_DataComponent_CharacterSet_N s_DataComponent_CharacterSet_X s_DataComponent_CharacterSet_Y s_DataComponent_CharacterSet_Z)), .val (.int (own_v0_9 p3)), .val (.int (own_v0_22 p3)), .val (.int p1), .val (.int (own_v0_87 p1 p2 p3)), .val (.int (own_v0_101 p1 p2 p3)), .unset] [(.ref b24), (.int (own_v0_9 p3)), (.int (own_v0_87 p1 p2 p3)), (.int p1), (.ref (own_f1 p4 s_DataComponent_CharacterSet_N s_DataComponent_CharacterSet_X s_DataComponent_CharacterSet_Y s_DataComponent_CharacterSet_Z)), (.ref b23), (.ref b23)]))
    obtain ⟨T26, h26, X26, e26, E26, A26, D26, -, st26⟩ := newO X25 hx hZ hown (hw _ (List.mem_of_getElem? (i := 15) rfl)) (hw _ (List.mem_of_getElem? (i := 16) rfl)) (hw _ (List.mem_of_getElem? (i := 17) rfl)) rfl (g := (mkF m 137 #[.val (.int p1), .val (.int p2), .val (.int p3), .val (.int p4), .val (.ref (own_f1 p4 s_DataComponent_CharacterSet_N s_DataComponent_CharacterSet_X s_DataComponent_CharacterSet_Y s_DataComponent_CharacterSet_Z)), .val (.int (own_v0_9 p3)), .val (.int (own_v0_22 p3)), .val (.int p1), .val (.int (own_v0_87 p1 p2 p3)), .val (.int (own_v0_101 p1 p2 p3)), .unset] [(.ref b24), (.int (own_v0_9 p3)), (.int (own_v0_87 p1 p2 p3)), (.int p1), (.ref (own_f1 p4 s_DataComponent_CharacterSet_N s_DataComponent_CharacterSet_X s_DataComponent_CharacterSet_Y s_DataComponent_CharacterSet_Z)), (.ref b23), (.ref b23)])) rfl (hb hby at_137) (by decide) (by decide)
    obtain ⟨b26, g26⟩ : ∃ z, z = T25.heap.size := ⟨_, rfl⟩
    rw [← g26] at A26 D26 st26
    refine own_go st26 ?_
    have g_b26 : n0 ≤ b26 := Nat.le_trans (Nat.le_trans (Nat.le_trans (Nat.le_trans Z0 E23.1) E24.1) Kc25.1) (Nat.le_of_eq g26.symm)
    have sz_b26 : h0.size ≤ b26 := (Nat.le_trans K25.1 (Nat.le_of_eq g26.symm))
    have K26 : Keep h0 h26 [] := K25.ext E26
    have F_modCount_b26 : Fld Z h26 b26 "java/util/AbstractList" "modCount" "I" (.int (0 : Int32)) := D26 (Or.inl (hw _ (List.mem_of_getElem? (i := 37) rfl))) (ty := .int) (by decide)
    have F_elementData_b26 : Fld Z h26 b26 "java/util/ArrayList" "elementData" "[Ljava/lang/Object;" .null := D26 (Or.inl (hw _ (List.mem_of_getElem? (i := 40) rfl))) (ty := (.array (.object "java/lang/Object"))) (by decide)
    show own_Go p.tables e below _ (T26.setTop (mkF m 140 #[.val (.int p1), .val (.int p2), .val (.int p3), .val (.int p4), .val (.ref (own_f1 p4 s_DataComponent_CharacterSet_N s_DataComponent_CharacterSet_X s_DataComponent_CharacterSet_Y s_DataComponent_CharacterSet_Z)), .val (.int (own_v0_9 p3)), .val (.int (own_v0_22 p3)), .val (.int p1), .val (.int (own_v0_87 p1 p2 p3)), .val (.int (own_v0_101 p1 p2 p3)), .unset] [(.ref b26), (.ref b24), (.int (own_v0_9 p3)), (.int (own_v0_87 p1 p2 p3)), (.int p1), (.ref (own_f1 p4 s_DataComponent_CharacterSet_N s_DataComponent_CharacterSet_X s_DataComponent_CharacterSet_Y s_DataComponent_CharacterSet_Z)), (.ref b23), (.ref b23)]))
    refine own_go (fun _ => XS.dup X26.here hx rfl (hb hby at_140) rfl rfl) ?_
    show own_Go p.tables e below _ (T26.setTop (mkF m 141 #[.val (.int p1), .val (.int p2), .val (.int p3), .val (.int p4), .val (.ref (own_f1 p4 s_DataComponent_CharacterSet_N s_DataComponent_CharacterSet_X s_DataComponent_CharacterSet_Y s_DataComponent_CharacterSet_Z)), .val (.int (own_v0_9 p3)), .val (.int (own_v0_22 p3)), .val (.int p1), .val (.int (own_v0_87 p1 p2 p3)), .val (.int (own_v0_101 p1 p2 p3)), .unset] [(.ref b26), (.ref b26), (.ref b24), (.int (own_v0_9 p3)), (.int (own_v0_87 p1 p2 p3)), (.int p1), (.ref (own_f1 p4 s_DataComponent_CharacterSet_N s_DataComponent_CharacterSet_X s_DataComponent_CharacterSet_Y s_DataComponent_CharacterSet_Z)), (.ref b23), (.ref b23)]))
    obtain ⟨_, _, ⟨T27, L27, k27, n27⟩, -, X27, ⟨Lc27, hQ27, l27, y27, z27⟩, st27⟩ := X26.specialBack hx (y := (⟨"java/util/ArrayList", "<init>", "()V"⟩ : MethodName)) rfl hown (mvT hZ (hw _ (List.mem_of_getElem? (i := 18) rfl))) (mvT hZ (hw _ (List.mem_of_getElem? (i := 19) rfl))) (mvT hZ (hw _ (List.mem_of_getElem? (i := 20) rfl))) (by decide) (backOf (W := 8) (rm3 l Z a0 hw [] b26 .null (.int (0 : Int32)) s_ArrayList_DEFAULTCAPACITY_EMPTY_ELEMENTDATA h26 n0 (Nat.le_trans (Nat.le_trans (Nat.le_trans (Nat.le_trans Z0 E23.1) E24.1) Kc25.1) E26.1) A26 F_elementData_b26 F_modCount_b26 g_b26 S_ArrayList_DEFAULTCAPACITY_EMPTY_ELEMENTDATA ((((O0.ext E23).ext E24).keep Kc25 (allS g_b24 all0)).ext E26)) hZ (hw _ (List.mem_of_getElem? (i := 20) rfl)) (hw _ (List.mem_of_getElem? (i := 17) rfl)) (by decide) (by decide)) (g := (mkF m 141 #[.val (.int p1), .val (.int p2), .val (.int p3), .val (.int p4), .val (.ref (own_f1 p4 s_DataComponent_CharacterSet_N s_DataComponent_CharacterSet_X s_DataComponent_CharacterSet_Y s_DataComponent_CharacterSet_Z)), .val (.int (own_v0_9 p3)), .val (.int (own_v0_22 p3)), .val (.int p1), .val (.int (own_v0_87 p1 p2 p3)), .val (.int (own_v0_101 p1 p2 p3)), .unset] [(.ref b26), (.ref b26), (.ref b24), (.int (own_v0_9 p3)), (.int (own_v0_87 p1 p2 p3)), (.int p1), (.ref (own_f1 p4 s_DataComponent_CharacterSet_N s_DataComponent_CharacterSet_X s_DataComponent_CharacterSet_Y s_DataComponent_CharacterSet_Z)), (.ref b23), (.ref b23)])) rfl (by rw [hml]; rfl) (Steps.refl _) (a := b26) (argsL := []) (rest := [(.ref b26), (.ref b24), (.int (own_v0_9 p3)), (.int (own_v0_87 p1 p2 p3)), (.int p1), (.ref (own_f1 p4 s_DataComponent_CharacterSet_N s_DataComponent_CharacterSet_X s_DataComponent_CharacterSet_Y s_DataComponent_CharacterSet_Z)), (.ref b23), (.ref b23)]) (lenOf pd_2 rfl) rfl (by show 2 * 0 + _ ≤ _; exact Nat.le_of_eq rfl) (hb hby at_141) (fun _ _ => ⟨rfl, e26, (by decide : 3 + 0 ≤ _), (by decide : 12 + 0 ≤ _)⟩)
    dsimp only [Pt.U, Pt.locs, Pt.cells, Pt.slots] at X27 l27 y27 z27 st27 hQ27
    subst l27 y27 z27
    obtain ⟨rfl, N27q, Kc27, F27_0, F27_1, F27_2⟩ := hQ27
    have N27 := Fr.app N25 N27q
    refine own_via st27 ?_
    have K27 : Keep h0 T27.heap [] := K26.trans Kc27 (allS (Or.inr sz_b26) all0)
    show own_Go p.tables e below _ (T27.setTop (mkF m 144 #[.val (.int p1), .val (.int p2), .val (.int p3), .val (.int p4), .val (.ref (own_f1 p4 s_DataComponent_CharacterSet_N s_DataComponent_CharacterSet_X s_DataComponent_CharacterSet_Y s_DataComponent_CharacterSet_Z)), .val (.int (own_v0_9 p3)), .val (.int (own_v0_22 p3)), .val (.int p1), .val (.int (own_v0_87 p1 p2 p3)), .val (.int (own_v0_101 p1 p2 p3)), .unset] [(.ref b26), (.ref b24), (.int (own_v0_9 p3)), (.int (own_v0_87 p1 p2 p3)), (.int p1), (.ref (own_f1 p4 s_DataComponent_CharacterSet_N s_DataComponent_CharacterSet_X s_DataComponent_CharacterSet_Y s_DataComponent_CharacterSet_Z)), (.ref b23), (.ref b23)]))
    obtain ⟨_, _, ⟨T28, L28, k28, n28⟩, -, X28, ⟨Lc28, hQ28, l28, y28, z28⟩, st28⟩ := X27.specialBack hx (y := (⟨"com/example/barwright/barwright/DataComponent", "<init>", "(Lcom/example/barwright/barwright/DataComponent$CharacterSet;IIZLjava/util/List;Ljava/util/List;)V"⟩ : MethodName)) rfl hown (mvT hZ (hw _ (List.mem_of_getElem? (i := 41) rfl))) (mvT hZ (hw _ (List.mem_of_getElem? (i := 42) rfl))) (mvT hZ (hw _ (List.mem_of_getElem? (i := 43) rfl))) (by decide) (backOf (W := 1) (rm7 l Z a0 hw [] b23 (own_f1 p4 s_DataComponent_CharacterSet_N s_DataComponent_CharacterSet_X s_DataComponent_CharacterSet_Y s_DataComponent_CharacterSet_Z) p1 (own_v0_87 p1 p2 p3) (own_v0_9 p3) b24 b26 .null (.int (0 : Int32)) (.int (0 : Int32)) (.int (0 : Int32)) .null .null T27.heap n0 (Nat.le_trans (Nat.le_trans (Nat.le_trans (Nat.le_trans (Nat.le_trans Z0 E23.1) E24.1) Kc25.1) E26.1) Kc27.1) ((((A23.ext E24).keep Kc25).ext E26).keep Kc27) ((((F_characters_b23.ext E24).keep Kc25 (ninS (Nat.ne_of_lt (Nat.lt_of_lt_of_le A23.lt (Nat.le_of_eq g24.symm))) nin0)).ext E26).keep Kc27 (ninS (Nat.ne_of_lt (Nat.lt_of_lt_of_le ((A23.ext E24).keep Kc25).lt (Nat.le_of_eq g26.symm))) nin0)) g_b23 ((((F_shortest_b23.ext E24).keep Kc25 (ninS (Nat.ne_of_lt (Nat.lt_of_lt_of_le A23.lt (Nat.le_of_eq g24.symm))) nin0)).ext E26).keep Kc27 (ninS (Nat.ne_of_lt (Nat.lt_of_lt_of_le ((A23.ext E24).keep Kc25).lt (Nat.le_of_eq g26.symm))) nin0)) ((((F_longest_b23.ext E24).keep Kc25 (ninS (Nat.ne_of_lt (Nat.lt_of_lt_of_le A23.lt (Nat.le_of_eq g24.symm))) nin0)).ext E26).keep Kc27 (ninS (Nat.ne_of_lt (Nat.lt_of_lt_of_le ((A23.ext E24).keep Kc25).lt (Nat.le_of_eq g26.symm))) nin0)) ((((F_optional_b23.ext E24).keep Kc25 (ninS (Nat.ne_of_lt (Nat.lt_of_lt_of_le A23.lt (Nat.le_of_eq g24.symm))) nin0)).ext E26).keep Kc27 (ninS (Nat.ne_of_lt (Nat.lt_of_lt_of_le ((A23.ext E24).keep Kc25).lt (Nat.le_of_eq g26.symm))) nin0)) ((((F_linters_b23.ext E24).keep Kc25 (ninS (Nat.ne_of_lt (Nat.lt_of_lt_of_le A23.lt (Nat.le_of_eq g24.symm))) nin0)).ext E26).keep Kc27 (ninS (Nat.ne_of_lt (Nat.lt_of_lt_of_le ((A23.ext E24).keep Kc25).lt (Nat.le_of_eq g26.symm))) nin0)) ((((F_checked_b23.ext E24).keep Kc25 (ninS (Nat.ne_of_lt (Nat.lt_of_lt_of_le A23.lt (Nat.le_of_eq g24.symm))) nin0)).ext E26).keep Kc27 (ninS (Nat.ne_of_lt (Nat.lt_of_lt_of_le ((A23.ext E24).keep Kc25).lt (Nat.le_of_eq g26.symm))) nin0))) hZ (hw _ (List.mem_of_getElem? (i := 43) rfl)) (hw _ (List.mem_of_getElem? (i := 14) rfl)) (by decide) (by decide)) (g := (mkF m 144 #[.val (.int p1), .val (.int p2), .val (.int p3), .val (.int p4), .val (.ref (own_f1 p4 s_DataComponent_CharacterSet_N s_DataComponent_CharacterSet_X s_DataComponent_CharacterSet_Y s_DataComponent_CharacterSet_Z)), .val (.int (own_v0_9 p3)), .val (.int (own_v0_22 p3)), .val (.int p1), .val (.int (own_v0_87 p1 p2 p3)), .val (.int (own_v0_101 p1 p2 p3)), .unset] [(.ref b26), (.ref b24), (.int (own_v0_9 p3)), (.int (own_v0_87 p1 p2 p3)), (.int p1), (.ref (own_f1 p4 s_DataComponent_CharacterSet_N s_DataComponent_CharacterSet_X s_DataComponent_CharacterSet_Y s_DataComponent_CharacterSet_Z)), (.ref b23), (.ref b23)])) rfl (by rw [hml]; rfl) (Steps.refl _) (a := b23) (argsL := [(.ref (own_f1 p4 s_DataComponent_CharacterSet_N s_DataComponent_CharacterSet_X s_DataComponent_CharacterSet_Y s_DataComponent_CharacterSet_Z)), (.int p1), (.int (own_v0_87 p1 p2 p3)), (.int (own_v0_9 p3)), (.ref b24), (.ref b26)]) (rest := [(.ref b23)]) (lenOf pd_3 rfl) rfl (by show 2 * 0 + _ ≤ _; exact Nat.le_of_eq rfl) (hb hby at_144) (fun _ _ => ⟨rfl, rfl, (by decide : 3 + 0 ≤ _), (by decide : 12 + 0 ≤ _)⟩)
    dsimp only [Pt.U, Pt.locs, Pt.cells, Pt.slots] at X28 l28 y28 z28 st28 hQ28
    subst l28 y28 z28
    obtain ⟨rfl, N28q, Kc28, F28_0, F28_1, F28_2, F28_3, F28_4, F28_5, F28_6⟩ := hQ28
    have N28 := Fr.app N27 N28q
    refine own_via st28 ?_
    have K28 : Keep h0 T28.heap [] := K27.trans Kc28 (allS (Or.inr sz_b23) all0)
    show own_Go p.tables e below _ (T28.setTop (mkF m 147 #[.val (.int p1), .val (.int p2), .val (.int p3), .val (.int p4), .val (.ref (own_f1 p4 s_DataComponent_CharacterSet_N s_DataComponent_CharacterSet_X s_DataComponent_CharacterSet_Y s_DataComponent_CharacterSet_Z)), .val (.int (own_v0_9 p3)), .val (.int (own_v0_22 p3)), .val (.int p1), .val (.int (own_v0_87 p1 p2 p3)), .val (.int (own_v0_101 p1 p2 p3)), .unset] [(.ref b23)]))
    refine own_go (fun _ => XS.astore X28.here hx rfl (hb hby at_147) rfl rfl (l' := #[.val (.int p1), .val (.int p2), .val (.int p3), .val (.int p4), .val (.ref (own_f1 p4 s_DataComponent_CharacterSet_N s_DataComponent_CharacterSet_X s_DataComponent_CharacterSet_Y s_DataComponent_CharacterSet_Z)), .val (.int (own_v0_9 p3)), .val (.int (own_v0_22 p3)), .val (.int p1), .val (.int (own_v0_87 p1 p2 p3)), .val (.int (own_v0_101 p1 p2 p3)), .val (.ref b23)]) rfl) ?_
    show own_Go p.tables e below _ (T28.setTop (mkF m 149 #[.val (.int p1), .val (.int p2), .val (.int p3), .val (.int p4), .val (.ref (own_f1 p4 s_DataComponent_CharacterSet_N s_DataComponent_CharacterSet_X s_DataComponent_CharacterSet_Y s_DataComponent_CharacterSet_Z)), .val (.int (own_v0_9 p3)), .val (.int (own_v0_22 p3)), .val (.int p1), .val (.int (own_v0_87 p1 p2 p3)), .val (.int (own_v0_101 p1 p2 p3)), .val (.ref b23)] []))
    refine own_go (fun _ => XS.aload X28.here hx rfl (hb hby at_149) rfl rfl) ?_
    show own_Go p.tables e below _ (T28.setTop (mkF m 151 #[.val (.int p1), .val (.int p2), .val (.int p3), .val (.int p4), .val (.ref (own_f1 p4 s_DataComponent_CharacterSet_N s_DataComponent_CharacterSet_X s_DataComponent_CharacterSet_Y s_DataComponent_CharacterSet_Z)), .val (.int (own_v0_9 p3)), .val (.int (own_v0_22 p3)), .val (.int p1), .val (.int (own_v0_87 p1 p2 p3)), .val (.int (own_v0_101 p1 p2 p3)), .val (.ref b23)] [(.ref b23)]))
    obtain ⟨cq29, kq29, q29a, q29b, q29c⟩ := isOf hZ rfl F28_0
    obtain ⟨_, _, ⟨T29, L29, k29, n29⟩, -, X29, ⟨Lc29, hQ29, l29, y29, z29⟩, st29⟩ := X28.virtualBack hx (y := (⟨"com/example/barwright/barwright/DataComponent", "varies", "()Z"⟩ : MethodName)) (z := (⟨"com/example/barwright/barwright/DataComponent", "varies", "()Z"⟩ : MethodName)) hown (mvT hZ (hw _ (List.mem_of_getElem? (i := 62) rfl))) (mvT hZ (hw _ (List.mem_of_getElem? (i := 63) rfl))) (notFace_of_selects (args := #[]) (mvT hZ (hw _ (List.mem_of_getElem? (i := 65) rfl)))) (mvT hZ (hw _ (List.mem_of_getElem? (i := 65) rfl))) (mvT hZ (hw _ (List.mem_of_getElem? (i := 64) rfl))) (by decide) (backOf (W := 0) (rm9 l Z a0 hw [] b23 p1 (own_v0_87 p1 p2 p3) T28.heap n0 (Nat.le_trans (Nat.le_trans (Nat.le_trans (Nat.le_trans (Nat.le_trans (Nat.le_trans Z0 E23.1) E24.1) Kc25.1) E26.1) Kc27.1) Kc28.1) F28_2 F28_3) hZ (hw _ (List.mem_of_getElem? (i := 66) rfl)) (hw _ (List.mem_of_getElem? (i := 14) rfl)) (by decide) (by decide)) q29a q29c (g := (mkF m 151 #[.val (.int p1), .val (.int p2), .val (.int p3), .val (.int p4), .val (.ref (own_f1 p4 s_DataComponent_CharacterSet_N s_DataComponent_CharacterSet_X s_DataComponent_CharacterSet_Y s_DataComponent_CharacterSet_Z)), .val (.int (own_v0_9 p3)), .val (.int (own_v0_22 p3)), .val (.int p1), .val (.int (own_v0_87 p1 p2 p3)), .val (.int (own_v0_101 p1 p2 p3)), .val (.ref b23)] [(.ref b23)])) rfl (by rw [hml]; rfl) (Steps.refl _) (argsL := []) (rest := []) (lenOf pd_4 rfl) rfl (by show 2 * 0 + _ ≤ _; exact Nat.le_of_eq rfl) (hb hby at_151) (fun _ _ => ⟨rfl, rfl, (by decide : 3 + 0 ≤ _), (by decide : 12 + 0 ≤ _)⟩)
    dsimp only [Pt.U, Pt.locs, Pt.cells, Pt.slots] at X29 l29 y29 z29 st29 hQ29
    subst l29 y29 z29
    obtain ⟨rfl, N29q, e29⟩ := hQ29
    have N29 := Fr.app N28 N29q
    refine own_via st29 ?_
    show own_Go p.tables e below _ (T29.setTop (mkF m 154 #[.val (.int p1), .val (.int p2), .val (.int p3), .val (.int p4), .val (.ref (own_f1 p4 s_DataComponent_CharacterSet_N s_DataComponent_CharacterSet_X s_DataComponent_CharacterSet_Y s_DataComponent_CharacterSet_Z)), .val (.int (own_v0_9 p3)), .val (.int (own_v0_22 p3)), .val (.int p1), .val (.int (own_v0_87 p1 p2 p3)), .val (.int (own_v0_101 p1 p2 p3)), .val (.ref b23)] [(.int (own_f9 p1 (own_v0_87 p1 p2 p3)))]))
    refine own_go (fun _ => XS.iload X29.here hx rfl (hb hby at_154) rfl) ?_
    show own_Go p.tables e below _ (T29.setTop (mkF m 156 #[.val (.int p1), .val (.int p2), .val (.int p3), .val (.int p4), .val (.ref (own_f1 p4 s_DataComponent_CharacterSet_N s_DataComponent_CharacterSet_X s_DataComponent_CharacterSet_Y s_DataComponent_CharacterSet_Z)), .val (.int (own_v0_9 p3)), .val (.int (own_v0_22 p3)), .val (.int p1), .val (.int (own_v0_87 p1 p2 p3)), .val (.int (own_v0_101 p1 p2 p3)), .val (.ref b23)] [(.int (own_v0_101 p1 p2 p3)), (.int (own_f9 p1 (own_v0_87 p1 p2 p3)))]))
    by_cases hc30_156 : (own_f9 p1 (own_v0_87 p1 p2 p3)) = (own_v0_101 p1 p2 p3)
    · skip
      refine own_go (fun _ => XS.icmpNo X29.here hx rfl (hb hby at_156) rfl (teq hc30_156).2) ?_
      show own_Go p.tables e below _ (T29.setTop (mkF m 159 #[.val (.int p1), .val (.int p2), .val (.int p3), .val (.int p4), .val (.ref (own_f1 p4 s_DataComponent_CharacterSet_N s_DataComponent_CharacterSet_X s_DataComponent_CharacterSet_Y s_DataComponent_CharacterSet_Z)), .val (.int (own_v0_9 p3)), .val (.int (own_v0_22 p3)), .val (.int p1), .val (.int (own_v0_87 p1 p2 p3)), .val (.int (own_v0_101 p1 p2 p3)), .val (.ref b23)] []))
      refine own_go (fun _ => XS.iconst X29.here hx rfl (hb hby at_159)) ?_
      show own_Go p.tables e below _ (T29.setTop (mkF m 160 #[.val (.int p1), .val (.int p2), .val (.int p3), .val (.int p4), .val (.ref (own_f1 p4 s_DataComponent_CharacterSet_N s_DataComponent_CharacterSet_X s_DataComponent_CharacterSet_Y s_DataComponent_CharacterSet_Z)), .val (.int (own_v0_9 p3)), .val (.int (own_v0_22 p3)), .val (.int p1), .val (.int (own_v0_87 p1 p2 p3)), .val (.int (own_v0_101 p1 p2 p3)), .val (.ref b23)] [(.int (1 : Int32))]))
      refine own_go (fun _ => XS.goto X29.here hx rfl (pc0 := 160) (pc' := 164) rfl (hb hby at_160) (by decide) (by decide)) ?_
      show own_Go p.tables e below _ (T29.setTop (mkF m 164 #[.val (.int p1), .val (.int p2), .val (.int p3), .val (.int p4), .val (.ref (own_f1 p4 s_DataComponent_CharacterSet_N s_DataComponent_CharacterSet_X s_DataComponent_CharacterSet_Y s_DataComponent_CharacterSet_Z)), .val (.int (own_v0_9 p3)), .val (.int (own_v0_22 p3)), .val (.int p1), .val (.int (own_v0_87 p1 p2 p3)), .val (.int (own_v0_101 p1 p2 p3)), .val (.ref b23)] [(.int (1 : Int32))]))
      refine own_retN X29 Bd.notSynchronized hx (t := .boolean) Bd.returns (by simp) (hb hby at_164) (show Q0 Z p1 p2 p3 p4 s_DataComponent_CharacterSet_N s_DataComponent_CharacterSet_X s_DataComponent_CharacterSet_Y s_DataComponent_CharacterSet_Z s_ArrayList_DEFAULTCAPACITY_EMPTY_ELEMENTDATA h0 n0 _ T29.heap _ from by rw [e29]; exact ⟨(own_val ((if_neg hc8_35).trans ((if_pos hc30_156).trans rfl))), N29⟩) (by decide) (by decide)
    · skip
      refine own_go (fun _ => XS.icmpYes X29.here hx rfl (pc0 := 156) (pc' := 163) rfl (hb hby at_156) rfl (feq hc30_156).2 (by decide) (by decide)) ?_
      show own_Go p.tables e below _ (T29.setTop (mkF m 163 #[.val (.int p1), .val (.int p2), .val (.int p3), .val (.int p4), .val (.ref (own_f1 p4 s_DataComponent_CharacterSet_N s_DataComponent_CharacterSet_X s_DataComponent_CharacterSet_Y s_DataComponent_CharacterSet_Z)), .val (.int (own_v0_9 p3)), .val (.int (own_v0_22 p3)), .val (.int p1), .val (.int (own_v0_87 p1 p2 p3)), .val (.int (own_v0_101 p1 p2 p3)), .val (.ref b23)] []))
      refine own_go (fun _ => XS.iconst X29.here hx rfl (hb hby at_163)) ?_
      show own_Go p.tables e below _ (T29.setTop (mkF m 164 #[.val (.int p1), .val (.int p2), .val (.int p3), .val (.int p4), .val (.ref (own_f1 p4 s_DataComponent_CharacterSet_N s_DataComponent_CharacterSet_X s_DataComponent_CharacterSet_Y s_DataComponent_CharacterSet_Z)), .val (.int (own_v0_9 p3)), .val (.int (own_v0_22 p3)), .val (.int p1), .val (.int (own_v0_87 p1 p2 p3)), .val (.int (own_v0_101 p1 p2 p3)), .val (.ref b23)] [(.int (0 : Int32))]))
      refine own_retN X29 Bd.notSynchronized hx (t := .boolean) Bd.returns (by simp) (hb hby at_164) (show Q0 Z p1 p2 p3 p4 s_DataComponent_CharacterSet_N s_DataComponent_CharacterSet_X s_DataComponent_CharacterSet_Y s_DataComponent_CharacterSet_Z s_ArrayList_DEFAULTCAPACITY_EMPTY_ELEMENTDATA h0 n0 _ T29.heap _ from by rw [e29]; exact ⟨(own_val ((if_neg hc8_35).trans ((if_neg hc30_156).trans rfl))), N29⟩) (by decide) (by decide)
theorem own_eqL {args : Array Value} {first s : State} {o : Option Outcome} {idx : List Nat} {a : Term} {k : Int64} (h : (Jvm.Cond.eq a (.long k)).value args first o s idx = some true) : a.eval args first o idx s = some (.long k) := by
  cases ha : a.eval args first o idx s with
  | none => simp [Cond.value, ha] at h
  | some x => cases x <;> simp [Cond.value, ha, Term.eval] at h ⊢ <;> exact h
theorem own_eqI {args : Array Value} {first s : State} {o : Option Outcome} {idx : List Nat} {a : Term} {k : Int32} (h : (Jvm.Cond.eq a (.int k)).value args first o s idx = some true) : a.eval args first o idx s = some (.int k) := by
  cases ha : a.eval args first o idx s with
  | none => simp [Cond.value, ha] at h
  | some x => cases x <;> simp [Cond.value, ha, Term.eval] at h ⊢ <;> exact h
theorem own_max (x : Int32) : (1 : Int32) < own_f2 1 x ∨ own_f2 1 x = 1 := by
  unfold own_f2
  by_cases h : (1 : Int32) < x
  · left; rw [if_pos h]; exact h
  · right; rw [if_neg h]
theorem own_law (p1 p2 p3 p4 : Int32) : own_f0 p1 p2 p3 = 1 := by
  unfold own_f0 own_f9 own_v0_50_L7 own_v0_50_L9 own_v0_101 own_v0_87
  have hm := own_max (p1 &&& 2147483647)
  generalize own_f2 1 (p1 &&& 2147483647) = M at *
  by_cases h0 : (p3 &&& 1) = 0
  · rw [if_pos h0]
    by_cases h1 : own_v0_22 p3 = 0
    · rcases hm with h | h
      · have hne : ¬ (1 : Int32) = M := fun q => Int32.lt_irrefl (q ▸ h)
        simp [h1, h, hne]
      · simp [h1, h]
    · simp [h1]
  · rw [if_neg h0]
    by_cases h1 : own_v0_22 p3 = 0
    · simp only [if_pos h1]
      by_cases h2 : p1 = p2
      · subst h2; simp [Int32.lt_irrefl]
      · by_cases h3 : p1 < p2
        · simp [h2, h3]
        · have h4 : p2 < p1 := by
            rw [Int32.lt_iff_toInt_lt] at h3 ⊢
            have : ¬ p1.toInt = p2.toInt := fun q => h2 (Int32.toInt_inj.mp q)
            omega
          simp [h2, h3, h4]
    · simp [h1, Int32.lt_irrefl]
set_option maxRecDepth 65536 in
set_option maxHeartbeats 40000000 in
theorem comes_1 {Post : Tables → Env → Array Value → State → Outcome → State → Prop} (hpost : ∀ tb e args s v u, (limb_1_1.after args s (.returned v) u = true ∧ limb_1_2.after args s (.returned v) u = true ∧ True) → FrameEnd s (.returned v) u (Jvm.fieldLocs frame_1_writes args s ++ Jvm.arrayLocs frame_1_arrays args s ++ Jvm.staticLocs frame_1_statics s) 16 128 → Post tb e args s (.returned v) u) :
    ArmFor flags0 classFile x code maxLocals ret World_1 tables_1 room_1 Calls_1 rest_1 Pre_1 Post := by
  intro l hfl _ _ p e ha hc hk s m args below hf hA hF happ hP
  obtain ⟨hcalls, hrest, hpre⟩ := hP
  obtain ⟨-, -, -, hnamed, -, -, -, hat⟩ := (Spec.applies_iff hf).mp happ
  obtain ⟨hg, hn⟩ := and_e (Cond.before_iff.mp (show (Jvm.Cond.and given_1 narrow_1).before args s = true from hpre))
  obtain ⟨g1, g2⟩ := and_e hg
  obtain ⟨g3, g4⟩ := and_e g2
  obtain ⟨g5, g6⟩ := and_e g4
  obtain ⟨g7, g8⟩ := and_e g6
  obtain ⟨w0, w1, w2, w3, rfl⟩ : ∃ w0 w1 w2 w3 : Value, args = #[w0, w1, w2, w3] := by
    have hs : args.size = 4 := by simpa [Cond.value, given_1] using g1
    obtain ⟨L⟩ := args
    match L, hs with
    | [w0, w1, w2, w3], _ => exact ⟨w0, w1, w2, w3, rfl⟩
  have hw := fun d (hd : d ∈ tables_1) => atoms_spec (ws := Jvm.Cond.code x code maxLocals ret :: tables_1) hat d (List.mem_cons_of_mem _ hd)
  have hfit : Fit s := fun {y c} hc i hi => by
    obtain ⟨ha, rfl⟩ := Array.getElem?_eq_some_iff.mp hc
    have q := List.all_eq_true.mp ((Array.all_eq_true_iff_forall_mem.mp hF) _ (Array.getElem_mem ha)) i (List.mem_range.mpr hi)
    simpa [Array.getElem?_eq_getElem hi] using q
  obtain ⟨hsets, hown0⟩ := atoms_of _ (rest_1_c_eq ▸ (show rest_1_c.before _ s = true from hrest))
  have hr0 := Cond.before_iff.mp hown0
  obtain ⟨i0, ei0⟩ := is_v g3
  obtain rfl : w0 = (.int i0) := Option.some.inj ei0
  obtain ⟨i1, ei1⟩ := is_v g5
  obtain rfl : w1 = (.int i1) := Option.some.inj ei1
  obtain ⟨i2, ei2⟩ := is_v g7
  obtain rfl : w2 = (.int i2) := Option.some.inj ei2
  obtain ⟨i3, ei3⟩ := is_v g8
  obtain rfl : w3 = (.int i3) := Option.some.inj ei3
  obtain ⟨n1, n2⟩ := and_e hn
  obtain ⟨n3, n4⟩ := and_e n2
  obtain ⟨n5, n6⟩ := and_e n4
  obtain ⟨aX, eX⟩ := exa_v n1
  obtain ⟨aY, eY⟩ := exa_v n3
  obtain ⟨aN, eN⟩ := exa_v n5
  obtain ⟨aZ, eZ⟩ := exa_v n6
  have SX : Sta s s.heap "com/example/barwright/barwright/DataComponent$CharacterSet" "X" "Lcom/example/barwright/barwright/DataComponent$CharacterSet;" (.ref aX) := Sta.start eX (Or.inr ⟨(hw _ (List.mem_of_getElem? (i := 5) rfl)), (hw _ (List.mem_of_getElem? (i := 6) rfl))⟩)
  have SY : Sta s s.heap "com/example/barwright/barwright/DataComponent$CharacterSet" "Y" "Lcom/example/barwright/barwright/DataComponent$CharacterSet;" (.ref aY) := Sta.start eY (Or.inr ⟨(hw _ (List.mem_of_getElem? (i := 5) rfl)), (hw _ (List.mem_of_getElem? (i := 68) rfl))⟩)
  have SN : Sta s s.heap "com/example/barwright/barwright/DataComponent$CharacterSet" "N" "Lcom/example/barwright/barwright/DataComponent$CharacterSet;" (.ref aN) := Sta.start eN (Or.inr ⟨(hw _ (List.mem_of_getElem? (i := 5) rfl)), (hw _ (List.mem_of_getElem? (i := 70) rfl))⟩)
  have SZ : Sta s s.heap "com/example/barwright/barwright/DataComponent$CharacterSet" "Z" "Lcom/example/barwright/barwright/DataComponent$CharacterSet;" (.ref aZ) := Sta.start eZ (Or.inr ⟨(hw _ (List.mem_of_getElem? (i := 5) rfl)), (hw _ (List.mem_of_getElem? (i := 72) rfl))⟩)
  obtain ⟨aD, eD⟩ := arr_v (Cond.before_iff.mp (hsets _ (List.mem_of_getElem? (i := 6) rfl)))
  have SD : Sta s s.heap "java/util/ArrayList" "DEFAULTCAPACITY_EMPTY_ELEMENTDATA" "[Ljava/lang/Object;" (.ref aD) := Sta.start eD (Or.inr ⟨(hw _ (List.mem_of_getElem? (i := 17) rfl)), hsets _ (List.mem_of_getElem? (i := 2) rfl)⟩)
  obtain ⟨n, o, h1, h2, h3, _, L, rfl, ⟨rfl, N⟩, hq⟩ := rm0 l s _ hw tables_1 i0 i1 i2 i3 aN aX aY aZ aD s.heap s.heap.size (Nat.le_refl _) SN SX SY SZ SD (Old.start s) p e ha hc hk s m _ below hf ((Spec.applies_iff_loose hf).mp happ).1 ⟨rfl, State.Warmed39.refl s, rfl⟩ trivial
  refine ⟨n, _, h1, h2, h3, hpost _ _ _ _ _ _ ⟨Cond.after_iff.mpr rfl, Cond.after_iff.mpr (eq_i res_at (Term.int_eval (1)) (congrArg Value.int (own_law i0 i1 i2 i3))), trivial⟩ ⟨hq.1, hq.2.1, (hq.2.2.sift fun y hy => Or.inr (N y hy)).mono (by decide) (by decide)⟩⟩
theorem main_1_1 : Claimed_1_1 := comes_1 fun _ _ _ _ _ _ h hF => ⟨h.1, hF⟩
theorem main_1_2 : Claimed_1_2 := comes_1 fun _ _ _ _ _ _ h hF => ⟨h.2.1, hF⟩
end Jvm.Pilot.@@N@@
namespace Jvm.Pilot.@@N@@
open Jvm Jvm.ClassFile Sem Op Lib Jvm.Free Jvm.Stand Jvm.Pilot.@@N@@.Jvm.D
/-! MADE BY PROGRAM (witnessworld.py) out of the Statement's table words and the real class files: 24 classes; the members and pool entries that the words name. The judged class is class 1, her method 2. -/
namespace start1
open Jvm.ClassFile
def u (s : String) : CpInfo := .utf8 (stringToUtf16 s)
/-- a pool by its gaps: so many unusable entries, then the entry; so many at the end -/
def gap : Nat → List CpInfo → List CpInfo
  | 0, r => r
  | n + 1, r => .unusable :: gap n r
def poolList (es : List (Nat × CpInfo)) (last : Nat) : List CpInfo := es.foldr (fun e r => gap e.1 (e.2 :: r)) (gap last [])
def pool (es : List (Nat × CpInfo)) (last : Nat) : Array CpInfo := ⟨poolList es last⟩
def fileOf (pool : Array CpInfo) (this : Nat) (attrs : Array Attribute := #[]) (ms : Array MethodInfo := #[]) (fl : Nat := 33) (sup : Nat := 0) (ifs : Array Nat := #[]) (fds : Array FieldInfo := #[]) : ClassFile where
  minorVersion := 0
  majorVersion := 65
  constantPool := pool
  accessFlags := fl
  thisClass := this
  superClass := sup
  interfaces := ifs
  fields := fds
  methods := ms
  attributes := attrs
def plain (name : String) (sup : Option ClassId) : Class where
  name := name
  kind := .ordinary
  loader := none
  accessFlags := 33
  super := sup
  interfaces := #[]
  cf := none
  fields := #[]
  methods := #[]
  instanceTypes := #[]
  staticTypes := #[]
  resolved := #[]
  callSites := []
  init := .initialized
  statics := none
  mirror := none

def pool0 : Array CpInfo := pool [(5, u "<init>"), (0, u "()V"), (1, .class_ 10), (1, u "java/lang/Object")] 113

def k0c0 : Code := { maxStack := 0, maxLocals := 1, code := object_method_1_code, exceptionTable := #[], attributes := #[] }
def k0m0 : Method := { name := "<init>", desc := "()V", sig := { parameters := [], returnType := none }, accessFlags := 1, code := some k0c0 }
/-- java/lang/Object -/
def k0 : Class := { plain "java/lang/Object" none with
  accessFlags := 33
  interfaces := #[]
  cf := some (fileOf pool0 8 #[] #[{ accessFlags := 1, nameIndex := 5, descriptorIndex := 6, attributes := #[] }] 33 0 #[] #[])
  fields := #[]
  methods := #[k0m0]
  instanceTypes := #[]
  staticTypes := #[]
  resolved := Array.replicate 124 none
  statics := none }

def pool1 : Array CpInfo := pool [(2, .class_ 4), (0, .nameAndType 5 6), (0, u "java/lang/Object"), (0, u "<init>"), (0, u "()V"), (0, .fieldref 8 9), (0, .class_ 10), (0, .nameAndType 11 12), (0, u "com/example/barwright/barwright/DataComponent$CharacterSet"), (0, u "N"), (0, u "Lcom/example/barwright/barwright/DataComponent$CharacterSet;"), (0, .fieldref 8 14), (0, .nameAndType 15 12), (0, u "X"), (0, .fieldref 8 17), (0, .nameAndType 18 12), (0, u "Y"), (0, .fieldref 8 20), (0, .nameAndType 21 12), (0, u "Z"), (0, .methodref 23 24), (0, .class_ 25), (0, .nameAndType 26 27), (0, u "com/example/barwright/barwright/DataComponentVariesPinLaw"), (0, u "pick"), (0, u "(I)Lcom/example/barwright/barwright/DataComponent$CharacterSet;"), (0, .integer 2147483647), (0, .methodref 30 31), (0, .class_ 32), (0, .nameAndType 33 34), (0, u "java/lang/Math"), (0, u "max"), (0, u "(II)I"), (0, .class_ 36), (0, u "com/example/barwright/barwright/DataComponent"), (0, .class_ 38), (0, u "java/util/ArrayList"), (0, .methodref 37 3), (0, .methodref 35 41), (0, .nameAndType 5 42), (0, u "(Lcom/example/barwright/barwright/DataComponent$CharacterSet;IIZLjava/util/List;Ljava/util/List;)V"), (0, .methodref 35 44), (0, .nameAndType 45 46), (0, u "varies"), (0, u "()Z"), (3, u "law"), (0, u "(IIII)Z")] 4

def k1m0 : Method := { name := "<init>", desc := "()V", sig := { parameters := [], returnType := none }, accessFlags := 2, code := none }
def k1c1 : Code := { maxStack := 2, maxLocals := 2, code := method_2_code, exceptionTable := #[], attributes := #[] }
def k1m1 : Method := { name := "pick", desc := "(I)Lcom/example/barwright/barwright/DataComponent$CharacterSet;", sig := { parameters := [.int], returnType := some (.object "com/example/barwright/barwright/DataComponent$CharacterSet") }, accessFlags := 10, code := some k1c1 }
def k1c2 : Code := { maxStack := 9, maxLocals := 11, code := code, exceptionTable := #[], attributes := #[] }
def k1m2 : Method := { name := "law", desc := "(IIII)Z", sig := { parameters := [.int, .int, .int, .int], returnType := some .boolean }, accessFlags := 9, code := some k1c2 }
/-- com/example/barwright/barwright/DataComponentVariesPinLaw -/
def k1 : Class := { plain "com/example/barwright/barwright/DataComponentVariesPinLaw" (some 0) with
  accessFlags := 49
  interfaces := #[]
  cf := some (fileOf pool1 23 #[] #[{ accessFlags := 2, nameIndex := 5, descriptorIndex := 6, attributes := #[] }, { accessFlags := 10, nameIndex := 26, descriptorIndex := 27, attributes := #[] }, { accessFlags := 9, nameIndex := 50, descriptorIndex := 51, attributes := #[] }] 49 2 #[] #[])
  fields := #[]
  methods := #[k1m0, k1m1, k1m2]
  instanceTypes := #[]
  staticTypes := #[]
  resolved := Array.replicate 56 none
  statics := none }

def pool2 : Array CpInfo := pool [(1, .class_ 2), (0, u "java/lang/constant/Constable"), (0, .class_ 4), (0, u "java/lang/Object")] 6

/-- java/lang/constant/Constable -/
def k2 : Class := { plain "java/lang/constant/Constable" (some 0) with
  accessFlags := 1537
  interfaces := #[]
  cf := some (fileOf pool2 1 #[] #[] 1537 3 #[] #[])
  fields := #[]
  methods := #[]
  instanceTypes := #[]
  staticTypes := #[]
  resolved := Array.replicate 11 none
  statics := none }

def pool3 : Array CpInfo := pool [(1, .class_ 2), (0, u "java/lang/Comparable"), (0, .class_ 4), (0, u "java/lang/Object")] 7

/-- java/lang/Comparable -/
def k3 : Class := { plain "java/lang/Comparable" (some 0) with
  accessFlags := 1537
  interfaces := #[]
  cf := some (fileOf pool3 1 #[] #[] 1537 3 #[] #[])
  fields := #[]
  methods := #[]
  instanceTypes := #[]
  staticTypes := #[]
  resolved := Array.replicate 12 none
  statics := none }

def pool4 : Array CpInfo := pool [(1, .class_ 2), (0, u "java/io/Serializable"), (0, .class_ 4), (0, u "java/lang/Object")] 2

/-- java/io/Serializable -/
def k4 : Class := { plain "java/io/Serializable" (some 0) with
  accessFlags := 1537
  interfaces := #[]
  cf := some (fileOf pool4 1 #[] #[] 1537 3 #[] #[])
  fields := #[]
  methods := #[]
  instanceTypes := #[]
  staticTypes := #[]
  resolved := Array.replicate 7 none
  statics := none }

def pool5 : Array CpInfo := pool [(2, .class_ 4), (1, u "java/lang/Enum"), (0, u "name"), (0, u "Ljava/lang/String;"), (2, u "ordinal"), (0, u "I"), (1, .class_ 14), (1, u "java/lang/Object"), (4, u "hash"), (86, .class_ 108), (1, u "java/lang/Enum$EnumDesc"), (2, .class_ 112), (0, u "java/lang/constant/Constable"), (0, .class_ 114), (0, u "java/lang/Comparable"), (0, .class_ 116), (0, u "java/io/Serializable")] 87

/-- java/lang/Enum -/
def k5 : Class := { plain "java/lang/Enum" (some 0) with
  accessFlags := 1057
  interfaces := #[2, 3, 4]
  cf := some (fileOf pool5 2 #[.nestMembers #[106]] #[] 1057 12 #[111, 113, 115] #[{ accessFlags := 18, nameIndex := 5, descriptorIndex := 6, attributes := #[] }, { accessFlags := 18, nameIndex := 9, descriptorIndex := 10, attributes := #[] }, { accessFlags := 2, nameIndex := 19, descriptorIndex := 10, attributes := #[] }])
  fields := #[{ name := "name", type := (.object "java/lang/String"), accessFlags := 18, slot := 0, constantValue := 0 }, { name := "ordinal", type := .int, accessFlags := 18, slot := 1, constantValue := 0 }, { name := "hash", type := .int, accessFlags := 2, slot := 2, constantValue := 0 }]
  methods := #[]
  instanceTypes := #[(.object "java/lang/String"), .int, .int]
  staticTypes := #[]
  resolved := Array.replicate 204 none
  statics := none }

def pool6 : Array CpInfo := pool [(1, .class_ 2), (0, u "com/example/barwright/barwright/DataComponent$CharacterSet"), (2, u "N"), (0, u "Lcom/example/barwright/barwright/DataComponent$CharacterSet;"), (2, u "X"), (2, u "Y"), (2, u "Z"), (2, u "$VALUES"), (0, u "[Lcom/example/barwright/barwright/DataComponent$CharacterSet;"), (6, .class_ 28), (1, u "java/lang/Enum"), (8, u "characters"), (0, u "Ljava/lang/String;"), (2, u "rule"), (49, .class_ 92), (0, u "com/example/barwright/barwright/DataComponent")] 2

/-- com/example/barwright/barwright/DataComponent$CharacterSet -/
def k6 : Class := { plain "com/example/barwright/barwright/DataComponent$CharacterSet" (some 5) with
  accessFlags := 16432
  interfaces := #[]
  cf := some (fileOf pool6 1 #[.nestHost 91] #[] 16432 26 #[] #[{ accessFlags := 16409, nameIndex := 5, descriptorIndex := 6, attributes := #[] }, { accessFlags := 16409, nameIndex := 9, descriptorIndex := 6, attributes := #[] }, { accessFlags := 16409, nameIndex := 12, descriptorIndex := 6, attributes := #[] }, { accessFlags := 16409, nameIndex := 15, descriptorIndex := 6, attributes := #[] }, { accessFlags := 18, nameIndex := 37, descriptorIndex := 38, attributes := #[] }, { accessFlags := 18, nameIndex := 41, descriptorIndex := 38, attributes := #[] }, { accessFlags := 4122, nameIndex := 18, descriptorIndex := 19, attributes := #[] }])
  fields := #[{ name := "N", type := (.object "com/example/barwright/barwright/DataComponent$CharacterSet"), accessFlags := 16409, slot := 0, constantValue := 0 }, { name := "X", type := (.object "com/example/barwright/barwright/DataComponent$CharacterSet"), accessFlags := 16409, slot := 1, constantValue := 0 }, { name := "Y", type := (.object "com/example/barwright/barwright/DataComponent$CharacterSet"), accessFlags := 16409, slot := 2, constantValue := 0 }, { name := "Z", type := (.object "com/example/barwright/barwright/DataComponent$CharacterSet"), accessFlags := 16409, slot := 3, constantValue := 0 }, { name := "characters", type := (.object "java/lang/String"), accessFlags := 18, slot := 3, constantValue := 0 }, { name := "rule", type := (.object "java/lang/String"), accessFlags := 18, slot := 4, constantValue := 0 }, { name := "$VALUES", type := (.array (.object "com/example/barwright/barwright/DataComponent$CharacterSet")), accessFlags := 4122, slot := 4, constantValue := 0 }]
  methods := #[]
  instanceTypes := #[(.object "java/lang/String"), .int, .int, (.object "java/lang/String"), (.object "java/lang/String")]
  staticTypes := #[(.object "com/example/barwright/barwright/DataComponent$CharacterSet"), (.object "com/example/barwright/barwright/DataComponent$CharacterSet"), (.object "com/example/barwright/barwright/DataComponent$CharacterSet"), (.object "com/example/barwright/barwright/DataComponent$CharacterSet"), (.array (.object "com/example/barwright/barwright/DataComponent$CharacterSet"))]
  resolved := Array.replicate 95 none
  statics := some 0 }

def pool7 : Array CpInfo := pool [(1, .class_ 2), (0, u "java/lang/Math"), (1, .class_ 6), (1, u "java/lang/Object"), (0, u "<init>"), (0, u "()V"), (89, .class_ 100), (1, u "java/lang/Math$RandomNumberGeneratorHolder"), (71, u "negativeZeroFloatBits"), (0, u "J"), (2, u "negativeZeroDoubleBits"), (21, u "max"), (46, u "$assertionsDisabled"), (0, u "Z"), (88, u "(II)I"), (2, u "twoToTheDoubleScaleDown"), (0, u "D"), (4, u "twoToTheDoubleScaleUp"), (9, u "E"), (3, u "PI"), (2, u "TAU"), (2, u "DEGREES_TO_RADIANS"), (0, u "RADIANS_TO_DEGREES")] 94

def k7m0 : Method := { name := "<init>", desc := "()V", sig := { parameters := [], returnType := none }, accessFlags := 2, code := none }
def k7c1 : Code := { maxStack := 2, maxLocals := 2, code := jdk_29_method_65_code, exceptionTable := #[], attributes := #[] }
def k7m1 : Method := { name := "max", desc := "(II)I", sig := { parameters := [.int, .int], returnType := some .int }, accessFlags := 9, code := some k7c1 }
/-- java/lang/Math -/
def k7 : Class := { plain "java/lang/Math" (some 0) with
  accessFlags := 49
  interfaces := #[]
  cf := some (fileOf pool7 1 #[.nestMembers #[98]] #[{ accessFlags := 2, nameIndex := 7, descriptorIndex := 8, attributes := #[] }, { accessFlags := 9, nameIndex := 198, descriptorIndex := 335, attributes := #[] }] 49 4 #[] #[{ accessFlags := 25, nameIndex := 354, descriptorIndex := 339, attributes := #[] }, { accessFlags := 25, nameIndex := 358, descriptorIndex := 339, attributes := #[] }, { accessFlags := 25, nameIndex := 361, descriptorIndex := 339, attributes := #[] }, { accessFlags := 26, nameIndex := 364, descriptorIndex := 339, attributes := #[] }, { accessFlags := 26, nameIndex := 365, descriptorIndex := 339, attributes := #[] }, { accessFlags := 26, nameIndex := 172, descriptorIndex := 173, attributes := #[] }, { accessFlags := 26, nameIndex := 176, descriptorIndex := 173, attributes := #[] }, { accessFlags := 8, nameIndex := 344, descriptorIndex := 339, attributes := #[] }, { accessFlags := 8, nameIndex := 338, descriptorIndex := 339, attributes := #[] }, { accessFlags := 4120, nameIndex := 245, descriptorIndex := 246, attributes := #[] }])
  fields := #[{ name := "E", type := .double, accessFlags := 25, slot := 0, constantValue := 0 }, { name := "PI", type := .double, accessFlags := 25, slot := 1, constantValue := 0 }, { name := "TAU", type := .double, accessFlags := 25, slot := 2, constantValue := 0 }, { name := "DEGREES_TO_RADIANS", type := .double, accessFlags := 26, slot := 3, constantValue := 0 }, { name := "RADIANS_TO_DEGREES", type := .double, accessFlags := 26, slot := 4, constantValue := 0 }, { name := "negativeZeroFloatBits", type := .long, accessFlags := 26, slot := 5, constantValue := 0 }, { name := "negativeZeroDoubleBits", type := .long, accessFlags := 26, slot := 6, constantValue := 0 }, { name := "twoToTheDoubleScaleUp", type := .double, accessFlags := 8, slot := 7, constantValue := 0 }, { name := "twoToTheDoubleScaleDown", type := .double, accessFlags := 8, slot := 8, constantValue := 0 }, { name := "$assertionsDisabled", type := .boolean, accessFlags := 4120, slot := 9, constantValue := 0 }]
  methods := #[k7m0, k7m1]
  instanceTypes := #[]
  staticTypes := #[.double, .double, .double, .double, .double, .long, .long, .double, .double, .boolean]
  resolved := Array.replicate 460 none
  statics := none }

def pool8 : Array CpInfo := pool [(1, .methodref 2 3), (0, .class_ 4), (0, .nameAndType 5 6), (0, u "java/lang/Object"), (0, u "<init>"), (0, u "()V"), (0, .class_ 8), (0, u "java/lang/Record")] 13

def k8c0 : Code := { maxStack := 1, maxLocals := 1, code := jdk_30_method_1_code, exceptionTable := #[], attributes := #[] }
def k8m0 : Method := { name := "<init>", desc := "()V", sig := { parameters := [], returnType := none }, accessFlags := 4, code := some k8c0 }
/-- java/lang/Record -/
def k8 : Class := { plain "java/lang/Record" (some 0) with
  accessFlags := 1057
  interfaces := #[]
  cf := some (fileOf pool8 7 #[] #[{ accessFlags := 4, nameIndex := 5, descriptorIndex := 6, attributes := #[] }] 1057 2 #[] #[])
  fields := #[]
  methods := #[k8m0]
  instanceTypes := #[]
  staticTypes := #[]
  resolved := Array.replicate 22 none
  statics := none }

def pool9 : Array CpInfo := pool [(1, .methodref 2 3), (0, .class_ 4), (0, .nameAndType 5 6), (0, u "java/lang/Record"), (0, u "<init>"), (0, u "()V"), (0, .fieldref 8 9), (0, .class_ 10), (0, .nameAndType 11 12), (0, u "com/example/barwright/barwright/DataComponent"), (0, u "characters"), (0, u "Lcom/example/barwright/barwright/DataComponent$CharacterSet;"), (0, .fieldref 8 14), (0, .nameAndType 15 16), (0, u "shortest"), (0, u "I"), (0, .fieldref 8 18), (0, .nameAndType 19 16), (0, u "longest"), (0, .fieldref 8 21), (0, .nameAndType 22 23), (0, u "optional"), (0, u "Z"), (0, .fieldref 8 25), (0, .nameAndType 26 27), (0, u "linters"), (0, u "Ljava/util/List;"), (0, .fieldref 8 29), (0, .nameAndType 30 27), (0, u "checked"), (2, u "SYNTAX"), (0, u "Ljava/util/regex/Pattern;"), (11, u "()Z"), (25, .class_ 74), (1, u "com/example/barwright/barwright/DataComponent$CharacterSet"), (85, u "(Lcom/example/barwright/barwright/DataComponent$CharacterSet;IIZLjava/util/List;Ljava/util/List;)V"), (32, u "varies")] 132

def k9c0 : Code := { maxStack := 2, maxLocals := 7, code := prog_10_method_1_code, exceptionTable := #[], attributes := #[] }
def k9m0 : Method := { name := "<init>", desc := "(Lcom/example/barwright/barwright/DataComponent$CharacterSet;IIZLjava/util/List;Ljava/util/List;)V", sig := { parameters := [(.object "com/example/barwright/barwright/DataComponent$CharacterSet"), .int, .int, .boolean, (.object "java/util/List"), (.object "java/util/List")], returnType := none }, accessFlags := 0, code := some k9c0 }
def k9c1 : Code := { maxStack := 2, maxLocals := 1, code := prog_10_method_3_code, exceptionTable := #[], attributes := #[] }
def k9m1 : Method := { name := "varies", desc := "()Z", sig := { parameters := [], returnType := some .boolean }, accessFlags := 0, code := some k9c1 }
/-- com/example/barwright/barwright/DataComponent -/
def k9 : Class := { plain "com/example/barwright/barwright/DataComponent" (some 8) with
  accessFlags := 48
  interfaces := #[]
  cf := some (fileOf pool9 8 #[.nestMembers #[72]] #[{ accessFlags := 0, nameIndex := 5, descriptorIndex := 160, attributes := #[] }, { accessFlags := 0, nameIndex := 193, descriptorIndex := 46, attributes := #[] }] 48 2 #[] #[{ accessFlags := 18, nameIndex := 11, descriptorIndex := 12, attributes := #[] }, { accessFlags := 18, nameIndex := 15, descriptorIndex := 16, attributes := #[] }, { accessFlags := 18, nameIndex := 19, descriptorIndex := 16, attributes := #[] }, { accessFlags := 18, nameIndex := 22, descriptorIndex := 23, attributes := #[] }, { accessFlags := 18, nameIndex := 26, descriptorIndex := 27, attributes := #[] }, { accessFlags := 18, nameIndex := 30, descriptorIndex := 27, attributes := #[] }, { accessFlags := 26, nameIndex := 33, descriptorIndex := 34, attributes := #[] }])
  fields := #[{ name := "characters", type := (.object "com/example/barwright/barwright/DataComponent$CharacterSet"), accessFlags := 18, slot := 0, constantValue := 0 }, { name := "shortest", type := .int, accessFlags := 18, slot := 1, constantValue := 0 }, { name := "longest", type := .int, accessFlags := 18, slot := 2, constantValue := 0 }, { name := "optional", type := .boolean, accessFlags := 18, slot := 3, constantValue := 0 }, { name := "linters", type := (.object "java/util/List"), accessFlags := 18, slot := 4, constantValue := 0 }, { name := "checked", type := (.object "java/util/List"), accessFlags := 18, slot := 5, constantValue := 0 }, { name := "SYNTAX", type := (.object "java/util/regex/Pattern"), accessFlags := 26, slot := 0, constantValue := 0 }]
  methods := #[k9m0, k9m1]
  instanceTypes := #[(.object "com/example/barwright/barwright/DataComponent$CharacterSet"), .int, .int, .boolean, (.object "java/util/List"), (.object "java/util/List")]
  staticTypes := #[(.object "java/util/regex/Pattern")]
  resolved := Array.replicate 326 none
  statics := none }

def pool10 : Array CpInfo := pool [(8, .class_ 10), (1, u "java/lang/Iterable"), (24, .class_ 36), (0, u "java/lang/Object")] 25

/-- java/lang/Iterable -/
def k10 : Class := { plain "java/lang/Iterable" (some 0) with
  accessFlags := 1537
  interfaces := #[]
  cf := some (fileOf pool10 8 #[] #[] 1537 35 #[] #[])
  fields := #[]
  methods := #[]
  instanceTypes := #[]
  staticTypes := #[]
  resolved := Array.replicate 62 none
  statics := none }

def pool11 : Array CpInfo := pool [(10, .class_ 12), (1, u "java/util/Collection"), (47, .class_ 61), (0, u "java/lang/Object"), (0, .class_ 63), (0, u "java/lang/Iterable")] 51

/-- java/util/Collection -/
def k11 : Class := { plain "java/util/Collection" (some 0) with
  accessFlags := 1537
  interfaces := #[10]
  cf := some (fileOf pool11 10 #[] #[] 1537 60 #[62] #[])
  fields := #[]
  methods := #[]
  instanceTypes := #[]
  staticTypes := #[]
  resolved := Array.replicate 115 none
  statics := none }

def pool12 : Array CpInfo := pool [(1, .methodref 2 3), (0, .class_ 4), (0, .nameAndType 5 6), (0, u "java/lang/Object"), (0, u "<init>"), (0, u "()V"), (1, .class_ 10), (1, u "java/util/AbstractCollection"), (66, .class_ 78), (0, u "java/util/Collection")] 81

def k12c0 : Code := { maxStack := 1, maxLocals := 1, code := jdk_22_method_1_code, exceptionTable := #[], attributes := #[] }
def k12m0 : Method := { name := "<init>", desc := "()V", sig := { parameters := [], returnType := none }, accessFlags := 4, code := some k12c0 }
/-- java/util/AbstractCollection -/
def k12 : Class := { plain "java/util/AbstractCollection" (some 0) with
  accessFlags := 1057
  interfaces := #[11]
  cf := some (fileOf pool12 8 #[] #[{ accessFlags := 4, nameIndex := 5, descriptorIndex := 6, attributes := #[] }] 1057 2 #[77] #[])
  fields := #[]
  methods := #[k12m0]
  instanceTypes := #[]
  staticTypes := #[]
  resolved := Array.replicate 160 none
  statics := none }

def pool13 : Array CpInfo := pool [(8, .class_ 10), (1, u "java/util/SequencedCollection"), (15, .class_ 27), (0, u "java/lang/Object"), (0, .class_ 29), (0, u "java/util/Collection")] 27

/-- java/util/SequencedCollection -/
def k13 : Class := { plain "java/util/SequencedCollection" (some 0) with
  accessFlags := 1537
  interfaces := #[11]
  cf := some (fileOf pool13 8 #[] #[] 1537 26 #[28] #[])
  fields := #[]
  methods := #[]
  instanceTypes := #[]
  staticTypes := #[]
  resolved := Array.replicate 57 none
  statics := none }

def pool14 : Array CpInfo := pool [(8, .class_ 10), (1, u "java/util/List"), (92, .class_ 104), (0, u "java/lang/Object"), (15, .class_ 121), (0, u "java/util/SequencedCollection")] 129

/-- java/util/List -/
def k14 : Class := { plain "java/util/List" (some 0) with
  accessFlags := 1537
  interfaces := #[13]
  cf := some (fileOf pool14 8 #[] #[] 1537 103 #[120] #[])
  fields := #[]
  methods := #[]
  instanceTypes := #[]
  staticTypes := #[]
  resolved := Array.replicate 251 none
  statics := none }

def pool15 : Array CpInfo := pool [(1, .methodref 2 3), (0, .class_ 4), (0, .nameAndType 5 6), (0, u "java/util/AbstractCollection"), (0, u "<init>"), (0, u "()V"), (0, .fieldref 8 9), (0, .class_ 10), (0, .nameAndType 11 12), (0, u "java/util/AbstractList"), (0, u "modCount"), (0, u "I"), (64, .class_ 78), (0, u "java/util/AbstractList$Itr"), (3, .class_ 83), (0, u "java/util/AbstractList$ListItr"), (9, .class_ 94), (0, u "java/util/AbstractList$RandomAccessSubList"), (3, .class_ 99), (0, u "java/util/AbstractList$SubList"), (33, .class_ 134), (0, u "java/util/List"), (73, .class_ 209), (0, u "java/util/AbstractList$SubList$1"), (0, .class_ 211), (0, u "java/util/AbstractList$RandomAccessSpliterator")] 6

def k15c0 : Code := { maxStack := 2, maxLocals := 1, code := jdk_39_method_1_code, exceptionTable := #[], attributes := #[] }
def k15m0 : Method := { name := "<init>", desc := "()V", sig := { parameters := [], returnType := none }, accessFlags := 4, code := some k15c0 }
/-- java/util/AbstractList -/
def k15 : Class := { plain "java/util/AbstractList" (some 12) with
  accessFlags := 1057
  interfaces := #[14]
  cf := some (fileOf pool15 8 #[.nestMembers #[93, 98, 208, 210, 82, 77]] #[{ accessFlags := 4, nameIndex := 5, descriptorIndex := 6, attributes := #[] }] 1057 2 #[133] #[{ accessFlags := 132, nameIndex := 11, descriptorIndex := 12, attributes := #[] }])
  fields := #[{ name := "modCount", type := .int, accessFlags := 132, slot := 0, constantValue := 0 }]
  methods := #[k15m0]
  instanceTypes := #[.int]
  staticTypes := #[]
  resolved := Array.replicate 218 none
  statics := none }

def pool16 : Array CpInfo := pool [(1, .class_ 2), (0, u "java/util/RandomAccess"), (0, .class_ 4), (0, u "java/lang/Object")] 2

/-- java/util/RandomAccess -/
def k16 : Class := { plain "java/util/RandomAccess" (some 0) with
  accessFlags := 1537
  interfaces := #[]
  cf := some (fileOf pool16 1 #[] #[] 1537 3 #[] #[])
  fields := #[]
  methods := #[]
  instanceTypes := #[]
  staticTypes := #[]
  resolved := Array.replicate 7 none
  statics := none }

def pool17 : Array CpInfo := pool [(1, .class_ 2), (0, u "java/lang/Cloneable"), (0, .class_ 4), (0, u "java/lang/Object")] 2

/-- java/lang/Cloneable -/
def k17 : Class := { plain "java/lang/Cloneable" (some 0) with
  accessFlags := 1537
  interfaces := #[]
  cf := some (fileOf pool17 1 #[] #[] 1537 3 #[] #[])
  fields := #[]
  methods := #[]
  instanceTypes := #[]
  staticTypes := #[]
  resolved := Array.replicate 7 none
  statics := none }

def pool18 : Array CpInfo := pool [(1, .methodref 2 3), (0, .class_ 4), (0, .nameAndType 5 6), (0, u "java/util/AbstractList"), (0, u "<init>"), (0, u "()V"), (2, .fieldref 10 11), (0, .class_ 12), (0, .nameAndType 13 14), (0, u "java/util/ArrayList"), (0, u "elementData"), (0, u "[Ljava/lang/Object;"), (2, u "EMPTY_ELEMENTDATA"), (21, .fieldref 10 40), (0, .nameAndType 41 14), (0, u "DEFAULTCAPACITY_EMPTY_ELEMENTDATA"), (8, u "size"), (0, u "I"), (96, .class_ 149), (0, u "java/util/List"), (112, .class_ 263), (0, u "java/util/ArrayList$ListItr"), (3, .class_ 268), (0, u "java/util/ArrayList$Itr"), (7, .class_ 277), (0, u "java/util/ArrayList$SubList"), (12, .class_ 291), (0, u "java/util/ArrayList$ArrayListSpliterator"), (37, .class_ 330), (0, u "java/util/RandomAccess"), (0, .class_ 332), (0, u "java/lang/Cloneable"), (0, .class_ 334), (0, u "java/io/Serializable"), (0, u "serialVersionUID"), (0, u "J"), (3, u "DEFAULT_CAPACITY"), (159, .class_ 501), (0, u "java/util/ArrayList$SubList$2"), (0, .class_ 503), (0, u "java/util/ArrayList$SubList$1")] 5

def k18c0 : Code := { maxStack := 2, maxLocals := 1, code := jdk_38_method_2_code, exceptionTable := #[], attributes := #[] }
def k18m0 : Method := { name := "<init>", desc := "()V", sig := { parameters := [], returnType := none }, accessFlags := 1, code := some k18c0 }
/-- java/util/ArrayList -/
def k18 : Class := { plain "java/util/ArrayList" (some 15) with
  accessFlags := 33
  interfaces := #[14, 16, 17, 4]
  cf := some (fileOf pool18 10 #[.nestMembers #[290, 276, 500, 502, 262, 267]] #[{ accessFlags := 1, nameIndex := 5, descriptorIndex := 6, attributes := #[] }] 33 2 #[148, 329, 331, 333] #[{ accessFlags := 26, nameIndex := 335, descriptorIndex := 336, attributes := #[] }, { accessFlags := 26, nameIndex := 340, descriptorIndex := 51, attributes := #[] }, { accessFlags := 26, nameIndex := 17, descriptorIndex := 14, attributes := #[] }, { accessFlags := 26, nameIndex := 41, descriptorIndex := 14, attributes := #[] }, { accessFlags := 128, nameIndex := 13, descriptorIndex := 14, attributes := #[] }, { accessFlags := 2, nameIndex := 50, descriptorIndex := 51, attributes := #[] }])
  fields := #[{ name := "serialVersionUID", type := .long, accessFlags := 26, slot := 0, constantValue := 0 }, { name := "DEFAULT_CAPACITY", type := .int, accessFlags := 26, slot := 1, constantValue := 0 }, { name := "EMPTY_ELEMENTDATA", type := (.array (.object "java/lang/Object")), accessFlags := 26, slot := 2, constantValue := 0 }, { name := "DEFAULTCAPACITY_EMPTY_ELEMENTDATA", type := (.array (.object "java/lang/Object")), accessFlags := 26, slot := 3, constantValue := 0 }, { name := "elementData", type := (.array (.object "java/lang/Object")), accessFlags := 128, slot := 1, constantValue := 0 }, { name := "size", type := .int, accessFlags := 2, slot := 2, constantValue := 0 }]
  methods := #[k18m0]
  instanceTypes := #[.int, (.array (.object "java/lang/Object")), .int]
  staticTypes := #[.long, .int, (.array (.object "java/lang/Object")), (.array (.object "java/lang/Object"))]
  resolved := Array.replicate 509 none
  statics := some 1 }

/-- the primitive byte -/
def k19 : Class := { plain "byte" none with kind := .primitive 'B', accessFlags := 0x411 }
/-- [B -/
def k20 : Class := { plain "[B" (some 0) with kind := .array 19 .byte, interfaces := #[17, 4], accessFlags := 1041 }

/-- the primitive int -/
def k21 : Class := { plain "int" none with kind := .primitive 'I', accessFlags := 0x411 }
/-- [I -/
def k22 : Class := { plain "[I" (some 0) with kind := .array 21 .int, interfaces := #[17, 4], accessFlags := 1041 }

/-- [Ljava/lang/Object; -/
def k23 : Class := { plain "[Ljava/lang/Object;" (some 0) with kind := .array 0 (.object "java/lang/Object"), interfaces := #[17, 4], accessFlags := 1041 }

def heap : Heap := #[{ cls := 6, slots := #[.ref 2, .ref 3, .ref 4, .ref 5, .null], vm := .statics 6 },
  { cls := 18, slots := #[.long 0, .int 0, .ref 6, .ref 7], vm := .statics 18 },
  { cls := 6, slots := #[.null, .int 0, .int 0, .null, .null], vm := .none },
  { cls := 6, slots := #[.null, .int 0, .int 0, .null, .null], vm := .none },
  { cls := 6, slots := #[.null, .int 0, .int 0, .null, .null], vm := .none },
  { cls := 6, slots := #[.null, .int 0, .int 0, .null, .null], vm := .none },
  { cls := 23, slots := #[], vm := .none },
  { cls := 23, slots := #[], vm := .none }]
def classes : Array Class := #[k0, k1, k2, k3, k4, k5, k6, k7, k8, k9, k10, k11, k12, k13, k14, k15, k16, k17, k18, k19, k20, k21, k22, k23]
def interned : List (Array UInt16 × Addr) := []
def slotsUsed : Nat := 29
def theMethod : MethodId := ⟨1, 2⟩
def args0 : Array Value := #[.int 3, .int 5, .int 4, .int 0]
def aboutOver (below : List Frame) : State where
  vm := { classes := classes, interned := interned.toArray }
  heap := heap
  slotsUsed := slotsUsed
  threads := #[{ frames := .invoking theMethod args0 :: below }]
def below0 : List Frame := [.native { method := ⟨0, 0⟩, args := #[] }]
def about1 : State := aboutOver below0
def p0 : Program := .bare "" "" ""
def e0 : Env := launch0.env 0 0 0
theorem w_frames : about1.frames = Frame.invoking theMethod args0 :: below0 := rfl
set_option maxRecDepth 65536 in
theorem w_args : argsFit about1.vm theMethod args0 = true := by decide +kernel
set_option maxRecDepth 65536 in
theorem w_heap : heapFits about1 = true := by decide +kernel
set_option maxRecDepth 65536 in
theorem w_runnable : about1.curStatus? = some .runnable := by decide +kernel
set_option maxRecDepth 65536 in
theorem w_alone : about1.alone = true := by decide +kernel
set_option maxRecDepth 65536 in
theorem w_named : about1.methodNamed? x = some theMethod := by decide +kernel
set_option maxRecDepth 65536 in
theorem w_hears : about1.hears theMethod below0 = true := by decide +kernel
set_option maxRecDepth 65536 in
theorem w_ripe : about1.ripe theMethod args0 below0 = true := by decide +kernel
theorem w_running : about1.status = .running := rfl
set_option maxRecDepth 65536 in
theorem w_room : about1.hasRoom e0.platform room_1 = true :=
  launch0.hasRoom_least _ room_1 (by decide +kernel) (by decide +kernel) (by decide +kernel) (by decide +kernel) (by decide +kernel) (by decide +kernel)
theorem allAtoms_all (ts : List Jvm.Cond) (a : Array Jvm.Value) (st : Jvm.State) : (allAtoms ts).before a st = ts.all (fun c => c.before a st) := by
  induction ts with
  | nil => rfl
  | cons c t ih =>
    show (Jvm.Cond.and c (allAtoms t)).before a st = _
    rw [Jvm.Cond.before_and, ih, List.all_cons]
def words1 : List Jvm.Cond := Jvm.Cond.code x code maxLocals ret :: tables_1
/-- a 'code' word, met by the world's own term for the bytes: nothing is compared byte by byte -/
theorem code_word {y : MethodName} {bytes : ByteArray} {mx : Nat} {rt : Option FieldType} {a : Array Value} {s : State} {m : MethodId} {meth : Method} {c : Code} (h1 : s.methodNamed? y = some m) (h2 : s.vm.method? m = some meth) (h3 : meth.code = some c) (h4 : c.code = bytes)
    (h5 : (c.maxLocals == mx && c.exceptionTable.isEmpty && decide (c.maxStack ≤ mostOperands) && decide (meth.sig.returnType = rt) && !meth.locks && decide (parseMethodDescriptor y.desc = some meth.sig)) = true) : (Jvm.Cond.code y bytes mx rt).before a s = true := by
  simp only [Bool.and_eq_true, beq_iff_eq, Bool.not_eq_true', decide_eq_true_eq] at h5
  obtain ⟨⟨⟨⟨⟨g1, g2⟩, g3⟩, g4⟩, g5⟩, g6⟩ := h5
  simp [Cond.before, Cond.holds, Cond.value, h1, h2, h3, h4, g1, g2, g3, g4, g5, g6]
def isCode : Jvm.Cond → Bool
  | .code _ _ _ _ => true
  | _ => false
theorem all_split {L : List Jvm.Cond} {P : Jvm.Cond → Bool} (h1 : L.all (fun c => isCode c || P c) = true) (h2 : ∀ c ∈ L.filter isCode, P c = true) : L.all P = true := by
  refine List.all_eq_true.mpr fun c hc => ?_
  have h := List.all_eq_true.mp h1 c hc
  rcases Bool.eq_false_or_eq_true (isCode c) with hi | hi
  · exact h2 c (List.mem_filter.mpr ⟨hc, hi⟩)
  · simpa [hi] using h
set_option maxRecDepth 65536 in
theorem w_c0 : (Jvm.Cond.code x code maxLocals ret).before args0 about1 = true := code_word (m := ⟨1, 2⟩) (meth := k1m2) (c := k1c2) (by decide +kernel) rfl rfl rfl (by decide +kernel)
set_option maxRecDepth 65536 in
theorem w_c1 : (Jvm.Cond.code ({ cls := "com/example/barwright/barwright/DataComponentVariesPinLaw", name := "pick", desc := "(I)Lcom/example/barwright/barwright/DataComponent$CharacterSet;" } : Jvm.MethodName) method_2_code (2 : Nat) (Option.some (Jvm.ClassFile.FieldType.object "com/example/barwright/barwright/DataComponent$CharacterSet"))).before args0 about1 = true := code_word (m := ⟨1, 1⟩) (meth := k1m1) (c := k1c1) (by decide +kernel) rfl rfl rfl (by decide +kernel)
set_option maxRecDepth 65536 in
theorem w_c2 : (Jvm.Cond.code ({ cls := "java/lang/Math", name := "max", desc := "(II)I" } : Jvm.MethodName) jdk_29_method_65_code (2 : Nat) (Option.some Jvm.ClassFile.FieldType.int)).before args0 about1 = true := code_word (m := ⟨7, 1⟩) (meth := k7m1) (c := k7c1) (by decide +kernel) rfl rfl rfl (by decide +kernel)
set_option maxRecDepth 65536 in
theorem w_c3 : (Jvm.Cond.code ({ cls := "java/util/ArrayList", name := "<init>", desc := "()V" } : Jvm.MethodName) jdk_38_method_2_code (1 : Nat) (Option.none : Option Jvm.ClassFile.FieldType)).before args0 about1 = true := code_word (m := ⟨18, 0⟩) (meth := k18m0) (c := k18c0) (by decide +kernel) rfl rfl rfl (by decide +kernel)
set_option maxRecDepth 65536 in
theorem w_c4 : (Jvm.Cond.code ({ cls := "java/util/AbstractList", name := "<init>", desc := "()V" } : Jvm.MethodName) jdk_39_method_1_code (1 : Nat) (Option.none : Option Jvm.ClassFile.FieldType)).before args0 about1 = true := code_word (m := ⟨15, 0⟩) (meth := k15m0) (c := k15c0) (by decide +kernel) rfl rfl rfl (by decide +kernel)
set_option maxRecDepth 65536 in
theorem w_c5 : (Jvm.Cond.code ({ cls := "java/util/AbstractCollection", name := "<init>", desc := "()V" } : Jvm.MethodName) jdk_22_method_1_code (1 : Nat) (Option.none : Option Jvm.ClassFile.FieldType)).before args0 about1 = true := code_word (m := ⟨12, 0⟩) (meth := k12m0) (c := k12c0) (by decide +kernel) rfl rfl rfl (by decide +kernel)
set_option maxRecDepth 65536 in
theorem w_c6 : (Jvm.Cond.code ({ cls := "java/lang/Object", name := "<init>", desc := "()V" } : Jvm.MethodName) object_method_1_code (1 : Nat) (Option.none : Option Jvm.ClassFile.FieldType)).before args0 about1 = true := code_word (m := ⟨0, 0⟩) (meth := k0m0) (c := k0c0) (by decide +kernel) rfl rfl rfl (by decide +kernel)
set_option maxRecDepth 65536 in
theorem w_c7 : (Jvm.Cond.code ({ cls := "com/example/barwright/barwright/DataComponent", name := "<init>", desc := "(Lcom/example/barwright/barwright/DataComponent$CharacterSet;IIZLjava/util/List;Ljava/util/List;)V" } : Jvm.MethodName) prog_10_method_1_code (7 : Nat) (Option.none : Option Jvm.ClassFile.FieldType)).before args0 about1 = true := code_word (m := ⟨9, 0⟩) (meth := k9m0) (c := k9c0) (by decide +kernel) rfl rfl rfl (by decide +kernel)
set_option maxRecDepth 65536 in
theorem w_c8 : (Jvm.Cond.code ({ cls := "java/lang/Record", name := "<init>", desc := "()V" } : Jvm.MethodName) jdk_30_method_1_code (1 : Nat) (Option.none : Option Jvm.ClassFile.FieldType)).before args0 about1 = true := code_word (m := ⟨8, 0⟩) (meth := k8m0) (c := k8c0) (by decide +kernel) rfl rfl rfl (by decide +kernel)
set_option maxRecDepth 65536 in
theorem w_c9 : (Jvm.Cond.code ({ cls := "com/example/barwright/barwright/DataComponent", name := "varies", desc := "()Z" } : Jvm.MethodName) prog_10_method_3_code (1 : Nat) (Option.some Jvm.ClassFile.FieldType.boolean)).before args0 about1 = true := code_word (m := ⟨9, 1⟩) (meth := k9m1) (c := k9c1) (by decide +kernel) rfl rfl rfl (by decide +kernel)
def codes1 : List Jvm.Cond := [Jvm.Cond.code x code maxLocals ret, Jvm.Cond.code ({ cls := "com/example/barwright/barwright/DataComponentVariesPinLaw", name := "pick", desc := "(I)Lcom/example/barwright/barwright/DataComponent$CharacterSet;" } : Jvm.MethodName) method_2_code (2 : Nat) (Option.some (Jvm.ClassFile.FieldType.object "com/example/barwright/barwright/DataComponent$CharacterSet")), Jvm.Cond.code ({ cls := "java/lang/Math", name := "max", desc := "(II)I" } : Jvm.MethodName) jdk_29_method_65_code (2 : Nat) (Option.some Jvm.ClassFile.FieldType.int), Jvm.Cond.code ({ cls := "java/util/ArrayList", name := "<init>", desc := "()V" } : Jvm.MethodName) jdk_38_method_2_code (1 : Nat) (Option.none : Option Jvm.ClassFile.FieldType), Jvm.Cond.code ({ cls := "java/util/AbstractList", name := "<init>", desc := "()V" } : Jvm.MethodName) jdk_39_method_1_code (1 : Nat) (Option.none : Option Jvm.ClassFile.FieldType), Jvm.Cond.code ({ cls := "java/util/AbstractCollection", name := "<init>", desc := "()V" } : Jvm.MethodName) jdk_22_method_1_code (1 : Nat) (Option.none : Option Jvm.ClassFile.FieldType), Jvm.Cond.code ({ cls := "java/lang/Object", name := "<init>", desc := "()V" } : Jvm.MethodName) object_method_1_code (1 : Nat) (Option.none : Option Jvm.ClassFile.FieldType), Jvm.Cond.code ({ cls := "com/example/barwright/barwright/DataComponent", name := "<init>", desc := "(Lcom/example/barwright/barwright/DataComponent$CharacterSet;IIZLjava/util/List;Ljava/util/List;)V" } : Jvm.MethodName) prog_10_method_1_code (7 : Nat) (Option.none : Option Jvm.ClassFile.FieldType), Jvm.Cond.code ({ cls := "java/lang/Record", name := "<init>", desc := "()V" } : Jvm.MethodName) jdk_30_method_1_code (1 : Nat) (Option.none : Option Jvm.ClassFile.FieldType), Jvm.Cond.code ({ cls := "com/example/barwright/barwright/DataComponent", name := "varies", desc := "()Z" } : Jvm.MethodName) prog_10_method_3_code (1 : Nat) (Option.some Jvm.ClassFile.FieldType.boolean)]
set_option maxRecDepth 65536 in
theorem codes_eq : words1.filter isCode = codes1 := rfl
theorem w_codes : ∀ c ∈ words1.filter isCode, c.before args0 about1 = true := by
  rw [codes_eq]
  intro c hc
  simp only [codes1, List.mem_cons, List.not_mem_nil, or_false] at hc
  rcases hc with rfl | rfl | rfl | rfl | rfl | rfl | rfl | rfl | rfl | rfl
  · exact w_c0
  · exact w_c1
  · exact w_c2
  · exact w_c3
  · exact w_c4
  · exact w_c5
  · exact w_c6
  · exact w_c7
  · exact w_c8
  · exact w_c9
set_option maxRecDepth 65536 in
theorem w_t1 : (words1.take 24).all (fun c => isCode c || c.before args0 about1) = true := by decide +kernel
set_option maxRecDepth 65536 in
theorem w_t2 : ((words1.drop 24).take 24).all (fun c => isCode c || c.before args0 about1) = true := by decide +kernel
set_option maxRecDepth 65536 in
theorem w_t3 : (((words1.drop 24).drop 24).take 24).all (fun c => isCode c || c.before args0 about1) = true := by decide +kernel
set_option maxRecDepth 65536 in
theorem w_t4 : (((words1.drop 24).drop 24).drop 24).all (fun c => isCode c || c.before args0 about1) = true := by decide +kernel
theorem w_tables : (allAtoms (Jvm.Cond.code x code maxLocals ret :: tables_1)).before args0 about1 = true := by
  rw [allAtoms_all]
  show words1.all (fun c => c.before args0 about1) = true
  refine all_split ?_ w_codes
  rw [← List.take_append_drop 24 words1, List.all_append, w_t1, ← List.take_append_drop 24 (words1.drop 24), List.all_append, w_t2, ← List.take_append_drop 24 ((words1.drop 24).drop 24), List.all_append, w_t3, w_t4]
  rfl
set_option maxRecDepth 65536 in
theorem w_rest : rest_1_c.before args0 about1 = true := by decide +kernel
set_option maxRecDepth 65536 in
theorem w_case : (Jvm.Cond.and given_1 narrow_1).before args0 about1 = true := by decide +kernel
theorem w_applies : (headSpec (Jvm.Cond.code x code maxLocals ret :: tables_1) room_1).applies x e0.platform about1 = true :=
  (Spec.applies_iff w_frames).mpr ⟨w_running, w_runnable, w_alone, w_named, w_hears, w_ripe, w_room, w_tables⟩
theorem atStart : AtStart classFile x code maxLocals ret World_1 tables_1 room_1 Calls_1 rest_1 Pre_1 launch0 p0 e0 about1 theMethod args0 below0 :=
  ⟨lists_1, trivial, launch0.admits_env _ _ _, launch0.least_env, fairChoices_fair.cas, fairChoices_fair.clock, w_frames, w_args, w_heap, w_applies, trivial, w_rest, w_case⟩
end start1
theorem witness_1 : WitnessClaimed_1 := ⟨start1.p0, start1.e0, start1.about1, start1.theMethod, start1.args0, start1.below0, start1.atStart⟩
end Jvm.Pilot.@@N@@
