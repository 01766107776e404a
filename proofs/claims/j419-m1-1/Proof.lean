import JvmDerived
import JvmDerived.Pilot.@@N@@Statement
import JvmDerived.Pilot.@@N@@Code
set_option linter.unusedVariables false
set_option linter.unusedSimpArgs false
namespace Jvm.Pilot.@@N@@
open Jvm Jvm.ClassFile Sem Op Lib Jvm.Free Jvm.Stand Jvm.LawKit Jvm.RoadKit Bundle Jvm.Pilot.@@N@@.Jvm.D
/-- from the state S the run comes to an end that meets F -/
def own_Go (tb : Tables) (e : Env) (below : List Frame) (F : State → Outcome → Prop) (S : State) : Prop := ∃ s₂ o, Steps tb e below S s₂ ∧ F s₂ o
/-- the end: it returned what Q says, over the heap that Q says -/
def own_Fin (below : List Frame) (s : State) (Q : Option Value → Heap → List Loc → Prop) (k n : Nat) : State → Outcome → Prop := fun s₂ o => s₂.status = .running ∧ Ended s₂ below o ∧ ∃ v L, o = .returned v ∧ Q v s₂.heap L ∧ FrameEnd s o s₂ L k n
theorem own_go {tb : Tables} {e : Env} {below : List Frame} {F : State → Outcome → Prop} {S S' : State} (h : ∀ t, Steps tb e below S' t → Steps tb e below S t) (k : own_Go tb e below F S') : own_Go tb e below F S := by
  obtain ⟨t, o, h1, h2⟩ := k
  exact ⟨t, o, h t h1, h2⟩
theorem own_via {tb : Tables} {e : Env} {below : List Frame} {F : State → Outcome → Prop} {S S' : State} (h : Steps tb e below S S') (k : own_Go tb e below F S') : own_Go tb e below F S := by
  obtain ⟨t, o, h1, h2⟩ := k
  exact ⟨t, o, h.trans h1, h2⟩
section OwnRet
variable {p : Program} {l : Launch} {e : Env} {R : Room} {s : State} {m : MethodId} {args : Array Value} {below : List Frame} {meth : Method} {c : Code} {T : State} {locs : List Loc} {cells slots : Nat} {Q : Option Value → Heap → List Loc → Prop} {K N : Nat}
theorem own_retN (X : Stand p l e R s m args below meth c T locs cells slots) (hlocks : meth.locks = false) (hx : p.tables.exec = Jvm.exec) {pc : Nat} {Ls : Array Slot} {z : Int32} {rest : List Value} {t : FieldType} (hret : meth.sig.returnType = some t) (ht : t = .boolean ∨ t = .byte ∨ t = .char ∨ t = .short) (hd : decode c.code pc = .ok (.ireturn, 1)) (hQ : Q (some (.int (nar t z))) T.heap locs) (hk : cells ≤ K) (hn : slots ≤ N) :
    own_Go p.tables e below (own_Fin below s Q K N) (T.setTop (mkF m pc Ls (.int z :: rest))) := by
  obtain ⟨fs, hr, hrun, hended, hW, hsame⟩ := X.leave (v := some (.int (nar t z))) (fun h => by rw [hret] at h; cases h) hlocks
  exact ⟨_, _, retN X hx hret ht hd hr, hrun, hended, _, _, rfl, hQ, ⟨_, rfl⟩, hW, hsame.mono hk hn⟩
theorem own_retI (X : Stand p l e R s m args below meth c T locs cells slots) (hlocks : meth.locks = false) (hx : p.tables.exec = Jvm.exec) {pc : Nat} {Ls : Array Slot} {z : Int32} {rest : List Value} (hret : meth.sig.returnType = some .int) (hd : decode c.code pc = .ok (.ireturn, 1)) (hQ : Q (some (.int z)) T.heap locs) (hk : cells ≤ K) (hn : slots ≤ N) :
    own_Go p.tables e below (own_Fin below s Q K N) (T.setTop (mkF m pc Ls (.int z :: rest))) := by
  obtain ⟨fs, hr, hrun, hended, hW, hsame⟩ := X.leave (v := some (.int z)) (fun h => by rw [hret] at h; cases h) hlocks
  exact ⟨_, _, retOut X hx (i := .ireturn) hret rfl (Or.inl ⟨rfl, Or.inl rfl, _, rfl⟩) hd hr, hrun, hended, _, _, rfl, hQ, ⟨_, rfl⟩, hW, hsame.mono hk hn⟩
theorem own_retJ (X : Stand p l e R s m args below meth c T locs cells slots) (hlocks : meth.locks = false) (hx : p.tables.exec = Jvm.exec) {pc : Nat} {Ls : Array Slot} {z : Int64} {rest : List Value} (hret : meth.sig.returnType = some .long) (hd : decode c.code pc = .ok (.lreturn, 1)) (hQ : Q (some (.long z)) T.heap locs) (hk : cells ≤ K) (hn : slots ≤ N) :
    own_Go p.tables e below (own_Fin below s Q K N) (T.setTop (mkF m pc Ls (.long z :: rest))) := by
  obtain ⟨fs, hr, hrun, hended, hW, hsame⟩ := X.leave (v := some (.long z)) (fun h => by rw [hret] at h; cases h) hlocks
  exact ⟨_, _, retOut X hx (i := .lreturn) hret rfl (Or.inr (Or.inl ⟨rfl, rfl, _, rfl⟩)) hd hr, hrun, hended, _, _, rfl, hQ, ⟨_, rfl⟩, hW, hsame.mono hk hn⟩
theorem own_retD (X : Stand p l e R s m args below meth c T locs cells slots) (hlocks : meth.locks = false) (hx : p.tables.exec = Jvm.exec) {pc : Nat} {Ls : Array Slot} {z : UInt64} {rest : List Value} (hret : meth.sig.returnType = some .double) (hd : decode c.code pc = .ok (.dreturn, 1)) (hQ : Q (some (.double z)) T.heap locs) (hk : cells ≤ K) (hn : slots ≤ N) :
    own_Go p.tables e below (own_Fin below s Q K N) (T.setTop (mkF m pc Ls (.double z :: rest))) := by
  obtain ⟨fs, hr, hrun, hended, hW, hsame⟩ := X.leave (v := some (.double z)) (fun h => by rw [hret] at h; cases h) hlocks
  exact ⟨_, _, retOut X hx (i := .dreturn) hret rfl (Or.inr (Or.inr (Or.inl ⟨rfl, rfl, _, rfl⟩))) hd hr, hrun, hended, _, _, rfl, hQ, ⟨_, rfl⟩, hW, hsame.mono hk hn⟩
theorem own_retA (X : Stand p l e R s m args below meth c T locs cells slots) (hlocks : meth.locks = false) (hx : p.tables.exec = Jvm.exec) {pc : Nat} {Ls : Array Slot} {w : Value} {rest : List Value} {t : FieldType} (hret : meth.sig.returnType = some t) (ht : t.isReference = true) (hn' : narrow t w = w) (hw : w.isRef = true) (hd : decode c.code pc = .ok (.areturn, 1)) (hQ : Q (some w) T.heap locs) (hk : cells ≤ K) (hn : slots ≤ N) :
    own_Go p.tables e below (own_Fin below s Q K N) (T.setTop (mkF m pc Ls (w :: rest))) := by
  obtain ⟨fs, hr, hrun, hended, hW, hsame⟩ := X.leave (v := some w) (fun h => by rw [hret] at h; cases h) hlocks
  exact ⟨_, _, retOut X hx (i := .areturn) hret hn' (Or.inr (Or.inr (Or.inr (Or.inr ⟨rfl, ht, hw⟩)))) hd hr, hrun, hended, _, _, rfl, hQ, ⟨_, rfl⟩, hW, hsame.mono hk hn⟩
theorem own_ret0 (X : Stand p l e R s m args below meth c T locs cells slots) (hlocks : meth.locks = false) (hx : p.tables.exec = Jvm.exec) {pc : Nat} {Ls : Array Slot} (hret : meth.sig.returnType = none) (hd : decode c.code pc = .ok (.return_, 1)) (hQ : Q none T.heap locs) (hk : cells ≤ K) (hn : slots ≤ N) :
    own_Go p.tables e below (own_Fin below s Q K N) (T.setTop (mkF m pc Ls [])) := by
  obtain ⟨fs, hr, hrun, hended, hW, hsame⟩ := X.leave (v := none) (fun _ => rfl) hlocks
  exact ⟨_, _, X.returnOut hx hret hd hr, hrun, hended, _, _, rfl, hQ, ⟨_, rfl⟩, hW, hsame.mono hk hn⟩
/-- the end where String constants may have been made meanwhile -/
def own_FinW (below : List Frame) (s : State) (Q : Option Value → Heap → List Loc → Prop) (k n : Nat) : State → Outcome → Prop := fun s₂ o => s₂.status = .running ∧ Ended s₂ below o ∧ ∃ v L, o = .returned v ∧ Q v s₂.heap L ∧ ReturnedEndW s o s₂ L k n
theorem own_more {s t : State} {o : Outcome} {L : List Loc} {k n K N : Nat} (h : ReturnedEndW s o t L k n) (hk : k ≤ K) (hn : n ≤ N) : ReturnedEndW s o t L K N := ⟨h.1, h.2.1, h.2.2.1, h.2.2.2.mono hk hn⟩
variable {vm₁ : Vm} {n₁ : Nat}
theorem own_retNW (X : Stand p l e R (s.setVm vm₁) m args below meth c T locs cells slots) (hS : s.Since vm₁ n₁) (hn₁ : n₁ ≤ T.heap.size) (hlocks : meth.locks = false) (hx : p.tables.exec = Jvm.exec) {pc : Nat} {Ls : Array Slot} {z : Int32} {rest : List Value} {t : FieldType} (hret : meth.sig.returnType = some t) (ht : t = .boolean ∨ t = .byte ∨ t = .char ∨ t = .short) (hd : decode c.code pc = .ok (.ireturn, 1)) (hQ : Q (some (.int (nar t z))) T.heap locs) (hk : cells ≤ K) (hn : slots ≤ N) :
    own_Go p.tables e below (own_FinW below s Q K N) (T.setTop (mkF m pc Ls (.int z :: rest))) := by
  obtain ⟨fs, hr, hrun, hended, hE⟩ := X.leaveW hS hn₁ (v := some (.int (nar t z))) (fun h => by rw [hret] at h; cases h) hlocks
  exact ⟨_, _, retN X hx hret ht hd hr, hrun, hended, _, _, rfl, hQ, own_more hE hk hn⟩
theorem own_retAW (X : Stand p l e R (s.setVm vm₁) m args below meth c T locs cells slots) (hS : s.Since vm₁ n₁) (hn₁ : n₁ ≤ T.heap.size) (hlocks : meth.locks = false) (hx : p.tables.exec = Jvm.exec) {pc : Nat} {Ls : Array Slot} {w : Value} {rest : List Value} {t : FieldType} (hret : meth.sig.returnType = some t) (ht : t.isReference = true) (hn' : narrow t w = w) (hw : w.isRef = true) (hd : decode c.code pc = .ok (.areturn, 1)) (hQ : Q (some w) T.heap locs) (hk : cells ≤ K) (hn : slots ≤ N) :
    own_Go p.tables e below (own_FinW below s Q K N) (T.setTop (mkF m pc Ls (w :: rest))) := by
  obtain ⟨fs, hr, hrun, hended, hE⟩ := X.leaveW hS hn₁ (v := some w) (fun h => by rw [hret] at h; cases h) hlocks
  exact ⟨_, _, retOut X hx (i := .areturn) hret hn' (Or.inr (Or.inr (Or.inr (Or.inr ⟨rfl, ht, hw⟩)))) hd hr, hrun, hended, _, _, rfl, hQ, own_more hE hk hn⟩
theorem own_ret0W (X : Stand p l e R (s.setVm vm₁) m args below meth c T locs cells slots) (hS : s.Since vm₁ n₁) (hn₁ : n₁ ≤ T.heap.size) (hlocks : meth.locks = false) (hx : p.tables.exec = Jvm.exec) {pc : Nat} {Ls : Array Slot} (hret : meth.sig.returnType = none) (hd : decode c.code pc = .ok (.return_, 1)) (hQ : Q none T.heap locs) (hk : cells ≤ K) (hn : slots ≤ N) :
    own_Go p.tables e below (own_FinW below s Q K N) (T.setTop (mkF m pc Ls [])) := by
  obtain ⟨fs, hr, hrun, hended, hE⟩ := X.leaveW hS hn₁ (v := none) (fun _ => rfl) hlocks
  exact ⟨_, _, X.returnOut hx hret hd hr, hrun, hended, _, _, rfl, hQ, own_more hE hk hn⟩
end OwnRet
theorem own_selP {s : State} {args : Array Value} {y z : MethodName} (hyz : z.cls = y.cls) (hsel : (Jvm.Cond.selects y.cls z z).before args s = true) (hpriv : s.PrivateAt y) (hinst : (Jvm.Cond.instanceMethod y).before args s = true) (hy : y.cls ≠ "java/lang/invoke/MethodHandle" ∧ y.cls ≠ "java/lang/invoke/VarHandle") : (Jvm.Cond.selects y.cls y y).before args s = true := by
  obtain ⟨c, r, m, -, -, h3, -, k, hk, hni⟩ := Cond.selects_spec hsel
  have hc : s.vm.findClass y.cls = some m.cls := hyz ▸ findClass_of_methodNamed h3
  exact selects_self_of_private hc hk hni hpriv hinst hy
section OwnTidy
variable {p : Program} {l : Launch} {e : Env} {R : Room} {s : State} {m : MethodId} {args : Array Value} {below : List Frame} {meth : Method} {c : Code} {T : State} {locs : List Loc} {cells slots : Nat} {Q : Option Value → Heap → List Loc → Prop} {kc ks c' n' : Nat} {g : JFrame} {rest : List Value}
/-- behind a call: the places, cells and slots in plain figures -/
theorem own_tidyV (X : Stand p l e R s m args below meth c T locs cells slots) {s₀ : State} (h : ∃ (v : Option Value) (vm₁ : Vm) (B : Pt), s.WarmedH vm₁ ∧ Stand p l e R s m args below meth c B.U B.locs B.cells B.slots ∧ (∃ L, Q v B.U.heap L ∧ B.locs = locs ++ L ∧ B.cells = cells + kc ∧ B.slots = slots + ks) ∧ Steps p.tables e below s₀ (B.U.setTop { g with pc := g.pc + 3, stack := v.toList ++ rest })) (hc : cells + kc = c') (hs : slots + ks = n') :
    ∃ (v : Option Value) (T' : State) (L : List Loc), Stand p l e R s m args below meth c T' (locs ++ L) c' n' ∧ Q v T'.heap L ∧ Steps p.tables e below s₀ (T'.setTop { g with pc := g.pc + 3, stack := v.toList ++ rest }) := by
  obtain ⟨v, vm₁, ⟨U, L0, k0, n0⟩, -, X', ⟨L, hQ, h1, h2, h3⟩, st⟩ := h
  dsimp only [Pt.U, Pt.locs, Pt.cells, Pt.slots] at X' hQ h1 h2 h3 st
  subst h1 h2 h3 hc hs
  exact ⟨v, U, L, X', hQ, st⟩
theorem own_tidyS (X : Stand p l e R s m args below meth c T locs cells slots) {s₀ : State} (h : ∃ (v : Option Value) (vm₁ : Vm) (B : Pt), s.WarmedH vm₁ ∧ Stand p l e R s m args below meth c B.U B.locs B.cells B.slots ∧ (∃ L, Q v B.U.heap L ∧ B.locs = locs ++ L ∧ B.cells = cells + kc ∧ B.slots = slots + ks) ∧ ∀ target, Steps p.tables e below (B.U.setTop { g with pc := g.pc + 3, stack := v.toList ++ rest }) target → Steps p.tables e below s₀ target) (hc : cells + kc = c') (hs : slots + ks = n') :
    ∃ (v : Option Value) (T' : State) (L : List Loc), Stand p l e R s m args below meth c T' (locs ++ L) c' n' ∧ Q v T'.heap L ∧ ∀ target, Steps p.tables e below (T'.setTop { g with pc := g.pc + 3, stack := v.toList ++ rest }) target → Steps p.tables e below s₀ target := by
  obtain ⟨v, vm₁, ⟨U, L0, k0, n0⟩, -, X', ⟨L, hQ, h1, h2, h3⟩, st⟩ := h
  dsimp only [Pt.U, Pt.locs, Pt.cells, Pt.slots] at X' hQ h1 h2 h3 st
  subst h1 h2 h3 hc hs
  exact ⟨v, U, L, X', hQ, st⟩
end OwnTidy
theorem own_val {x y : Int32} (h : y = x) : some (Value.int x) = some (Value.int y) := by rw [h]
theorem own_valJ {x y : Int64} (h : y = x) : some (Value.long x) = some (Value.long y) := by rw [h]
theorem own_valD {x y : UInt64} (h : y = x) : some (Value.double x) = some (Value.double y) := by rw [h]
theorem own_valV {x y : Value} (h : y = x) : some x = some y := by rw [h]
theorem own_valR {x y : Addr} (h : y = x) : some (Value.ref x) = some (Value.ref y) := by rw [h]
theorem own_catR (a : Addr) : (Value.ref a).category = 1 := rfl
theorem own_cat {v : Value} (h : v.isRef = true) : v.category = 1 := by rcases ref_cases h with rfl | ⟨z, rfl⟩ <;> rfl
theorem own_narR {v : Value} {C : String} (h : v.isRef = true) : narrow (.object C) v = v := by rcases ref_cases h with rfl | ⟨z, rfl⟩ <;> rfl
theorem own_fitR {v : Value} {C : String} (h : v.isRef = true) : fits (.object C) v = true := by rcases ref_cases h with rfl | ⟨z, rfl⟩ <;> rfl
theorem own_narA {v : Value} {t : FieldType} (h : v.isRef = true) : narrow (.array t) v = v := by rcases ref_cases h with rfl | ⟨z, rfl⟩ <;> rfl
theorem own_fitA {v : Value} {t : FieldType} (h : v.isRef = true) : fits (.array t) v = true := by rcases ref_cases h with rfl | ⟨z, rfl⟩ <;> rfl
theorem own_dne {p : Prop} (h : p) : ¬ ¬ p := fun q => q h
def own_up {α : Type} (f : Nat → α) (p : Nat) (v : α) : Nat → α := fun i => if i = p then v else f i
def own_L (f : Nat → Int64) : List Value := (List.range 16).map fun i => .long (f i)
def own_M (g : Nat → UInt64) : List Value := (List.range 16).map fun i => .double (g i)
theorem own_Llen {f : Nat → Int64} {i : Nat} (h : i < 16) : i < (own_L f).length := by simp [own_L, h]
theorem own_Mlen {f : Nat → UInt64} {i : Nat} (h : i < 16) : i < (own_M f).length := by simp [own_M, h]
theorem own_n16 {i : Nat} (h : i < 16) : (Int32.ofNat i).toNatClampNeg = i := by rw [Int32.toNatClampNeg, Int32.toInt_ofNat_of_lt (by omega)]; rfl
theorem own_in16 {i : Nat} (h : i < 16) : ¬ Int32.ofNat i < 0 ∧ Int32.ofNat i < 16 := by
  rw [Int32.lt_iff_toInt_lt, Int32.lt_iff_toInt_lt, Int32.toInt_ofNat_of_lt (by omega)]
  have e0 : (0 : Int32).toInt = 0 := rfl
  have e4 : (16 : Int32).toInt = 16 := rfl
  omega
theorem own_Lget {f : Nat → Int64} {i : Nat} (h : i < 16) {d : Value} : (own_L f).getD (Int32.ofNat i).toNatClampNeg d = .long (f i) := by rw [own_n16 h]; simp [own_L, List.getD_eq_getElem?_getD, h]
theorem own_Mget {f : Nat → UInt64} {i : Nat} (h : i < 16) {d : Value} : (own_M f).getD (Int32.ofNat i).toNatClampNeg d = .double (f i) := by rw [own_n16 h]; simp [own_M, List.getD_eq_getElem?_getD, h]
theorem own_Lset (f : Nat → Int64) (i : Nat) (v : Int64) : (own_L f).set i (.long v) = own_L (own_up f i v) := by
  apply List.ext_getElem?
  intro j
  rw [List.getElem?_set]
  by_cases h : i = j
  · subst h
    by_cases h2 : i < 16 <;> simp [own_L, own_up, h2]
  · rw [if_neg h]
    by_cases h2 : j < 16
    · simp [own_L, own_up, h2, Ne.symm h]
    · simp [own_L, own_up, h2]
theorem own_Mset (f : Nat → UInt64) (i : Nat) (v : UInt64) : (own_M f).set i (.double v) = own_M (own_up f i v) := by
  apply List.ext_getElem?
  intro j
  rw [List.getElem?_set]
  by_cases h : i = j
  · subst h
    by_cases h2 : i < 16 <;> simp [own_M, own_up, h2]
  · rw [if_neg h]
    by_cases h2 : j < 16
    · simp [own_M, own_up, h2, Ne.symm h]
    · simp [own_M, own_up, h2]
theorem own_Lpad : ∀ i, (own_L (fun _ => 0)).getD i (.long 0) = ([] : List Value).getD i (.long 0) := fun i => by
  by_cases h : i < 16 <;> simp [own_L, List.getD_eq_getElem?_getD, h]
theorem own_Mpad : ∀ i, (own_M (fun _ => 0)).getD i (.double 0) = ([] : List Value).getD i (.double 0) := fun i => by
  by_cases h : i < 16 <;> simp [own_M, List.getD_eq_getElem?_getD, h]
theorem own_Lfill (f : Nat → Int64) (v : Int64) : own_L (own_up (own_up (own_up (own_up (own_up (own_up (own_up (own_up (own_up (own_up (own_up (own_up (own_up (own_up (own_up (own_up f 0 v) 1 v) 2 v) 3 v) 4 v) 5 v) 6 v) 7 v) 8 v) 9 v) 10 v) 11 v) 12 v) 13 v) 14 v) 15 v) = own_L (fun _ => v) := rfl
theorem d4_0 : decode jdk_65_method_101_code 0 = .ok (.iconst 0, 1) := by decide +kernel
theorem d4_1 : decode jdk_65_method_101_code 1 = .ok (.istore_n 3, 1) := by decide +kernel
theorem d4_2 : decode jdk_65_method_101_code 2 = .ok (.aload_n 0, 1) := by decide +kernel
theorem d4_3 : decode jdk_65_method_101_code 3 = .ok (.arraylength, 1) := by decide +kernel
theorem d4_4 : decode jdk_65_method_101_code 4 = .ok (.istore 4, 2) := by decide +kernel
theorem d4_6 : decode jdk_65_method_101_code 6 = .ok (.iload_n 3, 1) := by decide +kernel
theorem d4_7 : decode jdk_65_method_101_code 7 = .ok (.iload 4, 2) := by decide +kernel
theorem d4_9 : decode jdk_65_method_101_code 9 = .ok (.if_icmp .ge 13, 3) := by decide +kernel
theorem d4_12 : decode jdk_65_method_101_code 12 = .ok (.aload_n 0, 1) := by decide +kernel
theorem d4_13 : decode jdk_65_method_101_code 13 = .ok (.iload_n 3, 1) := by decide +kernel
theorem d4_14 : decode jdk_65_method_101_code 14 = .ok (.lload_n 1, 1) := by decide +kernel
theorem d4_15 : decode jdk_65_method_101_code 15 = .ok (.lastore, 1) := by decide +kernel
theorem d4_16 : decode jdk_65_method_101_code 16 = .ok (.iinc 3 1, 3) := by decide +kernel
theorem d4_19 : decode jdk_65_method_101_code 19 = .ok (.goto (-13), 3) := by decide +kernel
theorem d4_22 : decode jdk_65_method_101_code 22 = .ok (.return_, 1) := by decide +kernel
theorem pn_4 : plainName "java/util/Arrays" = true := by first | (simp [plainName, overriddenIn]; done) | decide +kernel
theorem ef_4 (m : MethodId) (a1 : Addr) (q2 : Int64) : entryFrame m #[(.ref a1), (.long q2)] 5 = mkF m 0 #[.val (.ref a1), .val (.long q2), .second, .unset, .unset] [] := by first | (simp [entryFrame, mkF, argsToLocals, Value.category]; done) | rfl
def Q4 (Z : State) (a1 : Addr) (q2 : Int64) (f : Nat → Int64) (kc : ClassId) (h0 : Heap) (n0 : Nat) (v : Option Value) (h : Heap) (L : List Loc) : Prop := v = none ∧ Fr n0 L ∧ Keep h0 h [a1] ∧ Arv Z h a1 kc .long (16 : Int32) (own_L (fun _ => q2)) (.long (0 : Int64))
set_option maxRecDepth 65536 in
set_option maxHeartbeats 40000000 in
theorem rm4 (l : Launch) (Z : State) (a0 : Array Value) (hw : ∀ d ∈ tables_1, d.before a0 Z = true) (ws : List Jvm.Cond) (a1 : Addr) (q2 : Int64) (f : Nat → Int64) (kc : ClassId) (h0 : Heap) (n0 : Nat) (Z0 : n0 ≤ h0.size) (V_a1 : Arv Z h0 a1 kc .long (16 : Int32) (own_L f) (.long (0 : Int64))) (g_a1 : n0 ≤ a1) :
    MetFree l (⟨"java/util/Arrays", "fill", "([JJ)V"⟩ : MethodName) (head1 (Jvm.Cond.code (⟨"java/util/Arrays", "fill", "([JJ)V"⟩ : MethodName) jdk_65_method_101_code 5 none :: ws) ({ frames := 0, cells := 0, slots := 0, locals := 0 } : Room)) (fun a U => a = #[(.ref a1), (.long q2)] ∧ Z.Warmed39 U.vm ∧ U.heap = h0) (fun _ _ _ _ _ => True) (fun _ U o U' => ∃ v L, o = .returned v ∧ Q4 Z a1 q2 f kc h0 n0 v U'.heap L ∧ FrameEnd U o U' L ({ frames := 0, cells := 0, slots := 0, locals := 0 } : Room).cells ({ frames := 0, cells := 0, slots := 0, locals := 0 } : Room).slots) := by
  refine MetFree.of_bodySF (plainFor_of_name pn_4) hisR ?_
  intro p e s m args below meth c s₁ Bd hml0 hP hK
  obtain ⟨rfl, hZ, hh⟩ := hP
  have hx := Bd.exec
  have hby := Bd.bytes
  have hml : c.maxLocals = 5 := hml0
  have hown : s.vm.findClass "java/util/Arrays" = some m.cls := findClass_of_methodNamed Bd.named
  have hnm := (name_of_methodNamed Bd.named Bd.method).1
  have X0 : Stand p l e ({ frames := 0, cells := 0, slots := 0, locals := 0 } : Room) s m #[(.ref a1), (.long q2)] below meth c s₁ [] 0 0 := Stand.of_body Bd
  have e0 : s₁.heap = h0 := by rw [← hh, Bd.state]; rfl
  have N0 := Fr.nil n0
  show own_Go p.tables e below (own_Fin below s (Q4 Z a1 q2 f kc h0 n0) ({ frames := 0, cells := 0, slots := 0, locals := 0 } : Room).cells ({ frames := 0, cells := 0, slots := 0, locals := 0 } : Room).slots) (s₁.setTop (entryFrame m #[(.ref a1), (.long q2)] 5))
  refine own_go (S' := s₁.setTop (mkF m 0 #[.val (.ref a1), .val (.long q2), .second, .unset, .unset] [])) (fun t k => castTop (ef_4 m a1 q2) k) ?_
  show own_Go p.tables e below _ (s₁.setTop (mkF m 0 #[.val (.ref a1), .val (.long q2), .second, .unset, .unset] []))
  refine own_go (fun _ => XS.iconst X0.here hx rfl (hb hby d4_0)) ?_
  show own_Go p.tables e below _ (s₁.setTop (mkF m 1 #[.val (.ref a1), .val (.long q2), .second, .unset, .unset] [(.int (0 : Int32))]))
  refine own_go (fun _ => XS.istoreN X0.here hx rfl (hb hby d4_1) rfl (l' := #[.val (.ref a1), .val (.long q2), .second, .val (.int (0 : Int32)), .unset]) rfl) ?_
  show own_Go p.tables e below _ (s₁.setTop (mkF m 2 #[.val (.ref a1), .val (.long q2), .second, .val (.int (0 : Int32)), .unset] []))
  refine own_go (fun _ => XS.aloadN X0.here hx rfl (hb hby d4_2) rfl rfl) ?_
  show own_Go p.tables e below _ (s₁.setTop (mkF m 3 #[.val (.ref a1), .val (.long q2), .second, .val (.int (0 : Int32)), .unset] [(.ref a1)]))
  obtain ⟨cl3, Ar3, -, S3, M3, -, -⟩ := id V_a1
  have st3 := X0.arraylength hx (cell := cl3) (by rw [e0]; exact Ar3.1) (State.isArrayOf_alike hZ.alike Ar3.2.1) (g := (mkF m 3 #[.val (.ref a1), .val (.long q2), .second, .val (.int (0 : Int32)), .unset] [(.ref a1)])) rfl (rest := []) rfl (hb hby d4_3)
  rw [len_of S3 M3] at st3
  refine own_go st3 ?_
  show own_Go p.tables e below _ (s₁.setTop (mkF m 4 #[.val (.ref a1), .val (.long q2), .second, .val (.int (0 : Int32)), .unset] [(.int (16 : Int32))]))
  refine own_go (fun _ => XS.istore X0.here hx rfl (hb hby d4_4) rfl (l' := #[.val (.ref a1), .val (.long q2), .second, .val (.int (0 : Int32)), .val (.int (16 : Int32))]) rfl) ?_
  show own_Go p.tables e below _ (s₁.setTop (mkF m 6 #[.val (.ref a1), .val (.long q2), .second, .val (.int (0 : Int32)), .val (.int (16 : Int32))] []))
  refine own_go (fun _ => XS.iloadN X0.here hx rfl (hb hby d4_6) rfl) ?_
  show own_Go p.tables e below _ (s₁.setTop (mkF m 7 #[.val (.ref a1), .val (.long q2), .second, .val (.int (0 : Int32)), .val (.int (16 : Int32))] [(.int (0 : Int32))]))
  refine own_go (fun _ => XS.iload X0.here hx rfl (hb hby d4_7) rfl) ?_
  show own_Go p.tables e below _ (s₁.setTop (mkF m 9 #[.val (.ref a1), .val (.long q2), .second, .val (.int (0 : Int32)), .val (.int (16 : Int32))] [(.int (16 : Int32)), (.int (0 : Int32))]))
  refine own_go (fun _ => XS.icmpNo X0.here hx rfl (hb hby d4_9) rfl (tlt (by decide : (0 : Int32) < (16 : Int32))).2.1) ?_
  show own_Go p.tables e below _ (s₁.setTop (mkF m 12 #[.val (.ref a1), .val (.long q2), .second, .val (.int (0 : Int32)), .val (.int (16 : Int32))] []))
  refine own_go (fun _ => XS.aloadN X0.here hx rfl (hb hby d4_12) rfl rfl) ?_
  show own_Go p.tables e below _ (s₁.setTop (mkF m 13 #[.val (.ref a1), .val (.long q2), .second, .val (.int (0 : Int32)), .val (.int (16 : Int32))] [(.ref a1)]))
  refine own_go (fun _ => XS.iloadN X0.here hx rfl (hb hby d4_13) rfl) ?_
  show own_Go p.tables e below _ (s₁.setTop (mkF m 14 #[.val (.ref a1), .val (.long q2), .second, .val (.int (0 : Int32)), .val (.int (16 : Int32))] [(.int (0 : Int32)), (.ref a1)]))
  refine own_go (fun _ => XS.lloadN X0.here hx rfl (hb hby d4_14) rfl) ?_
  show own_Go p.tables e below _ (s₁.setTop (mkF m 15 #[.val (.ref a1), .val (.long q2), .second, .val (.int (0 : Int32)), .val (.int (16 : Int32))] [(.long q2), (.int (0 : Int32)), (.ref a1)]))
  obtain ⟨cl4, Ar4, q4, S4, M4, Hh4, G4⟩ := id V_a1
  have hin4 : ¬ ((0 : Int32) < 0 ∨ cl4.slots.size ≤ ((0 : Int32)).toNatClampNeg) := inb_of S4 (own_in16 (by decide : 0 < 16))
  obtain ⟨T4, h4, X4, e4, W4, st4⟩ := stJ X0 hx hZ e0 Ar4 (j := (0 : Int32)) hin4 (g := (mkF m 15 #[.val (.ref a1), .val (.long q2), .second, .val (.int (0 : Int32)), .val (.int (16 : Int32))] [(.long q2), (.int (0 : Int32)), (.ref a1)])) rfl rfl (hb hby d4_15)
  refine own_go st4 ?_
  have V4 : Arv Z h4 a1 kc .long (16 : Int32) (own_L (own_up f 0 q2)) (.long (0 : Int64)) := own_Lset f 0 q2 ▸ Arv.set Ar4 q4 S4 M4 Hh4 G4 rfl W4 0 (own_n16 (by decide : 0 < 16)) (own_Llen (by decide : 0 < 16))
  have K4 : Keep h0 h4 [a1] := (Keep.refl h0 [a1]).wr W4 (Or.inl (List.mem_of_getElem? (i := 0) rfl))
  have N4 := Fr.snoc X4 N0 g_a1
  show own_Go p.tables e below _ (T4.setTop (mkF m 16 #[.val (.ref a1), .val (.long q2), .second, .val (.int (0 : Int32)), .val (.int (16 : Int32))] []))
  refine own_go (fun _ => XS.iinc X4.here hx rfl (hb hby d4_16) rfl (l' := #[.val (.ref a1), .val (.long q2), .second, .val (.int (1 : Int32)), .val (.int (16 : Int32))]) rfl) ?_
  show own_Go p.tables e below _ (T4.setTop (mkF m 19 #[.val (.ref a1), .val (.long q2), .second, .val (.int (1 : Int32)), .val (.int (16 : Int32))] []))
  refine own_go (fun _ => XS.goto X4.here hx rfl (pc0 := 19) (pc' := 6) rfl (hb hby d4_19) (by decide) (by decide)) ?_
  show own_Go p.tables e below _ (T4.setTop (mkF m 6 #[.val (.ref a1), .val (.long q2), .second, .val (.int (1 : Int32)), .val (.int (16 : Int32))] []))
  refine own_go (fun _ => XS.iloadN X4.here hx rfl (hb hby d4_6) rfl) ?_
  show own_Go p.tables e below _ (T4.setTop (mkF m 7 #[.val (.ref a1), .val (.long q2), .second, .val (.int (1 : Int32)), .val (.int (16 : Int32))] [(.int (1 : Int32))]))
  refine own_go (fun _ => XS.iload X4.here hx rfl (hb hby d4_7) rfl) ?_
  show own_Go p.tables e below _ (T4.setTop (mkF m 9 #[.val (.ref a1), .val (.long q2), .second, .val (.int (1 : Int32)), .val (.int (16 : Int32))] [(.int (16 : Int32)), (.int (1 : Int32))]))
  refine own_go (fun _ => XS.icmpNo X4.here hx rfl (hb hby d4_9) rfl (tlt (by decide : (1 : Int32) < (16 : Int32))).2.1) ?_
  show own_Go p.tables e below _ (T4.setTop (mkF m 12 #[.val (.ref a1), .val (.long q2), .second, .val (.int (1 : Int32)), .val (.int (16 : Int32))] []))
  refine own_go (fun _ => XS.aloadN X4.here hx rfl (hb hby d4_12) rfl rfl) ?_
  show own_Go p.tables e below _ (T4.setTop (mkF m 13 #[.val (.ref a1), .val (.long q2), .second, .val (.int (1 : Int32)), .val (.int (16 : Int32))] [(.ref a1)]))
  refine own_go (fun _ => XS.iloadN X4.here hx rfl (hb hby d4_13) rfl) ?_
  show own_Go p.tables e below _ (T4.setTop (mkF m 14 #[.val (.ref a1), .val (.long q2), .second, .val (.int (1 : Int32)), .val (.int (16 : Int32))] [(.int (1 : Int32)), (.ref a1)]))
  refine own_go (fun _ => XS.lloadN X4.here hx rfl (hb hby d4_14) rfl) ?_
  show own_Go p.tables e below _ (T4.setTop (mkF m 15 #[.val (.ref a1), .val (.long q2), .second, .val (.int (1 : Int32)), .val (.int (16 : Int32))] [(.long q2), (.int (1 : Int32)), (.ref a1)]))
  obtain ⟨cl5, Ar5, q5, S5, M5, Hh5, G5⟩ := id V4
  have hin5 : ¬ ((1 : Int32) < 0 ∨ cl5.slots.size ≤ ((1 : Int32)).toNatClampNeg) := inb_of S5 (own_in16 (by decide : 1 < 16))
  obtain ⟨T5, h5, X5, e5, W5, st5⟩ := stJ X4 hx hZ e4 Ar5 (j := (1 : Int32)) hin5 (g := (mkF m 15 #[.val (.ref a1), .val (.long q2), .second, .val (.int (1 : Int32)), .val (.int (16 : Int32))] [(.long q2), (.int (1 : Int32)), (.ref a1)])) rfl rfl (hb hby d4_15)
  refine own_go st5 ?_
  have V5 : Arv Z h5 a1 kc .long (16 : Int32) (own_L (own_up (own_up f 0 q2) 1 q2)) (.long (0 : Int64)) := own_Lset (own_up f 0 q2) 1 q2 ▸ Arv.set Ar5 q5 S5 M5 Hh5 G5 rfl W5 1 (own_n16 (by decide : 1 < 16)) (own_Llen (by decide : 1 < 16))
  have K5 : Keep h0 h5 [a1] := K4.wr W5 (Or.inl (List.mem_of_getElem? (i := 0) rfl))
  have N5 := Fr.snoc X5 N4 g_a1
  show own_Go p.tables e below _ (T5.setTop (mkF m 16 #[.val (.ref a1), .val (.long q2), .second, .val (.int (1 : Int32)), .val (.int (16 : Int32))] []))
  refine own_go (fun _ => XS.iinc X5.here hx rfl (hb hby d4_16) rfl (l' := #[.val (.ref a1), .val (.long q2), .second, .val (.int (2 : Int32)), .val (.int (16 : Int32))]) rfl) ?_
  show own_Go p.tables e below _ (T5.setTop (mkF m 19 #[.val (.ref a1), .val (.long q2), .second, .val (.int (2 : Int32)), .val (.int (16 : Int32))] []))
  refine own_go (fun _ => XS.goto X5.here hx rfl (pc0 := 19) (pc' := 6) rfl (hb hby d4_19) (by decide) (by decide)) ?_
  show own_Go p.tables e below _ (T5.setTop (mkF m 6 #[.val (.ref a1), .val (.long q2), .second, .val (.int (2 : Int32)), .val (.int (16 : Int32))] []))
  refine own_go (fun _ => XS.iloadN X5.here hx rfl (hb hby d4_6) rfl) ?_
  show own_Go p.tables e below _ (T5.setTop (mkF m 7 #[.val (.ref a1), .val (.long q2), .second, .val (.int (2 : Int32)), .val (.int (16 : Int32))] [(.int (2 : Int32))]))
  refine own_go (fun _ => XS.iload X5.here hx rfl (hb hby d4_7) rfl) ?_
  show own_Go p.tables e below _ (T5.setTop (mkF m 9 #[.val (.ref a1), .val (.long q2), .second, .val (.int (2 : Int32)), .val (.int (16 : Int32))] [(.int (16 : Int32)), (.int (2 : Int32))]))
  refine own_go (fun _ => XS.icmpNo X5.here hx rfl (hb hby d4_9) rfl (tlt (by decide : (2 : Int32) < (16 : Int32))).2.1) ?_
  show own_Go p.tables e below _ (T5.setTop (mkF m 12 #[.val (.ref a1), .val (.long q2), .second, .val (.int (2 : Int32)), .val (.int (16 : Int32))] []))
  refine own_go (fun _ => XS.aloadN X5.here hx rfl (hb hby d4_12) rfl rfl) ?_
  show own_Go p.tables e below _ (T5.setTop (mkF m 13 #[.val (.ref a1), .val (.long q2), .second, .val (.int (2 : Int32)), .val (.int (16 : Int32))] [(.ref a1)]))
  refine own_go (fun _ => XS.iloadN X5.here hx rfl (hb hby d4_13) rfl) ?_
  show own_Go p.tables e below _ (T5.setTop (mkF m 14 #[.val (.ref a1), .val (.long q2), .second, .val (.int (2 : Int32)), .val (.int (16 : Int32))] [(.int (2 : Int32)), (.ref a1)]))
  refine own_go (fun _ => XS.lloadN X5.here hx rfl (hb hby d4_14) rfl) ?_
  show own_Go p.tables e below _ (T5.setTop (mkF m 15 #[.val (.ref a1), .val (.long q2), .second, .val (.int (2 : Int32)), .val (.int (16 : Int32))] [(.long q2), (.int (2 : Int32)), (.ref a1)]))
  obtain ⟨cl6, Ar6, q6, S6, M6, Hh6, G6⟩ := id V5
  have hin6 : ¬ ((2 : Int32) < 0 ∨ cl6.slots.size ≤ ((2 : Int32)).toNatClampNeg) := inb_of S6 (own_in16 (by decide : 2 < 16))
  obtain ⟨T6, h6, X6, e6, W6, st6⟩ := stJ X5 hx hZ e5 Ar6 (j := (2 : Int32)) hin6 (g := (mkF m 15 #[.val (.ref a1), .val (.long q2), .second, .val (.int (2 : Int32)), .val (.int (16 : Int32))] [(.long q2), (.int (2 : Int32)), (.ref a1)])) rfl rfl (hb hby d4_15)
  refine own_go st6 ?_
  have V6 : Arv Z h6 a1 kc .long (16 : Int32) (own_L (own_up (own_up (own_up f 0 q2) 1 q2) 2 q2)) (.long (0 : Int64)) := own_Lset (own_up (own_up f 0 q2) 1 q2) 2 q2 ▸ Arv.set Ar6 q6 S6 M6 Hh6 G6 rfl W6 2 (own_n16 (by decide : 2 < 16)) (own_Llen (by decide : 2 < 16))
  have K6 : Keep h0 h6 [a1] := K5.wr W6 (Or.inl (List.mem_of_getElem? (i := 0) rfl))
  have N6 := Fr.snoc X6 N5 g_a1
  show own_Go p.tables e below _ (T6.setTop (mkF m 16 #[.val (.ref a1), .val (.long q2), .second, .val (.int (2 : Int32)), .val (.int (16 : Int32))] []))
  refine own_go (fun _ => XS.iinc X6.here hx rfl (hb hby d4_16) rfl (l' := #[.val (.ref a1), .val (.long q2), .second, .val (.int (3 : Int32)), .val (.int (16 : Int32))]) rfl) ?_
  show own_Go p.tables e below _ (T6.setTop (mkF m 19 #[.val (.ref a1), .val (.long q2), .second, .val (.int (3 : Int32)), .val (.int (16 : Int32))] []))
  refine own_go (fun _ => XS.goto X6.here hx rfl (pc0 := 19) (pc' := 6) rfl (hb hby d4_19) (by decide) (by decide)) ?_
  show own_Go p.tables e below _ (T6.setTop (mkF m 6 #[.val (.ref a1), .val (.long q2), .second, .val (.int (3 : Int32)), .val (.int (16 : Int32))] []))
  refine own_go (fun _ => XS.iloadN X6.here hx rfl (hb hby d4_6) rfl) ?_
  show own_Go p.tables e below _ (T6.setTop (mkF m 7 #[.val (.ref a1), .val (.long q2), .second, .val (.int (3 : Int32)), .val (.int (16 : Int32))] [(.int (3 : Int32))]))
  refine own_go (fun _ => XS.iload X6.here hx rfl (hb hby d4_7) rfl) ?_
  show own_Go p.tables e below _ (T6.setTop (mkF m 9 #[.val (.ref a1), .val (.long q2), .second, .val (.int (3 : Int32)), .val (.int (16 : Int32))] [(.int (16 : Int32)), (.int (3 : Int32))]))
  refine own_go (fun _ => XS.icmpNo X6.here hx rfl (hb hby d4_9) rfl (tlt (by decide : (3 : Int32) < (16 : Int32))).2.1) ?_
  show own_Go p.tables e below _ (T6.setTop (mkF m 12 #[.val (.ref a1), .val (.long q2), .second, .val (.int (3 : Int32)), .val (.int (16 : Int32))] []))
  refine own_go (fun _ => XS.aloadN X6.here hx rfl (hb hby d4_12) rfl rfl) ?_
  show own_Go p.tables e below _ (T6.setTop (mkF m 13 #[.val (.ref a1), .val (.long q2), .second, .val (.int (3 : Int32)), .val (.int (16 : Int32))] [(.ref a1)]))
  refine own_go (fun _ => XS.iloadN X6.here hx rfl (hb hby d4_13) rfl) ?_
  show own_Go p.tables e below _ (T6.setTop (mkF m 14 #[.val (.ref a1), .val (.long q2), .second, .val (.int (3 : Int32)), .val (.int (16 : Int32))] [(.int (3 : Int32)), (.ref a1)]))
  refine own_go (fun _ => XS.lloadN X6.here hx rfl (hb hby d4_14) rfl) ?_
  show own_Go p.tables e below _ (T6.setTop (mkF m 15 #[.val (.ref a1), .val (.long q2), .second, .val (.int (3 : Int32)), .val (.int (16 : Int32))] [(.long q2), (.int (3 : Int32)), (.ref a1)]))
  obtain ⟨cl7, Ar7, q7, S7, M7, Hh7, G7⟩ := id V6
  have hin7 : ¬ ((3 : Int32) < 0 ∨ cl7.slots.size ≤ ((3 : Int32)).toNatClampNeg) := inb_of S7 (own_in16 (by decide : 3 < 16))
  obtain ⟨T7, h7, X7, e7, W7, st7⟩ := stJ X6 hx hZ e6 Ar7 (j := (3 : Int32)) hin7 (g := (mkF m 15 #[.val (.ref a1), .val (.long q2), .second, .val (.int (3 : Int32)), .val (.int (16 : Int32))] [(.long q2), (.int (3 : Int32)), (.ref a1)])) rfl rfl (hb hby d4_15)
  refine own_go st7 ?_
  have V7 : Arv Z h7 a1 kc .long (16 : Int32) (own_L (own_up (own_up (own_up (own_up f 0 q2) 1 q2) 2 q2) 3 q2)) (.long (0 : Int64)) := own_Lset (own_up (own_up (own_up f 0 q2) 1 q2) 2 q2) 3 q2 ▸ Arv.set Ar7 q7 S7 M7 Hh7 G7 rfl W7 3 (own_n16 (by decide : 3 < 16)) (own_Llen (by decide : 3 < 16))
  have K7 : Keep h0 h7 [a1] := K6.wr W7 (Or.inl (List.mem_of_getElem? (i := 0) rfl))
  have N7 := Fr.snoc X7 N6 g_a1
  show own_Go p.tables e below _ (T7.setTop (mkF m 16 #[.val (.ref a1), .val (.long q2), .second, .val (.int (3 : Int32)), .val (.int (16 : Int32))] []))
  refine own_go (fun _ => XS.iinc X7.here hx rfl (hb hby d4_16) rfl (l' := #[.val (.ref a1), .val (.long q2), .second, .val (.int (4 : Int32)), .val (.int (16 : Int32))]) rfl) ?_
  show own_Go p.tables e below _ (T7.setTop (mkF m 19 #[.val (.ref a1), .val (.long q2), .second, .val (.int (4 : Int32)), .val (.int (16 : Int32))] []))
  refine own_go (fun _ => XS.goto X7.here hx rfl (pc0 := 19) (pc' := 6) rfl (hb hby d4_19) (by decide) (by decide)) ?_
  show own_Go p.tables e below _ (T7.setTop (mkF m 6 #[.val (.ref a1), .val (.long q2), .second, .val (.int (4 : Int32)), .val (.int (16 : Int32))] []))
  refine own_go (fun _ => XS.iloadN X7.here hx rfl (hb hby d4_6) rfl) ?_
  show own_Go p.tables e below _ (T7.setTop (mkF m 7 #[.val (.ref a1), .val (.long q2), .second, .val (.int (4 : Int32)), .val (.int (16 : Int32))] [(.int (4 : Int32))]))
  refine own_go (fun _ => XS.iload X7.here hx rfl (hb hby d4_7) rfl) ?_
  show own_Go p.tables e below _ (T7.setTop (mkF m 9 #[.val (.ref a1), .val (.long q2), .second, .val (.int (4 : Int32)), .val (.int (16 : Int32))] [(.int (16 : Int32)), (.int (4 : Int32))]))
  refine own_go (fun _ => XS.icmpNo X7.here hx rfl (hb hby d4_9) rfl (tlt (by decide : (4 : Int32) < (16 : Int32))).2.1) ?_
  show own_Go p.tables e below _ (T7.setTop (mkF m 12 #[.val (.ref a1), .val (.long q2), .second, .val (.int (4 : Int32)), .val (.int (16 : Int32))] []))
  refine own_go (fun _ => XS.aloadN X7.here hx rfl (hb hby d4_12) rfl rfl) ?_
  show own_Go p.tables e below _ (T7.setTop (mkF m 13 #[.val (.ref a1), .val (.long q2), .second, .val (.int (4 : Int32)), .val (.int (16 : Int32))] [(.ref a1)]))
  refine own_go (fun _ => XS.iloadN X7.here hx rfl (hb hby d4_13) rfl) ?_
  show own_Go p.tables e below _ (T7.setTop (mkF m 14 #[.val (.ref a1), .val (.long q2), .second, .val (.int (4 : Int32)), .val (.int (16 : Int32))] [(.int (4 : Int32)), (.ref a1)]))
  refine own_go (fun _ => XS.lloadN X7.here hx rfl (hb hby d4_14) rfl) ?_
  show own_Go p.tables e below _ (T7.setTop (mkF m 15 #[.val (.ref a1), .val (.long q2), .second, .val (.int (4 : Int32)), .val (.int (16 : Int32))] [(.long q2), (.int (4 : Int32)), (.ref a1)]))
  obtain ⟨cl8, Ar8, q8, S8, M8, Hh8, G8⟩ := id V7
  have hin8 : ¬ ((4 : Int32) < 0 ∨ cl8.slots.size ≤ ((4 : Int32)).toNatClampNeg) := inb_of S8 (own_in16 (by decide : 4 < 16))
  obtain ⟨T8, h8, X8, e8, W8, st8⟩ := stJ X7 hx hZ e7 Ar8 (j := (4 : Int32)) hin8 (g := (mkF m 15 #[.val (.ref a1), .val (.long q2), .second, .val (.int (4 : Int32)), .val (.int (16 : Int32))] [(.long q2), (.int (4 : Int32)), (.ref a1)])) rfl rfl (hb hby d4_15)
  refine own_go st8 ?_
  have V8 : Arv Z h8 a1 kc .long (16 : Int32) (own_L (own_up (own_up (own_up (own_up (own_up f 0 q2) 1 q2) 2 q2) 3 q2) 4 q2)) (.long (0 : Int64)) := own_Lset (own_up (own_up (own_up (own_up f 0 q2) 1 q2) 2 q2) 3 q2) 4 q2 ▸ Arv.set Ar8 q8 S8 M8 Hh8 G8 rfl W8 4 (own_n16 (by decide : 4 < 16)) (own_Llen (by decide : 4 < 16))
  have K8 : Keep h0 h8 [a1] := K7.wr W8 (Or.inl (List.mem_of_getElem? (i := 0) rfl))
  have N8 := Fr.snoc X8 N7 g_a1
  show own_Go p.tables e below _ (T8.setTop (mkF m 16 #[.val (.ref a1), .val (.long q2), .second, .val (.int (4 : Int32)), .val (.int (16 : Int32))] []))
  refine own_go (fun _ => XS.iinc X8.here hx rfl (hb hby d4_16) rfl (l' := #[.val (.ref a1), .val (.long q2), .second, .val (.int (5 : Int32)), .val (.int (16 : Int32))]) rfl) ?_
  show own_Go p.tables e below _ (T8.setTop (mkF m 19 #[.val (.ref a1), .val (.long q2), .second, .val (.int (5 : Int32)), .val (.int (16 : Int32))] []))
  refine own_go (fun _ => XS.goto X8.here hx rfl (pc0 := 19) (pc' := 6) rfl (hb hby d4_19) (by decide) (by decide)) ?_
  show own_Go p.tables e below _ (T8.setTop (mkF m 6 #[.val (.ref a1), .val (.long q2), .second, .val (.int (5 : Int32)), .val (.int (16 : Int32))] []))
  refine own_go (fun _ => XS.iloadN X8.here hx rfl (hb hby d4_6) rfl) ?_
  show own_Go p.tables e below _ (T8.setTop (mkF m 7 #[.val (.ref a1), .val (.long q2), .second, .val (.int (5 : Int32)), .val (.int (16 : Int32))] [(.int (5 : Int32))]))
  refine own_go (fun _ => XS.iload X8.here hx rfl (hb hby d4_7) rfl) ?_
  show own_Go p.tables e below _ (T8.setTop (mkF m 9 #[.val (.ref a1), .val (.long q2), .second, .val (.int (5 : Int32)), .val (.int (16 : Int32))] [(.int (16 : Int32)), (.int (5 : Int32))]))
  refine own_go (fun _ => XS.icmpNo X8.here hx rfl (hb hby d4_9) rfl (tlt (by decide : (5 : Int32) < (16 : Int32))).2.1) ?_
  show own_Go p.tables e below _ (T8.setTop (mkF m 12 #[.val (.ref a1), .val (.long q2), .second, .val (.int (5 : Int32)), .val (.int (16 : Int32))] []))
  refine own_go (fun _ => XS.aloadN X8.here hx rfl (hb hby d4_12) rfl rfl) ?_
  show own_Go p.tables e below _ (T8.setTop (mkF m 13 #[.val (.ref a1), .val (.long q2), .second, .val (.int (5 : Int32)), .val (.int (16 : Int32))] [(.ref a1)]))
  refine own_go (fun _ => XS.iloadN X8.here hx rfl (hb hby d4_13) rfl) ?_
  show own_Go p.tables e below _ (T8.setTop (mkF m 14 #[.val (.ref a1), .val (.long q2), .second, .val (.int (5 : Int32)), .val (.int (16 : Int32))] [(.int (5 : Int32)), (.ref a1)]))
  refine own_go (fun _ => XS.lloadN X8.here hx rfl (hb hby d4_14) rfl) ?_
  show own_Go p.tables e below _ (T8.setTop (mkF m 15 #[.val (.ref a1), .val (.long q2), .second, .val (.int (5 : Int32)), .val (.int (16 : Int32))] [(.long q2), (.int (5 : Int32)), (.ref a1)]))
  obtain ⟨cl9, Ar9, q9, S9, M9, Hh9, G9⟩ := id V8
  have hin9 : ¬ ((5 : Int32) < 0 ∨ cl9.slots.size ≤ ((5 : Int32)).toNatClampNeg) := inb_of S9 (own_in16 (by decide : 5 < 16))
  obtain ⟨T9, h9, X9, e9, W9, st9⟩ := stJ X8 hx hZ e8 Ar9 (j := (5 : Int32)) hin9 (g := (mkF m 15 #[.val (.ref a1), .val (.long q2), .second, .val (.int (5 : Int32)), .val (.int (16 : Int32))] [(.long q2), (.int (5 : Int32)), (.ref a1)])) rfl rfl (hb hby d4_15)
  refine own_go st9 ?_
  have V9 : Arv Z h9 a1 kc .long (16 : Int32) (own_L (own_up (own_up (own_up (own_up (own_up (own_up f 0 q2) 1 q2) 2 q2) 3 q2) 4 q2) 5 q2)) (.long (0 : Int64)) := own_Lset (own_up (own_up (own_up (own_up (own_up f 0 q2) 1 q2) 2 q2) 3 q2) 4 q2) 5 q2 ▸ Arv.set Ar9 q9 S9 M9 Hh9 G9 rfl W9 5 (own_n16 (by decide : 5 < 16)) (own_Llen (by decide : 5 < 16))
  have K9 : Keep h0 h9 [a1] := K8.wr W9 (Or.inl (List.mem_of_getElem? (i := 0) rfl))
  have N9 := Fr.snoc X9 N8 g_a1
  show own_Go p.tables e below _ (T9.setTop (mkF m 16 #[.val (.ref a1), .val (.long q2), .second, .val (.int (5 : Int32)), .val (.int (16 : Int32))] []))
  refine own_go (fun _ => XS.iinc X9.here hx rfl (hb hby d4_16) rfl (l' := #[.val (.ref a1), .val (.long q2), .second, .val (.int (6 : Int32)), .val (.int (16 : Int32))]) rfl) ?_
  show own_Go p.tables e below _ (T9.setTop (mkF m 19 #[.val (.ref a1), .val (.long q2), .second, .val (.int (6 : Int32)), .val (.int (16 : Int32))] []))
  refine own_go (fun _ => XS.goto X9.here hx rfl (pc0 := 19) (pc' := 6) rfl (hb hby d4_19) (by decide) (by decide)) ?_
  show own_Go p.tables e below _ (T9.setTop (mkF m 6 #[.val (.ref a1), .val (.long q2), .second, .val (.int (6 : Int32)), .val (.int (16 : Int32))] []))
  refine own_go (fun _ => XS.iloadN X9.here hx rfl (hb hby d4_6) rfl) ?_
  show own_Go p.tables e below _ (T9.setTop (mkF m 7 #[.val (.ref a1), .val (.long q2), .second, .val (.int (6 : Int32)), .val (.int (16 : Int32))] [(.int (6 : Int32))]))
  refine own_go (fun _ => XS.iload X9.here hx rfl (hb hby d4_7) rfl) ?_
  show own_Go p.tables e below _ (T9.setTop (mkF m 9 #[.val (.ref a1), .val (.long q2), .second, .val (.int (6 : Int32)), .val (.int (16 : Int32))] [(.int (16 : Int32)), (.int (6 : Int32))]))
  refine own_go (fun _ => XS.icmpNo X9.here hx rfl (hb hby d4_9) rfl (tlt (by decide : (6 : Int32) < (16 : Int32))).2.1) ?_
  show own_Go p.tables e below _ (T9.setTop (mkF m 12 #[.val (.ref a1), .val (.long q2), .second, .val (.int (6 : Int32)), .val (.int (16 : Int32))] []))
  refine own_go (fun _ => XS.aloadN X9.here hx rfl (hb hby d4_12) rfl rfl) ?_
  show own_Go p.tables e below _ (T9.setTop (mkF m 13 #[.val (.ref a1), .val (.long q2), .second, .val (.int (6 : Int32)), .val (.int (16 : Int32))] [(.ref a1)]))
  refine own_go (fun _ => XS.iloadN X9.here hx rfl (hb hby d4_13) rfl) ?_
  show own_Go p.tables e below _ (T9.setTop (mkF m 14 #[.val (.ref a1), .val (.long q2), .second, .val (.int (6 : Int32)), .val (.int (16 : Int32))] [(.int (6 : Int32)), (.ref a1)]))
  refine own_go (fun _ => XS.lloadN X9.here hx rfl (hb hby d4_14) rfl) ?_
  show own_Go p.tables e below _ (T9.setTop (mkF m 15 #[.val (.ref a1), .val (.long q2), .second, .val (.int (6 : Int32)), .val (.int (16 : Int32))] [(.long q2), (.int (6 : Int32)), (.ref a1)]))
  obtain ⟨cl10, Ar10, q10, S10, M10, Hh10, G10⟩ := id V9
  have hin10 : ¬ ((6 : Int32) < 0 ∨ cl10.slots.size ≤ ((6 : Int32)).toNatClampNeg) := inb_of S10 (own_in16 (by decide : 6 < 16))
  obtain ⟨T10, h10, X10, e10, W10, st10⟩ := stJ X9 hx hZ e9 Ar10 (j := (6 : Int32)) hin10 (g := (mkF m 15 #[.val (.ref a1), .val (.long q2), .second, .val (.int (6 : Int32)), .val (.int (16 : Int32))] [(.long q2), (.int (6 : Int32)), (.ref a1)])) rfl rfl (hb hby d4_15)
  refine own_go st10 ?_
  have V10 : Arv Z h10 a1 kc .long (16 : Int32) (own_L (own_up (own_up (own_up (own_up (own_up (own_up (own_up f 0 q2) 1 q2) 2 q2) 3 q2) 4 q2) 5 q2) 6 q2)) (.long (0 : Int64)) := own_Lset (own_up (own_up (own_up (own_up (own_up (own_up f 0 q2) 1 q2) 2 q2) 3 q2) 4 q2) 5 q2) 6 q2 ▸ Arv.set Ar10 q10 S10 M10 Hh10 G10 rfl W10 6 (own_n16 (by decide : 6 < 16)) (own_Llen (by decide : 6 < 16))
  have K10 : Keep h0 h10 [a1] := K9.wr W10 (Or.inl (List.mem_of_getElem? (i := 0) rfl))
  have N10 := Fr.snoc X10 N9 g_a1
  show own_Go p.tables e below _ (T10.setTop (mkF m 16 #[.val (.ref a1), .val (.long q2), .second, .val (.int (6 : Int32)), .val (.int (16 : Int32))] []))
  refine own_go (fun _ => XS.iinc X10.here hx rfl (hb hby d4_16) rfl (l' := #[.val (.ref a1), .val (.long q2), .second, .val (.int (7 : Int32)), .val (.int (16 : Int32))]) rfl) ?_
  show own_Go p.tables e below _ (T10.setTop (mkF m 19 #[.val (.ref a1), .val (.long q2), .second, .val (.int (7 : Int32)), .val (.int (16 : Int32))] []))
  refine own_go (fun _ => XS.goto X10.here hx rfl (pc0 := 19) (pc' := 6) rfl (hb hby d4_19) (by decide) (by decide)) ?_
  show own_Go p.tables e below _ (T10.setTop (mkF m 6 #[.val (.ref a1), .val (.long q2), .second, .val (.int (7 : Int32)), .val (.int (16 : Int32))] []))
  refine own_go (fun _ => XS.iloadN X10.here hx rfl (hb hby d4_6) rfl) ?_
  show own_Go p.tables e below _ (T10.setTop (mkF m 7 #[.val (.ref a1), .val (.long q2), .second, .val (.int (7 : Int32)), .val (.int (16 : Int32))] [(.int (7 : Int32))]))
  refine own_go (fun _ => XS.iload X10.here hx rfl (hb hby d4_7) rfl) ?_
  show own_Go p.tables e below _ (T10.setTop (mkF m 9 #[.val (.ref a1), .val (.long q2), .second, .val (.int (7 : Int32)), .val (.int (16 : Int32))] [(.int (16 : Int32)), (.int (7 : Int32))]))
  refine own_go (fun _ => XS.icmpNo X10.here hx rfl (hb hby d4_9) rfl (tlt (by decide : (7 : Int32) < (16 : Int32))).2.1) ?_
  show own_Go p.tables e below _ (T10.setTop (mkF m 12 #[.val (.ref a1), .val (.long q2), .second, .val (.int (7 : Int32)), .val (.int (16 : Int32))] []))
  refine own_go (fun _ => XS.aloadN X10.here hx rfl (hb hby d4_12) rfl rfl) ?_
  show own_Go p.tables e below _ (T10.setTop (mkF m 13 #[.val (.ref a1), .val (.long q2), .second, .val (.int (7 : Int32)), .val (.int (16 : Int32))] [(.ref a1)]))
  refine own_go (fun _ => XS.iloadN X10.here hx rfl (hb hby d4_13) rfl) ?_
  show own_Go p.tables e below _ (T10.setTop (mkF m 14 #[.val (.ref a1), .val (.long q2), .second, .val (.int (7 : Int32)), .val (.int (16 : Int32))] [(.int (7 : Int32)), (.ref a1)]))
  refine own_go (fun _ => XS.lloadN X10.here hx rfl (hb hby d4_14) rfl) ?_
  show own_Go p.tables e below _ (T10.setTop (mkF m 15 #[.val (.ref a1), .val (.long q2), .second, .val (.int (7 : Int32)), .val (.int (16 : Int32))] [(.long q2), (.int (7 : Int32)), (.ref a1)]))
  obtain ⟨cl11, Ar11, q11, S11, M11, Hh11, G11⟩ := id V10
  have hin11 : ¬ ((7 : Int32) < 0 ∨ cl11.slots.size ≤ ((7 : Int32)).toNatClampNeg) := inb_of S11 (own_in16 (by decide : 7 < 16))
  obtain ⟨T11, h11, X11, e11, W11, st11⟩ := stJ X10 hx hZ e10 Ar11 (j := (7 : Int32)) hin11 (g := (mkF m 15 #[.val (.ref a1), .val (.long q2), .second, .val (.int (7 : Int32)), .val (.int (16 : Int32))] [(.long q2), (.int (7 : Int32)), (.ref a1)])) rfl rfl (hb hby d4_15)
  refine own_go st11 ?_
  have V11 : Arv Z h11 a1 kc .long (16 : Int32) (own_L (own_up (own_up (own_up (own_up (own_up (own_up (own_up (own_up f 0 q2) 1 q2) 2 q2) 3 q2) 4 q2) 5 q2) 6 q2) 7 q2)) (.long (0 : Int64)) := own_Lset (own_up (own_up (own_up (own_up (own_up (own_up (own_up f 0 q2) 1 q2) 2 q2) 3 q2) 4 q2) 5 q2) 6 q2) 7 q2 ▸ Arv.set Ar11 q11 S11 M11 Hh11 G11 rfl W11 7 (own_n16 (by decide : 7 < 16)) (own_Llen (by decide : 7 < 16))
  have K11 : Keep h0 h11 [a1] := K10.wr W11 (Or.inl (List.mem_of_getElem? (i := 0) rfl))
  have N11 := Fr.snoc X11 N10 g_a1
  show own_Go p.tables e below _ (T11.setTop (mkF m 16 #[.val (.ref a1), .val (.long q2), .second, .val (.int (7 : Int32)), .val (.int (16 : Int32))] []))
  refine own_go (fun _ => XS.iinc X11.here hx rfl (hb hby d4_16) rfl (l' := #[.val (.ref a1), .val (.long q2), .second, .val (.int (8 : Int32)), .val (.int (16 : Int32))]) rfl) ?_
  show own_Go p.tables e below _ (T11.setTop (mkF m 19 #[.val (.ref a1), .val (.long q2), .second, .val (.int (8 : Int32)), .val (.int (16 : Int32))] []))
  refine own_go (fun _ => XS.goto X11.here hx rfl (pc0 := 19) (pc' := 6) rfl (hb hby d4_19) (by decide) (by decide)) ?_
  show own_Go p.tables e below _ (T11.setTop (mkF m 6 #[.val (.ref a1), .val (.long q2), .second, .val (.int (8 : Int32)), .val (.int (16 : Int32))] []))
  refine own_go (fun _ => XS.iloadN X11.here hx rfl (hb hby d4_6) rfl) ?_
  show own_Go p.tables e below _ (T11.setTop (mkF m 7 #[.val (.ref a1), .val (.long q2), .second, .val (.int (8 : Int32)), .val (.int (16 : Int32))] [(.int (8 : Int32))]))
  refine own_go (fun _ => XS.iload X11.here hx rfl (hb hby d4_7) rfl) ?_
  show own_Go p.tables e below _ (T11.setTop (mkF m 9 #[.val (.ref a1), .val (.long q2), .second, .val (.int (8 : Int32)), .val (.int (16 : Int32))] [(.int (16 : Int32)), (.int (8 : Int32))]))
  refine own_go (fun _ => XS.icmpNo X11.here hx rfl (hb hby d4_9) rfl (tlt (by decide : (8 : Int32) < (16 : Int32))).2.1) ?_
  show own_Go p.tables e below _ (T11.setTop (mkF m 12 #[.val (.ref a1), .val (.long q2), .second, .val (.int (8 : Int32)), .val (.int (16 : Int32))] []))
  refine own_go (fun _ => XS.aloadN X11.here hx rfl (hb hby d4_12) rfl rfl) ?_
  show own_Go p.tables e below _ (T11.setTop (mkF m 13 #[.val (.ref a1), .val (.long q2), .second, .val (.int (8 : Int32)), .val (.int (16 : Int32))] [(.ref a1)]))
  refine own_go (fun _ => XS.iloadN X11.here hx rfl (hb hby d4_13) rfl) ?_
  show own_Go p.tables e below _ (T11.setTop (mkF m 14 #[.val (.ref a1), .val (.long q2), .second, .val (.int (8 : Int32)), .val (.int (16 : Int32))] [(.int (8 : Int32)), (.ref a1)]))
  refine own_go (fun _ => XS.lloadN X11.here hx rfl (hb hby d4_14) rfl) ?_
  show own_Go p.tables e below _ (T11.setTop (mkF m 15 #[.val (.ref a1), .val (.long q2), .second, .val (.int (8 : Int32)), .val (.int (16 : Int32))] [(.long q2), (.int (8 : Int32)), (.ref a1)]))
  obtain ⟨cl12, Ar12, q12, S12, M12, Hh12, G12⟩ := id V11
  have hin12 : ¬ ((8 : Int32) < 0 ∨ cl12.slots.size ≤ ((8 : Int32)).toNatClampNeg) := inb_of S12 (own_in16 (by decide : 8 < 16))
  obtain ⟨T12, h12, X12, e12, W12, st12⟩ := stJ X11 hx hZ e11 Ar12 (j := (8 : Int32)) hin12 (g := (mkF m 15 #[.val (.ref a1), .val (.long q2), .second, .val (.int (8 : Int32)), .val (.int (16 : Int32))] [(.long q2), (.int (8 : Int32)), (.ref a1)])) rfl rfl (hb hby d4_15)
  refine own_go st12 ?_
  have V12 : Arv Z h12 a1 kc .long (16 : Int32) (own_L (own_up (own_up (own_up (own_up (own_up (own_up (own_up (own_up (own_up f 0 q2) 1 q2) 2 q2) 3 q2) 4 q2) 5 q2) 6 q2) 7 q2) 8 q2)) (.long (0 : Int64)) := own_Lset (own_up (own_up (own_up (own_up (own_up (own_up (own_up (own_up f 0 q2) 1 q2) 2 q2) 3 q2) 4 q2) 5 q2) 6 q2) 7 q2) 8 q2 ▸ Arv.set Ar12 q12 S12 M12 Hh12 G12 rfl W12 8 (own_n16 (by decide : 8 < 16)) (own_Llen (by decide : 8 < 16))
  have K12 : Keep h0 h12 [a1] := K11.wr W12 (Or.inl (List.mem_of_getElem? (i := 0) rfl))
  have N12 := Fr.snoc X12 N11 g_a1
  show own_Go p.tables e below _ (T12.setTop (mkF m 16 #[.val (.ref a1), .val (.long q2), .second, .val (.int (8 : Int32)), .val (.int (16 : Int32))] []))
  refine own_go (fun _ => XS.iinc X12.here hx rfl (hb hby d4_16) rfl (l' := #[.val (.ref a1), .val (.long q2), .second, .val (.int (9 : Int32)), .val (.int (16 : Int32))]) rfl) ?_
  show own_Go p.tables e below _ (T12.setTop (mkF m 19 #[.val (.ref a1), .val (.long q2), .second, .val (.int (9 : Int32)), .val (.int (16 : Int32))] []))
  refine own_go (fun _ => XS.goto X12.here hx rfl (pc0 := 19) (pc' := 6) rfl (hb hby d4_19) (by decide) (by decide)) ?_
  show own_Go p.tables e below _ (T12.setTop (mkF m 6 #[.val (.ref a1), .val (.long q2), .second, .val (.int (9 : Int32)), .val (.int (16 : Int32))] []))
  refine own_go (fun _ => XS.iloadN X12.here hx rfl (hb hby d4_6) rfl) ?_
  show own_Go p.tables e below _ (T12.setTop (mkF m 7 #[.val (.ref a1), .val (.long q2), .second, .val (.int (9 : Int32)), .val (.int (16 : Int32))] [(.int (9 : Int32))]))
  refine own_go (fun _ => XS.iload X12.here hx rfl (hb hby d4_7) rfl) ?_
  show own_Go p.tables e below _ (T12.setTop (mkF m 9 #[.val (.ref a1), .val (.long q2), .second, .val (.int (9 : Int32)), .val (.int (16 : Int32))] [(.int (16 : Int32)), (.int (9 : Int32))]))
  refine own_go (fun _ => XS.icmpNo X12.here hx rfl (hb hby d4_9) rfl (tlt (by decide : (9 : Int32) < (16 : Int32))).2.1) ?_
  show own_Go p.tables e below _ (T12.setTop (mkF m 12 #[.val (.ref a1), .val (.long q2), .second, .val (.int (9 : Int32)), .val (.int (16 : Int32))] []))
  refine own_go (fun _ => XS.aloadN X12.here hx rfl (hb hby d4_12) rfl rfl) ?_
  show own_Go p.tables e below _ (T12.setTop (mkF m 13 #[.val (.ref a1), .val (.long q2), .second, .val (.int (9 : Int32)), .val (.int (16 : Int32))] [(.ref a1)]))
  refine own_go (fun _ => XS.iloadN X12.here hx rfl (hb hby d4_13) rfl) ?_
  show own_Go p.tables e below _ (T12.setTop (mkF m 14 #[.val (.ref a1), .val (.long q2), .second, .val (.int (9 : Int32)), .val (.int (16 : Int32))] [(.int (9 : Int32)), (.ref a1)]))
  refine own_go (fun _ => XS.lloadN X12.here hx rfl (hb hby d4_14) rfl) ?_
  show own_Go p.tables e below _ (T12.setTop (mkF m 15 #[.val (.ref a1), .val (.long q2), .second, .val (.int (9 : Int32)), .val (.int (16 : Int32))] [(.long q2), (.int (9 : Int32)), (.ref a1)]))
  obtain ⟨cl13, Ar13, q13, S13, M13, Hh13, G13⟩ := id V12
  have hin13 : ¬ ((9 : Int32) < 0 ∨ cl13.slots.size ≤ ((9 : Int32)).toNatClampNeg) := inb_of S13 (own_in16 (by decide : 9 < 16))
  obtain ⟨T13, h13, X13, e13, W13, st13⟩ := stJ X12 hx hZ e12 Ar13 (j := (9 : Int32)) hin13 (g := (mkF m 15 #[.val (.ref a1), .val (.long q2), .second, .val (.int (9 : Int32)), .val (.int (16 : Int32))] [(.long q2), (.int (9 : Int32)), (.ref a1)])) rfl rfl (hb hby d4_15)
  refine own_go st13 ?_
  have V13 : Arv Z h13 a1 kc .long (16 : Int32) (own_L (own_up (own_up (own_up (own_up (own_up (own_up (own_up (own_up (own_up (own_up f 0 q2) 1 q2) 2 q2) 3 q2) 4 q2) 5 q2) 6 q2) 7 q2) 8 q2) 9 q2)) (.long (0 : Int64)) := own_Lset (own_up (own_up (own_up (own_up (own_up (own_up (own_up (own_up (own_up f 0 q2) 1 q2) 2 q2) 3 q2) 4 q2) 5 q2) 6 q2) 7 q2) 8 q2) 9 q2 ▸ Arv.set Ar13 q13 S13 M13 Hh13 G13 rfl W13 9 (own_n16 (by decide : 9 < 16)) (own_Llen (by decide : 9 < 16))
  have K13 : Keep h0 h13 [a1] := K12.wr W13 (Or.inl (List.mem_of_getElem? (i := 0) rfl))
  have N13 := Fr.snoc X13 N12 g_a1
  show own_Go p.tables e below _ (T13.setTop (mkF m 16 #[.val (.ref a1), .val (.long q2), .second, .val (.int (9 : Int32)), .val (.int (16 : Int32))] []))
  refine own_go (fun _ => XS.iinc X13.here hx rfl (hb hby d4_16) rfl (l' := #[.val (.ref a1), .val (.long q2), .second, .val (.int (10 : Int32)), .val (.int (16 : Int32))]) rfl) ?_
  show own_Go p.tables e below _ (T13.setTop (mkF m 19 #[.val (.ref a1), .val (.long q2), .second, .val (.int (10 : Int32)), .val (.int (16 : Int32))] []))
  refine own_go (fun _ => XS.goto X13.here hx rfl (pc0 := 19) (pc' := 6) rfl (hb hby d4_19) (by decide) (by decide)) ?_
  show own_Go p.tables e below _ (T13.setTop (mkF m 6 #[.val (.ref a1), .val (.long q2), .second, .val (.int (10 : Int32)), .val (.int (16 : Int32))] []))
  refine own_go (fun _ => XS.iloadN X13.here hx rfl (hb hby d4_6) rfl) ?_
  show own_Go p.tables e below _ (T13.setTop (mkF m 7 #[.val (.ref a1), .val (.long q2), .second, .val (.int (10 : Int32)), .val (.int (16 : Int32))] [(.int (10 : Int32))]))
  refine own_go (fun _ => XS.iload X13.here hx rfl (hb hby d4_7) rfl) ?_
  show own_Go p.tables e below _ (T13.setTop (mkF m 9 #[.val (.ref a1), .val (.long q2), .second, .val (.int (10 : Int32)), .val (.int (16 : Int32))] [(.int (16 : Int32)), (.int (10 : Int32))]))
  refine own_go (fun _ => XS.icmpNo X13.here hx rfl (hb hby d4_9) rfl (tlt (by decide : (10 : Int32) < (16 : Int32))).2.1) ?_
  show own_Go p.tables e below _ (T13.setTop (mkF m 12 #[.val (.ref a1), .val (.long q2), .second, .val (.int (10 : Int32)), .val (.int (16 : Int32))] []))
  refine own_go (fun _ => XS.aloadN X13.here hx rfl (hb hby d4_12) rfl rfl) ?_
  show own_Go p.tables e below _ (T13.setTop (mkF m 13 #[.val (.ref a1), .val (.long q2), .second, .val (.int (10 : Int32)), .val (.int (16 : Int32))] [(.ref a1)]))
  refine own_go (fun _ => XS.iloadN X13.here hx rfl (hb hby d4_13) rfl) ?_
  show own_Go p.tables e below _ (T13.setTop (mkF m 14 #[.val (.ref a1), .val (.long q2), .second, .val (.int (10 : Int32)), .val (.int (16 : Int32))] [(.int (10 : Int32)), (.ref a1)]))
  refine own_go (fun _ => XS.lloadN X13.here hx rfl (hb hby d4_14) rfl) ?_
  show own_Go p.tables e below _ (T13.setTop (mkF m 15 #[.val (.ref a1), .val (.long q2), .second, .val (.int (10 : Int32)), .val (.int (16 : Int32))] [(.long q2), (.int (10 : Int32)), (.ref a1)]))
  obtain ⟨cl14, Ar14, q14, S14, M14, Hh14, G14⟩ := id V13
  have hin14 : ¬ ((10 : Int32) < 0 ∨ cl14.slots.size ≤ ((10 : Int32)).toNatClampNeg) := inb_of S14 (own_in16 (by decide : 10 < 16))
  obtain ⟨T14, h14, X14, e14, W14, st14⟩ := stJ X13 hx hZ e13 Ar14 (j := (10 : Int32)) hin14 (g := (mkF m 15 #[.val (.ref a1), .val (.long q2), .second, .val (.int (10 : Int32)), .val (.int (16 : Int32))] [(.long q2), (.int (10 : Int32)), (.ref a1)])) rfl rfl (hb hby d4_15)
  refine own_go st14 ?_
  have V14 : Arv Z h14 a1 kc .long (16 : Int32) (own_L (own_up (own_up (own_up (own_up (own_up (own_up (own_up (own_up (own_up (own_up (own_up f 0 q2) 1 q2) 2 q2) 3 q2) 4 q2) 5 q2) 6 q2) 7 q2) 8 q2) 9 q2) 10 q2)) (.long (0 : Int64)) := own_Lset (own_up (own_up (own_up (own_up (own_up (own_up (own_up (own_up (own_up (own_up f 0 q2) 1 q2) 2 q2) 3 q2) 4 q2) 5 q2) 6 q2) 7 q2) 8 q2) 9 q2) 10 q2 ▸ Arv.set Ar14 q14 S14 M14 Hh14 G14 rfl W14 10 (own_n16 (by decide : 10 < 16)) (own_Llen (by decide : 10 < 16))
  have K14 : Keep h0 h14 [a1] := K13.wr W14 (Or.inl (List.mem_of_getElem? (i := 0) rfl))
  have N14 := Fr.snoc X14 N13 g_a1
  show own_Go p.tables e below _ (T14.setTop (mkF m 16 #[.val (.ref a1), .val (.long q2), .second, .val (.int (10 : Int32)), .val (.int (16 : Int32))] []))
  refine own_go (fun _ => XS.iinc X14.here hx rfl (hb hby d4_16) rfl (l' := #[.val (.ref a1), .val (.long q2), .second, .val (.int (11 : Int32)), .val (.int (16 : Int32))]) rfl) ?_
  show own_Go p.tables e below _ (T14.setTop (mkF m 19 #[.val (.ref a1), .val (.long q2), .second, .val (.int (11 : Int32)), .val (.int (16 : Int32))] []))
  refine own_go (fun _ => XS.goto X14.here hx rfl (pc0 := 19) (pc' := 6) rfl (hb hby d4_19) (by decide) (by decide)) ?_
  show own_Go p.tables e below _ (T14.setTop (mkF m 6 #[.val (.ref a1), .val (.long q2), .second, .val (.int (11 : Int32)), .val (.int (16 : Int32))] []))
  refine own_go (fun _ => XS.iloadN X14.here hx rfl (hb hby d4_6) rfl) ?_
  show own_Go p.tables e below _ (T14.setTop (mkF m 7 #[.val (.ref a1), .val (.long q2), .second, .val (.int (11 : Int32)), .val (.int (16 : Int32))] [(.int (11 : Int32))]))
  refine own_go (fun _ => XS.iload X14.here hx rfl (hb hby d4_7) rfl) ?_
  show own_Go p.tables e below _ (T14.setTop (mkF m 9 #[.val (.ref a1), .val (.long q2), .second, .val (.int (11 : Int32)), .val (.int (16 : Int32))] [(.int (16 : Int32)), (.int (11 : Int32))]))
  refine own_go (fun _ => XS.icmpNo X14.here hx rfl (hb hby d4_9) rfl (tlt (by decide : (11 : Int32) < (16 : Int32))).2.1) ?_
  show own_Go p.tables e below _ (T14.setTop (mkF m 12 #[.val (.ref a1), .val (.long q2), .second, .val (.int (11 : Int32)), .val (.int (16 : Int32))] []))
  refine own_go (fun _ => XS.aloadN X14.here hx rfl (hb hby d4_12) rfl rfl) ?_
  show own_Go p.tables e below _ (T14.setTop (mkF m 13 #[.val (.ref a1), .val (.long q2), .second, .val (.int (11 : Int32)), .val (.int (16 : Int32))] [(.ref a1)]))
  refine own_go (fun _ => XS.iloadN X14.here hx rfl (hb hby d4_13) rfl) ?_
  show own_Go p.tables e below _ (T14.setTop (mkF m 14 #[.val (.ref a1), .val (.long q2), .second, .val (.int (11 : Int32)), .val (.int (16 : Int32))] [(.int (11 : Int32)), (.ref a1)]))
  refine own_go (fun _ => XS.lloadN X14.here hx rfl (hb hby d4_14) rfl) ?_
  show own_Go p.tables e below _ (T14.setTop (mkF m 15 #[.val (.ref a1), .val (.long q2), .second, .val (.int (11 : Int32)), .val (.int (16 : Int32))] [(.long q2), (.int (11 : Int32)), (.ref a1)]))
  obtain ⟨cl15, Ar15, q15, S15, M15, Hh15, G15⟩ := id V14
  have hin15 : ¬ ((11 : Int32) < 0 ∨ cl15.slots.size ≤ ((11 : Int32)).toNatClampNeg) := inb_of S15 (own_in16 (by decide : 11 < 16))
  obtain ⟨T15, h15, X15, e15, W15, st15⟩ := stJ X14 hx hZ e14 Ar15 (j := (11 : Int32)) hin15 (g := (mkF m 15 #[.val (.ref a1), .val (.long q2), .second, .val (.int (11 : Int32)), .val (.int (16 : Int32))] [(.long q2), (.int (11 : Int32)), (.ref a1)])) rfl rfl (hb hby d4_15)
  refine own_go st15 ?_
  have V15 : Arv Z h15 a1 kc .long (16 : Int32) (own_L (own_up (own_up (own_up (own_up (own_up (own_up (own_up (own_up (own_up (own_up (own_up (own_up f 0 q2) 1 q2) 2 q2) 3 q2) 4 q2) 5 q2) 6 q2) 7 q2) 8 q2) 9 q2) 10 q2) 11 q2)) (.long (0 : Int64)) := own_Lset (own_up (own_up (own_up (own_up (own_up (own_up (own_up (own_up (own_up (own_up (own_up f 0 q2) 1 q2) 2 q2) 3 q2) 4 q2) 5 q2) 6 q2) 7 q2) 8 q2) 9 q2) 10 q2) 11 q2 ▸ Arv.set Ar15 q15 S15 M15 Hh15 G15 rfl W15 11 (own_n16 (by decide : 11 < 16)) (own_Llen (by decide : 11 < 16))
  have K15 : Keep h0 h15 [a1] := K14.wr W15 (Or.inl (List.mem_of_getElem? (i := 0) rfl))
  have N15 := Fr.snoc X15 N14 g_a1
  show own_Go p.tables e below _ (T15.setTop (mkF m 16 #[.val (.ref a1), .val (.long q2), .second, .val (.int (11 : Int32)), .val (.int (16 : Int32))] []))
  refine own_go (fun _ => XS.iinc X15.here hx rfl (hb hby d4_16) rfl (l' := #[.val (.ref a1), .val (.long q2), .second, .val (.int (12 : Int32)), .val (.int (16 : Int32))]) rfl) ?_
  show own_Go p.tables e below _ (T15.setTop (mkF m 19 #[.val (.ref a1), .val (.long q2), .second, .val (.int (12 : Int32)), .val (.int (16 : Int32))] []))
  refine own_go (fun _ => XS.goto X15.here hx rfl (pc0 := 19) (pc' := 6) rfl (hb hby d4_19) (by decide) (by decide)) ?_
  show own_Go p.tables e below _ (T15.setTop (mkF m 6 #[.val (.ref a1), .val (.long q2), .second, .val (.int (12 : Int32)), .val (.int (16 : Int32))] []))
  refine own_go (fun _ => XS.iloadN X15.here hx rfl (hb hby d4_6) rfl) ?_
  show own_Go p.tables e below _ (T15.setTop (mkF m 7 #[.val (.ref a1), .val (.long q2), .second, .val (.int (12 : Int32)), .val (.int (16 : Int32))] [(.int (12 : Int32))]))
  refine own_go (fun _ => XS.iload X15.here hx rfl (hb hby d4_7) rfl) ?_
  show own_Go p.tables e below _ (T15.setTop (mkF m 9 #[.val (.ref a1), .val (.long q2), .second, .val (.int (12 : Int32)), .val (.int (16 : Int32))] [(.int (16 : Int32)), (.int (12 : Int32))]))
  refine own_go (fun _ => XS.icmpNo X15.here hx rfl (hb hby d4_9) rfl (tlt (by decide : (12 : Int32) < (16 : Int32))).2.1) ?_
  show own_Go p.tables e below _ (T15.setTop (mkF m 12 #[.val (.ref a1), .val (.long q2), .second, .val (.int (12 : Int32)), .val (.int (16 : Int32))] []))
  refine own_go (fun _ => XS.aloadN X15.here hx rfl (hb hby d4_12) rfl rfl) ?_
  show own_Go p.tables e below _ (T15.setTop (mkF m 13 #[.val (.ref a1), .val (.long q2), .second, .val (.int (12 : Int32)), .val (.int (16 : Int32))] [(.ref a1)]))
  refine own_go (fun _ => XS.iloadN X15.here hx rfl (hb hby d4_13) rfl) ?_
  show own_Go p.tables e below _ (T15.setTop (mkF m 14 #[.val (.ref a1), .val (.long q2), .second, .val (.int (12 : Int32)), .val (.int (16 : Int32))] [(.int (12 : Int32)), (.ref a1)]))
  refine own_go (fun _ => XS.lloadN X15.here hx rfl (hb hby d4_14) rfl) ?_
  show own_Go p.tables e below _ (T15.setTop (mkF m 15 #[.val (.ref a1), .val (.long q2), .second, .val (.int (12 : Int32)), .val (.int (16 : Int32))] [(.long q2), (.int (12 : Int32)), (.ref a1)]))
  obtain ⟨cl16, Ar16, q16, S16, M16, Hh16, G16⟩ := id V15
  have hin16 : ¬ ((12 : Int32) < 0 ∨ cl16.slots.size ≤ ((12 : Int32)).toNatClampNeg) := inb_of S16 (own_in16 (by decide : 12 < 16))
  obtain ⟨T16, h16, X16, e16, W16, st16⟩ := stJ X15 hx hZ e15 Ar16 (j := (12 : Int32)) hin16 (g := (mkF m 15 #[.val (.ref a1), .val (.long q2), .second, .val (.int (12 : Int32)), .val (.int (16 : Int32))] [(.long q2), (.int (12 : Int32)), (.ref a1)])) rfl rfl (hb hby d4_15)
  refine own_go st16 ?_
  have V16 : Arv Z h16 a1 kc .long (16 : Int32) (own_L (own_up (own_up (own_up (own_up (own_up (own_up (own_up (own_up (own_up (own_up (own_up (own_up (own_up f 0 q2) 1 q2) 2 q2) 3 q2) 4 q2) 5 q2) 6 q2) 7 q2) 8 q2) 9 q2) 10 q2) 11 q2) 12 q2)) (.long (0 : Int64)) := own_Lset (own_up (own_up (own_up (own_up (own_up (own_up (own_up (own_up (own_up (own_up (own_up (own_up f 0 q2) 1 q2) 2 q2) 3 q2) 4 q2) 5 q2) 6 q2) 7 q2) 8 q2) 9 q2) 10 q2) 11 q2) 12 q2 ▸ Arv.set Ar16 q16 S16 M16 Hh16 G16 rfl W16 12 (own_n16 (by decide : 12 < 16)) (own_Llen (by decide : 12 < 16))
  have K16 : Keep h0 h16 [a1] := K15.wr W16 (Or.inl (List.mem_of_getElem? (i := 0) rfl))
  have N16 := Fr.snoc X16 N15 g_a1
  show own_Go p.tables e below _ (T16.setTop (mkF m 16 #[.val (.ref a1), .val (.long q2), .second, .val (.int (12 : Int32)), .val (.int (16 : Int32))] []))
  refine own_go (fun _ => XS.iinc X16.here hx rfl (hb hby d4_16) rfl (l' := #[.val (.ref a1), .val (.long q2), .second, .val (.int (13 : Int32)), .val (.int (16 : Int32))]) rfl) ?_
  show own_Go p.tables e below _ (T16.setTop (mkF m 19 #[.val (.ref a1), .val (.long q2), .second, .val (.int (13 : Int32)), .val (.int (16 : Int32))] []))
  refine own_go (fun _ => XS.goto X16.here hx rfl (pc0 := 19) (pc' := 6) rfl (hb hby d4_19) (by decide) (by decide)) ?_
  show own_Go p.tables e below _ (T16.setTop (mkF m 6 #[.val (.ref a1), .val (.long q2), .second, .val (.int (13 : Int32)), .val (.int (16 : Int32))] []))
  refine own_go (fun _ => XS.iloadN X16.here hx rfl (hb hby d4_6) rfl) ?_
  show own_Go p.tables e below _ (T16.setTop (mkF m 7 #[.val (.ref a1), .val (.long q2), .second, .val (.int (13 : Int32)), .val (.int (16 : Int32))] [(.int (13 : Int32))]))
  refine own_go (fun _ => XS.iload X16.here hx rfl (hb hby d4_7) rfl) ?_
  show own_Go p.tables e below _ (T16.setTop (mkF m 9 #[.val (.ref a1), .val (.long q2), .second, .val (.int (13 : Int32)), .val (.int (16 : Int32))] [(.int (16 : Int32)), (.int (13 : Int32))]))
  refine own_go (fun _ => XS.icmpNo X16.here hx rfl (hb hby d4_9) rfl (tlt (by decide : (13 : Int32) < (16 : Int32))).2.1) ?_
  show own_Go p.tables e below _ (T16.setTop (mkF m 12 #[.val (.ref a1), .val (.long q2), .second, .val (.int (13 : Int32)), .val (.int (16 : Int32))] []))
  refine own_go (fun _ => XS.aloadN X16.here hx rfl (hb hby d4_12) rfl rfl) ?_
  show own_Go p.tables e below _ (T16.setTop (mkF m 13 #[.val (.ref a1), .val (.long q2), .second, .val (.int (13 : Int32)), .val (.int (16 : Int32))] [(.ref a1)]))
  refine own_go (fun _ => XS.iloadN X16.here hx rfl (hb hby d4_13) rfl) ?_
  show own_Go p.tables e below _ (T16.setTop (mkF m 14 #[.val (.ref a1), .val (.long q2), .second, .val (.int (13 : Int32)), .val (.int (16 : Int32))] [(.int (13 : Int32)), (.ref a1)]))
  refine own_go (fun _ => XS.lloadN X16.here hx rfl (hb hby d4_14) rfl) ?_
  show own_Go p.tables e below _ (T16.setTop (mkF m 15 #[.val (.ref a1), .val (.long q2), .second, .val (.int (13 : Int32)), .val (.int (16 : Int32))] [(.long q2), (.int (13 : Int32)), (.ref a1)]))
  obtain ⟨cl17, Ar17, q17, S17, M17, Hh17, G17⟩ := id V16
  have hin17 : ¬ ((13 : Int32) < 0 ∨ cl17.slots.size ≤ ((13 : Int32)).toNatClampNeg) := inb_of S17 (own_in16 (by decide : 13 < 16))
  obtain ⟨T17, h17, X17, e17, W17, st17⟩ := stJ X16 hx hZ e16 Ar17 (j := (13 : Int32)) hin17 (g := (mkF m 15 #[.val (.ref a1), .val (.long q2), .second, .val (.int (13 : Int32)), .val (.int (16 : Int32))] [(.long q2), (.int (13 : Int32)), (.ref a1)])) rfl rfl (hb hby d4_15)
  refine own_go st17 ?_
  have V17 : Arv Z h17 a1 kc .long (16 : Int32) (own_L (own_up (own_up (own_up (own_up (own_up (own_up (own_up (own_up (own_up (own_up (own_up (own_up (own_up (own_up f 0 q2) 1 q2) 2 q2) 3 q2) 4 q2) 5 q2) 6 q2) 7 q2) 8 q2) 9 q2) 10 q2) 11 q2) 12 q2) 13 q2)) (.long (0 : Int64)) := own_Lset (own_up (own_up (own_up (own_up (own_up (own_up (own_up (own_up (own_up (own_up (own_up (own_up (own_up f 0 q2) 1 q2) 2 q2) 3 q2) 4 q2) 5 q2) 6 q2) 7 q2) 8 q2) 9 q2) 10 q2) 11 q2) 12 q2) 13 q2 ▸ Arv.set Ar17 q17 S17 M17 Hh17 G17 rfl W17 13 (own_n16 (by decide : 13 < 16)) (own_Llen (by decide : 13 < 16))
  have K17 : Keep h0 h17 [a1] := K16.wr W17 (Or.inl (List.mem_of_getElem? (i := 0) rfl))
  have N17 := Fr.snoc X17 N16 g_a1
  show own_Go p.tables e below _ (T17.setTop (mkF m 16 #[.val (.ref a1), .val (.long q2), .second, .val (.int (13 : Int32)), .val (.int (16 : Int32))] []))
  refine own_go (fun _ => XS.iinc X17.here hx rfl (hb hby d4_16) rfl (l' := #[.val (.ref a1), .val (.long q2), .second, .val (.int (14 : Int32)), .val (.int (16 : Int32))]) rfl) ?_
  show own_Go p.tables e below _ (T17.setTop (mkF m 19 #[.val (.ref a1), .val (.long q2), .second, .val (.int (14 : Int32)), .val (.int (16 : Int32))] []))
  refine own_go (fun _ => XS.goto X17.here hx rfl (pc0 := 19) (pc' := 6) rfl (hb hby d4_19) (by decide) (by decide)) ?_
  show own_Go p.tables e below _ (T17.setTop (mkF m 6 #[.val (.ref a1), .val (.long q2), .second, .val (.int (14 : Int32)), .val (.int (16 : Int32))] []))
  refine own_go (fun _ => XS.iloadN X17.here hx rfl (hb hby d4_6) rfl) ?_
  show own_Go p.tables e below _ (T17.setTop (mkF m 7 #[.val (.ref a1), .val (.long q2), .second, .val (.int (14 : Int32)), .val (.int (16 : Int32))] [(.int (14 : Int32))]))
  refine own_go (fun _ => XS.iload X17.here hx rfl (hb hby d4_7) rfl) ?_
  show own_Go p.tables e below _ (T17.setTop (mkF m 9 #[.val (.ref a1), .val (.long q2), .second, .val (.int (14 : Int32)), .val (.int (16 : Int32))] [(.int (16 : Int32)), (.int (14 : Int32))]))
  refine own_go (fun _ => XS.icmpNo X17.here hx rfl (hb hby d4_9) rfl (tlt (by decide : (14 : Int32) < (16 : Int32))).2.1) ?_
  show own_Go p.tables e below _ (T17.setTop (mkF m 12 #[.val (.ref a1), .val (.long q2), .second, .val (.int (14 : Int32)), .val (.int (16 : Int32))] []))
  refine own_go (fun _ => XS.aloadN X17.here hx rfl (hb hby d4_12) rfl rfl) ?_
  show own_Go p.tables e below _ (T17.setTop (mkF m 13 #[.val (.ref a1), .val (.long q2), .second, .val (.int (14 : Int32)), .val (.int (16 : Int32))] [(.ref a1)]))
  refine own_go (fun _ => XS.iloadN X17.here hx rfl (hb hby d4_13) rfl) ?_
  show own_Go p.tables e below _ (T17.setTop (mkF m 14 #[.val (.ref a1), .val (.long q2), .second, .val (.int (14 : Int32)), .val (.int (16 : Int32))] [(.int (14 : Int32)), (.ref a1)]))
  refine own_go (fun _ => XS.lloadN X17.here hx rfl (hb hby d4_14) rfl) ?_
  show own_Go p.tables e below _ (T17.setTop (mkF m 15 #[.val (.ref a1), .val (.long q2), .second, .val (.int (14 : Int32)), .val (.int (16 : Int32))] [(.long q2), (.int (14 : Int32)), (.ref a1)]))
  obtain ⟨cl18, Ar18, q18, S18, M18, Hh18, G18⟩ := id V17
  have hin18 : ¬ ((14 : Int32) < 0 ∨ cl18.slots.size ≤ ((14 : Int32)).toNatClampNeg) := inb_of S18 (own_in16 (by decide : 14 < 16))
  obtain ⟨T18, h18, X18, e18, W18, st18⟩ := stJ X17 hx hZ e17 Ar18 (j := (14 : Int32)) hin18 (g := (mkF m 15 #[.val (.ref a1), .val (.long q2), .second, .val (.int (14 : Int32)), .val (.int (16 : Int32))] [(.long q2), (.int (14 : Int32)), (.ref a1)])) rfl rfl (hb hby d4_15)
  refine own_go st18 ?_
  have V18 : Arv Z h18 a1 kc .long (16 : Int32) (own_L (own_up (own_up (own_up (own_up (own_up (own_up (own_up (own_up (own_up (own_up (own_up (own_up (own_up (own_up (own_up f 0 q2) 1 q2) 2 q2) 3 q2) 4 q2) 5 q2) 6 q2) 7 q2) 8 q2) 9 q2) 10 q2) 11 q2) 12 q2) 13 q2) 14 q2)) (.long (0 : Int64)) := own_Lset (own_up (own_up (own_up (own_up (own_up (own_up (own_up (own_up (own_up (own_up (own_up (own_up (own_up (own_up f 0 q2) 1 q2) 2 q2) 3 q2) 4 q2) 5 q2) 6 q2) 7 q2) 8 q2) 9 q2) 10 q2) 11 q2) 12 q2) 13 q2) 14 q2 ▸ Arv.set Ar18 q18 S18 M18 Hh18 G18 rfl W18 14 (own_n16 (by decide : 14 < 16)) (own_Llen (by decide : 14 < 16))
  have K18 : Keep h0 h18 [a1] := K17.wr W18 (Or.inl (List.mem_of_getElem? (i := 0) rfl))
  have N18 := Fr.snoc X18 N17 g_a1
  show own_Go p.tables e below _ (T18.setTop (mkF m 16 #[.val (.ref a1), .val (.long q2), .second, .val (.int (14 : Int32)), .val (.int (16 : Int32))] []))
  refine own_go (fun _ => XS.iinc X18.here hx rfl (hb hby d4_16) rfl (l' := #[.val (.ref a1), .val (.long q2), .second, .val (.int (15 : Int32)), .val (.int (16 : Int32))]) rfl) ?_
  show own_Go p.tables e below _ (T18.setTop (mkF m 19 #[.val (.ref a1), .val (.long q2), .second, .val (.int (15 : Int32)), .val (.int (16 : Int32))] []))
  refine own_go (fun _ => XS.goto X18.here hx rfl (pc0 := 19) (pc' := 6) rfl (hb hby d4_19) (by decide) (by decide)) ?_
  show own_Go p.tables e below _ (T18.setTop (mkF m 6 #[.val (.ref a1), .val (.long q2), .second, .val (.int (15 : Int32)), .val (.int (16 : Int32))] []))
  refine own_go (fun _ => XS.iloadN X18.here hx rfl (hb hby d4_6) rfl) ?_
  show own_Go p.tables e below _ (T18.setTop (mkF m 7 #[.val (.ref a1), .val (.long q2), .second, .val (.int (15 : Int32)), .val (.int (16 : Int32))] [(.int (15 : Int32))]))
  refine own_go (fun _ => XS.iload X18.here hx rfl (hb hby d4_7) rfl) ?_
  show own_Go p.tables e below _ (T18.setTop (mkF m 9 #[.val (.ref a1), .val (.long q2), .second, .val (.int (15 : Int32)), .val (.int (16 : Int32))] [(.int (16 : Int32)), (.int (15 : Int32))]))
  refine own_go (fun _ => XS.icmpNo X18.here hx rfl (hb hby d4_9) rfl (tlt (by decide : (15 : Int32) < (16 : Int32))).2.1) ?_
  show own_Go p.tables e below _ (T18.setTop (mkF m 12 #[.val (.ref a1), .val (.long q2), .second, .val (.int (15 : Int32)), .val (.int (16 : Int32))] []))
  refine own_go (fun _ => XS.aloadN X18.here hx rfl (hb hby d4_12) rfl rfl) ?_
  show own_Go p.tables e below _ (T18.setTop (mkF m 13 #[.val (.ref a1), .val (.long q2), .second, .val (.int (15 : Int32)), .val (.int (16 : Int32))] [(.ref a1)]))
  refine own_go (fun _ => XS.iloadN X18.here hx rfl (hb hby d4_13) rfl) ?_
  show own_Go p.tables e below _ (T18.setTop (mkF m 14 #[.val (.ref a1), .val (.long q2), .second, .val (.int (15 : Int32)), .val (.int (16 : Int32))] [(.int (15 : Int32)), (.ref a1)]))
  refine own_go (fun _ => XS.lloadN X18.here hx rfl (hb hby d4_14) rfl) ?_
  show own_Go p.tables e below _ (T18.setTop (mkF m 15 #[.val (.ref a1), .val (.long q2), .second, .val (.int (15 : Int32)), .val (.int (16 : Int32))] [(.long q2), (.int (15 : Int32)), (.ref a1)]))
  obtain ⟨cl19, Ar19, q19, S19, M19, Hh19, G19⟩ := id V18
  have hin19 : ¬ ((15 : Int32) < 0 ∨ cl19.slots.size ≤ ((15 : Int32)).toNatClampNeg) := inb_of S19 (own_in16 (by decide : 15 < 16))
  obtain ⟨T19, h19, X19, e19, W19, st19⟩ := stJ X18 hx hZ e18 Ar19 (j := (15 : Int32)) hin19 (g := (mkF m 15 #[.val (.ref a1), .val (.long q2), .second, .val (.int (15 : Int32)), .val (.int (16 : Int32))] [(.long q2), (.int (15 : Int32)), (.ref a1)])) rfl rfl (hb hby d4_15)
  refine own_go st19 ?_
  have V19 : Arv Z h19 a1 kc .long (16 : Int32) (own_L (own_up (own_up (own_up (own_up (own_up (own_up (own_up (own_up (own_up (own_up (own_up (own_up (own_up (own_up (own_up (own_up f 0 q2) 1 q2) 2 q2) 3 q2) 4 q2) 5 q2) 6 q2) 7 q2) 8 q2) 9 q2) 10 q2) 11 q2) 12 q2) 13 q2) 14 q2) 15 q2)) (.long (0 : Int64)) := own_Lset (own_up (own_up (own_up (own_up (own_up (own_up (own_up (own_up (own_up (own_up (own_up (own_up (own_up (own_up (own_up f 0 q2) 1 q2) 2 q2) 3 q2) 4 q2) 5 q2) 6 q2) 7 q2) 8 q2) 9 q2) 10 q2) 11 q2) 12 q2) 13 q2) 14 q2) 15 q2 ▸ Arv.set Ar19 q19 S19 M19 Hh19 G19 rfl W19 15 (own_n16 (by decide : 15 < 16)) (own_Llen (by decide : 15 < 16))
  have K19 : Keep h0 h19 [a1] := K18.wr W19 (Or.inl (List.mem_of_getElem? (i := 0) rfl))
  have N19 := Fr.snoc X19 N18 g_a1
  show own_Go p.tables e below _ (T19.setTop (mkF m 16 #[.val (.ref a1), .val (.long q2), .second, .val (.int (15 : Int32)), .val (.int (16 : Int32))] []))
  refine own_go (fun _ => XS.iinc X19.here hx rfl (hb hby d4_16) rfl (l' := #[.val (.ref a1), .val (.long q2), .second, .val (.int (16 : Int32)), .val (.int (16 : Int32))]) rfl) ?_
  show own_Go p.tables e below _ (T19.setTop (mkF m 19 #[.val (.ref a1), .val (.long q2), .second, .val (.int (16 : Int32)), .val (.int (16 : Int32))] []))
  refine own_go (fun _ => XS.goto X19.here hx rfl (pc0 := 19) (pc' := 6) rfl (hb hby d4_19) (by decide) (by decide)) ?_
  show own_Go p.tables e below _ (T19.setTop (mkF m 6 #[.val (.ref a1), .val (.long q2), .second, .val (.int (16 : Int32)), .val (.int (16 : Int32))] []))
  refine own_go (fun _ => XS.iloadN X19.here hx rfl (hb hby d4_6) rfl) ?_
  show own_Go p.tables e below _ (T19.setTop (mkF m 7 #[.val (.ref a1), .val (.long q2), .second, .val (.int (16 : Int32)), .val (.int (16 : Int32))] [(.int (16 : Int32))]))
  refine own_go (fun _ => XS.iload X19.here hx rfl (hb hby d4_7) rfl) ?_
  show own_Go p.tables e below _ (T19.setTop (mkF m 9 #[.val (.ref a1), .val (.long q2), .second, .val (.int (16 : Int32)), .val (.int (16 : Int32))] [(.int (16 : Int32)), (.int (16 : Int32))]))
  refine own_go (fun _ => XS.icmpYes X19.here hx rfl (pc0 := 9) (pc' := 22) rfl (hb hby d4_9) rfl (flt (by decide : ¬ ((16 : Int32) < (16 : Int32)))).2.1 (by decide) (by decide)) ?_
  show own_Go p.tables e below _ (T19.setTop (mkF m 22 #[.val (.ref a1), .val (.long q2), .second, .val (.int (16 : Int32)), .val (.int (16 : Int32))] []))
  have V20 : Arv Z h19 a1 kc .long (16 : Int32) (own_L (fun _ => q2)) (.long (0 : Int64)) := (own_Lfill f q2) ▸ V19
  refine own_ret0 X19 Bd.notSynchronized hx Bd.returns (hb hby d4_22) (show Q4 Z a1 q2 f kc h0 n0 _ T19.heap _ from by rw [e19]; exact ⟨rfl, N19, K19, V20⟩) (by decide) (by decide)
theorem d5_0 : decode jdk_33_method_48_code 0 = .ok (.iload_n 0, 1) := by decide +kernel
theorem d5_1 : decode jdk_33_method_48_code 1 = .ok (.iconst (-1), 1) := by decide +kernel
theorem d5_2 : decode jdk_33_method_48_code 2 = .ok (.ixor, 1) := by decide +kernel
theorem d5_3 : decode jdk_33_method_48_code 3 = .ok (.iload_n 0, 1) := by decide +kernel
theorem d5_4 : decode jdk_33_method_48_code 4 = .ok (.iconst 1, 1) := by decide +kernel
theorem d5_5 : decode jdk_33_method_48_code 5 = .ok (.isub, 1) := by decide +kernel
theorem d5_6 : decode jdk_33_method_48_code 6 = .ok (.iand, 1) := by decide +kernel
theorem d5_7 : decode jdk_33_method_48_code 7 = .ok (.istore_n 0, 1) := by decide +kernel
theorem d5_8 : decode jdk_33_method_48_code 8 = .ok (.iload_n 0, 1) := by decide +kernel
theorem d5_9 : decode jdk_33_method_48_code 9 = .ok (.ifCond .gt 8, 3) := by decide +kernel
theorem d5_17 : decode jdk_33_method_48_code 17 = .ok (.iconst 1, 1) := by decide +kernel
theorem d5_18 : decode jdk_33_method_48_code 18 = .ok (.istore_n 1, 1) := by decide +kernel
theorem d5_19 : decode jdk_33_method_48_code 19 = .ok (.iload_n 0, 1) := by decide +kernel
theorem d5_20 : decode jdk_33_method_48_code 20 = .ok (.ldc_w 264, 3) := by decide +kernel
theorem d5_23 : decode jdk_33_method_48_code 23 = .ok (.if_icmp .le 11, 3) := by decide +kernel
theorem d5_34 : decode jdk_33_method_48_code 34 = .ok (.iload_n 0, 1) := by decide +kernel
theorem d5_35 : decode jdk_33_method_48_code 35 = .ok (.sipush 256, 3) := by decide +kernel
theorem d5_38 : decode jdk_33_method_48_code 38 = .ok (.if_icmp .le 11, 3) := by decide +kernel
theorem d5_49 : decode jdk_33_method_48_code 49 = .ok (.iload_n 0, 1) := by decide +kernel
theorem d5_50 : decode jdk_33_method_48_code 50 = .ok (.bipush 16, 2) := by decide +kernel
theorem d5_52 : decode jdk_33_method_48_code 52 = .ok (.if_icmp .le 10, 3) := by decide +kernel
theorem d5_62 : decode jdk_33_method_48_code 62 = .ok (.iload_n 0, 1) := by decide +kernel
theorem d5_63 : decode jdk_33_method_48_code 63 = .ok (.iconst 4, 1) := by decide +kernel
theorem d5_64 : decode jdk_33_method_48_code 64 = .ok (.if_icmp .le 10, 3) := by decide +kernel
theorem d5_67 : decode jdk_33_method_48_code 67 = .ok (.iinc 1 2, 3) := by decide +kernel
theorem d5_70 : decode jdk_33_method_48_code 70 = .ok (.iload_n 0, 1) := by decide +kernel
theorem d5_71 : decode jdk_33_method_48_code 71 = .ok (.iconst 2, 1) := by decide +kernel
theorem d5_72 : decode jdk_33_method_48_code 72 = .ok (.iushr, 1) := by decide +kernel
theorem d5_73 : decode jdk_33_method_48_code 73 = .ok (.istore_n 0, 1) := by decide +kernel
theorem d5_74 : decode jdk_33_method_48_code 74 = .ok (.iload_n 1, 1) := by decide +kernel
theorem d5_75 : decode jdk_33_method_48_code 75 = .ok (.iload_n 0, 1) := by decide +kernel
theorem d5_76 : decode jdk_33_method_48_code 76 = .ok (.iconst 1, 1) := by decide +kernel
theorem d5_77 : decode jdk_33_method_48_code 77 = .ok (.iushr, 1) := by decide +kernel
theorem d5_78 : decode jdk_33_method_48_code 78 = .ok (.iadd, 1) := by decide +kernel
theorem d5_79 : decode jdk_33_method_48_code 79 = .ok (.ireturn, 1) := by decide +kernel
theorem pn_5 : plainName "java/lang/Integer" = true := by first | (simp [plainName, overriddenIn]; done) | decide +kernel
theorem ef_5 (m : MethodId)  : entryFrame m #[(.int (16 : Int32))] 2 = mkF m 0 #[.val (.int (16 : Int32)), .unset] [] := by first | (simp [entryFrame, mkF, argsToLocals, Value.category]; done) | rfl
def Q5 (Z : State)  (h0 : Heap) (n0 : Nat) (v : Option Value) (h : Heap) (L : List Loc) : Prop := v = some (.int (4 : Int32)) ∧ Fr n0 L ∧ h = h0
set_option maxRecDepth 65536 in
set_option maxHeartbeats 40000000 in
theorem rm5 (l : Launch) (Z : State) (a0 : Array Value) (hw : ∀ d ∈ tables_1, d.before a0 Z = true) (ws : List Jvm.Cond)  (h0 : Heap) (n0 : Nat) (Z0 : n0 ≤ h0.size) :
    MetFree l (⟨"java/lang/Integer", "numberOfTrailingZeros", "(I)I"⟩ : MethodName) (head1 (Jvm.Cond.code (⟨"java/lang/Integer", "numberOfTrailingZeros", "(I)I"⟩ : MethodName) jdk_33_method_48_code 2 (some .int) :: ws) ({ frames := 0, cells := 0, slots := 0, locals := 0 } : Room)) (fun a U => a = #[(.int (16 : Int32))] ∧ Z.Warmed39 U.vm ∧ U.heap = h0) (fun _ _ _ _ _ => True) (fun _ U o U' => ∃ v L, o = .returned v ∧ Q5 Z  h0 n0 v U'.heap L ∧ FrameEnd U o U' L ({ frames := 0, cells := 0, slots := 0, locals := 0 } : Room).cells ({ frames := 0, cells := 0, slots := 0, locals := 0 } : Room).slots) := by
  refine MetFree.of_bodySF (plainFor_of_name pn_5) hisR ?_
  intro p e s m args below meth c s₁ Bd hml0 hP hK
  obtain ⟨rfl, hZ, hh⟩ := hP
  have hx := Bd.exec
  have hby := Bd.bytes
  have hml : c.maxLocals = 2 := hml0
  have hown : s.vm.findClass "java/lang/Integer" = some m.cls := findClass_of_methodNamed Bd.named
  have hnm := (name_of_methodNamed Bd.named Bd.method).1
  have X0 : Stand p l e ({ frames := 0, cells := 0, slots := 0, locals := 0 } : Room) s m #[(.int (16 : Int32))] below meth c s₁ [] 0 0 := Stand.of_body Bd
  have e0 : s₁.heap = h0 := by rw [← hh, Bd.state]; rfl
  have N0 := Fr.nil n0
  show own_Go p.tables e below (own_Fin below s (Q5 Z  h0 n0) ({ frames := 0, cells := 0, slots := 0, locals := 0 } : Room).cells ({ frames := 0, cells := 0, slots := 0, locals := 0 } : Room).slots) (s₁.setTop (entryFrame m #[(.int (16 : Int32))] 2))
  refine own_go (S' := s₁.setTop (mkF m 0 #[.val (.int (16 : Int32)), .unset] [])) (fun t k => castTop (ef_5 m ) k) ?_
  show own_Go p.tables e below _ (s₁.setTop (mkF m 0 #[.val (.int (16 : Int32)), .unset] []))
  refine own_go (fun _ => XS.iloadN X0.here hx rfl (hb hby d5_0) rfl) ?_
  show own_Go p.tables e below _ (s₁.setTop (mkF m 1 #[.val (.int (16 : Int32)), .unset] [(.int (16 : Int32))]))
  refine own_go (fun _ => XS.iconst X0.here hx rfl (hb hby d5_1)) ?_
  show own_Go p.tables e below _ (s₁.setTop (mkF m 2 #[.val (.int (16 : Int32)), .unset] [(.int (-1 : Int32)), (.int (16 : Int32))]))
  refine own_go (fun _ => XS.ixor X0.here hx rfl (hb hby d5_2) rfl) ?_
  show own_Go p.tables e below _ (s₁.setTop (mkF m 3 #[.val (.int (16 : Int32)), .unset] [(.int ((16 : Int32) ^^^ (-1 : Int32)))]))
  rw [show ((16 : Int32) ^^^ (-1 : Int32)) = (-17 : Int32) from by decide]
  show own_Go p.tables e below _ (s₁.setTop (mkF m 3 #[.val (.int (16 : Int32)), .unset] [(.int (-17 : Int32))]))
  refine own_go (fun _ => XS.iloadN X0.here hx rfl (hb hby d5_3) rfl) ?_
  show own_Go p.tables e below _ (s₁.setTop (mkF m 4 #[.val (.int (16 : Int32)), .unset] [(.int (16 : Int32)), (.int (-17 : Int32))]))
  refine own_go (fun _ => XS.iconst X0.here hx rfl (hb hby d5_4)) ?_
  show own_Go p.tables e below _ (s₁.setTop (mkF m 5 #[.val (.int (16 : Int32)), .unset] [(.int (1 : Int32)), (.int (16 : Int32)), (.int (-17 : Int32))]))
  refine own_go (fun _ => XS.isub X0.here hx rfl (hb hby d5_5) rfl) ?_
  show own_Go p.tables e below _ (s₁.setTop (mkF m 6 #[.val (.int (16 : Int32)), .unset] [(.int ((16 : Int32) - (1 : Int32))), (.int (-17 : Int32))]))
  rw [show ((16 : Int32) - (1 : Int32)) = (15 : Int32) from by decide]
  show own_Go p.tables e below _ (s₁.setTop (mkF m 6 #[.val (.int (16 : Int32)), .unset] [(.int (15 : Int32)), (.int (-17 : Int32))]))
  refine own_go (fun _ => XS.iand X0.here hx rfl (hb hby d5_6) rfl) ?_
  show own_Go p.tables e below _ (s₁.setTop (mkF m 7 #[.val (.int (16 : Int32)), .unset] [(.int ((-17 : Int32) &&& (15 : Int32)))]))
  rw [show ((-17 : Int32) &&& (15 : Int32)) = (15 : Int32) from by decide]
  show own_Go p.tables e below _ (s₁.setTop (mkF m 7 #[.val (.int (16 : Int32)), .unset] [(.int (15 : Int32))]))
  refine own_go (fun _ => XS.istoreN X0.here hx rfl (hb hby d5_7) rfl (l' := #[.val (.int (15 : Int32)), .unset]) rfl) ?_
  show own_Go p.tables e below _ (s₁.setTop (mkF m 8 #[.val (.int (15 : Int32)), .unset] []))
  refine own_go (fun _ => XS.iloadN X0.here hx rfl (hb hby d5_8) rfl) ?_
  show own_Go p.tables e below _ (s₁.setTop (mkF m 9 #[.val (.int (15 : Int32)), .unset] [(.int (15 : Int32))]))
  refine own_go (fun _ => XS.ifYes X0.here hx rfl (pc0 := 9) (pc' := 17) rfl (hb hby d5_9) rfl ((if0 _ _).trans (tlt (by decide : (0 : Int32) < (15 : Int32))).2.2.1) (by decide) (by decide)) ?_
  show own_Go p.tables e below _ (s₁.setTop (mkF m 17 #[.val (.int (15 : Int32)), .unset] []))
  refine own_go (fun _ => XS.iconst X0.here hx rfl (hb hby d5_17)) ?_
  show own_Go p.tables e below _ (s₁.setTop (mkF m 18 #[.val (.int (15 : Int32)), .unset] [(.int (1 : Int32))]))
  refine own_go (fun _ => XS.istoreN X0.here hx rfl (hb hby d5_18) rfl (l' := #[.val (.int (15 : Int32)), .val (.int (1 : Int32))]) rfl) ?_
  show own_Go p.tables e below _ (s₁.setTop (mkF m 19 #[.val (.int (15 : Int32)), .val (.int (1 : Int32))] []))
  refine own_go (fun _ => XS.iloadN X0.here hx rfl (hb hby d5_19) rfl) ?_
  show own_Go p.tables e below _ (s₁.setTop (mkF m 20 #[.val (.int (15 : Int32)), .val (.int (1 : Int32))] [(.int (15 : Int32))]))
  refine own_go (X0.ldcwInt hx hown (mvT hZ (hw _ (List.mem_of_getElem? (i := 31) rfl))) (g := (mkF m 20 #[.val (.int (15 : Int32)), .val (.int (1 : Int32))] [(.int (15 : Int32))])) rfl (hb hby d5_20)) ?_
  show own_Go p.tables e below _ (s₁.setTop (mkF m 23 #[.val (.int (15 : Int32)), .val (.int (1 : Int32))] [(.int (65536 : Int32)), (.int (15 : Int32))]))
  refine own_go (fun _ => XS.icmpYes X0.here hx rfl (pc0 := 23) (pc' := 34) rfl (hb hby d5_23) rfl (flt (by decide : ¬ ((65536 : Int32) < (15 : Int32)))).2.2.2 (by decide) (by decide)) ?_
  show own_Go p.tables e below _ (s₁.setTop (mkF m 34 #[.val (.int (15 : Int32)), .val (.int (1 : Int32))] []))
  refine own_go (fun _ => XS.iloadN X0.here hx rfl (hb hby d5_34) rfl) ?_
  show own_Go p.tables e below _ (s₁.setTop (mkF m 35 #[.val (.int (15 : Int32)), .val (.int (1 : Int32))] [(.int (15 : Int32))]))
  refine own_go (fun _ => XS.sipush X0.here hx rfl (hb hby d5_35)) ?_
  show own_Go p.tables e below _ (s₁.setTop (mkF m 38 #[.val (.int (15 : Int32)), .val (.int (1 : Int32))] [(.int (256 : Int32)), (.int (15 : Int32))]))
  refine own_go (fun _ => XS.icmpYes X0.here hx rfl (pc0 := 38) (pc' := 49) rfl (hb hby d5_38) rfl (flt (by decide : ¬ ((256 : Int32) < (15 : Int32)))).2.2.2 (by decide) (by decide)) ?_
  show own_Go p.tables e below _ (s₁.setTop (mkF m 49 #[.val (.int (15 : Int32)), .val (.int (1 : Int32))] []))
  refine own_go (fun _ => XS.iloadN X0.here hx rfl (hb hby d5_49) rfl) ?_
  show own_Go p.tables e below _ (s₁.setTop (mkF m 50 #[.val (.int (15 : Int32)), .val (.int (1 : Int32))] [(.int (15 : Int32))]))
  refine own_go (fun _ => XS.bipush X0.here hx rfl (hb hby d5_50)) ?_
  show own_Go p.tables e below _ (s₁.setTop (mkF m 52 #[.val (.int (15 : Int32)), .val (.int (1 : Int32))] [(.int (16 : Int32)), (.int (15 : Int32))]))
  refine own_go (fun _ => XS.icmpYes X0.here hx rfl (pc0 := 52) (pc' := 62) rfl (hb hby d5_52) rfl (flt (by decide : ¬ ((16 : Int32) < (15 : Int32)))).2.2.2 (by decide) (by decide)) ?_
  show own_Go p.tables e below _ (s₁.setTop (mkF m 62 #[.val (.int (15 : Int32)), .val (.int (1 : Int32))] []))
  refine own_go (fun _ => XS.iloadN X0.here hx rfl (hb hby d5_62) rfl) ?_
  show own_Go p.tables e below _ (s₁.setTop (mkF m 63 #[.val (.int (15 : Int32)), .val (.int (1 : Int32))] [(.int (15 : Int32))]))
  refine own_go (fun _ => XS.iconst X0.here hx rfl (hb hby d5_63)) ?_
  show own_Go p.tables e below _ (s₁.setTop (mkF m 64 #[.val (.int (15 : Int32)), .val (.int (1 : Int32))] [(.int (4 : Int32)), (.int (15 : Int32))]))
  refine own_go (fun _ => XS.icmpNo X0.here hx rfl (hb hby d5_64) rfl (tlt (by decide : (4 : Int32) < (15 : Int32))).2.2.2) ?_
  show own_Go p.tables e below _ (s₁.setTop (mkF m 67 #[.val (.int (15 : Int32)), .val (.int (1 : Int32))] []))
  refine own_go (fun _ => XS.iinc X0.here hx rfl (hb hby d5_67) rfl (l' := #[.val (.int (15 : Int32)), .val (.int (3 : Int32))]) rfl) ?_
  show own_Go p.tables e below _ (s₁.setTop (mkF m 70 #[.val (.int (15 : Int32)), .val (.int (3 : Int32))] []))
  refine own_go (fun _ => XS.iloadN X0.here hx rfl (hb hby d5_70) rfl) ?_
  show own_Go p.tables e below _ (s₁.setTop (mkF m 71 #[.val (.int (15 : Int32)), .val (.int (3 : Int32))] [(.int (15 : Int32))]))
  refine own_go (fun _ => XS.iconst X0.here hx rfl (hb hby d5_71)) ?_
  show own_Go p.tables e below _ (s₁.setTop (mkF m 72 #[.val (.int (15 : Int32)), .val (.int (3 : Int32))] [(.int (2 : Int32)), (.int (15 : Int32))]))
  refine own_go (fun _ => XS.iushr X0.here hx rfl (hb hby d5_72) rfl) ?_
  show own_Go p.tables e below _ (s₁.setTop (mkF m 73 #[.val (.int (15 : Int32)), .val (.int (3 : Int32))] [(.int (((15 : Int32).toUInt32 >>> ((2 : Int32) &&& 31).toUInt32).toInt32))]))
  rw [show (((15 : Int32).toUInt32 >>> ((2 : Int32) &&& 31).toUInt32).toInt32) = (3 : Int32) from by decide]
  show own_Go p.tables e below _ (s₁.setTop (mkF m 73 #[.val (.int (15 : Int32)), .val (.int (3 : Int32))] [(.int (3 : Int32))]))
  refine own_go (fun _ => XS.istoreN X0.here hx rfl (hb hby d5_73) rfl (l' := #[.val (.int (3 : Int32)), .val (.int (3 : Int32))]) rfl) ?_
  show own_Go p.tables e below _ (s₁.setTop (mkF m 74 #[.val (.int (3 : Int32)), .val (.int (3 : Int32))] []))
  refine own_go (fun _ => XS.iloadN X0.here hx rfl (hb hby d5_74) rfl) ?_
  show own_Go p.tables e below _ (s₁.setTop (mkF m 75 #[.val (.int (3 : Int32)), .val (.int (3 : Int32))] [(.int (3 : Int32))]))
  refine own_go (fun _ => XS.iloadN X0.here hx rfl (hb hby d5_75) rfl) ?_
  show own_Go p.tables e below _ (s₁.setTop (mkF m 76 #[.val (.int (3 : Int32)), .val (.int (3 : Int32))] [(.int (3 : Int32)), (.int (3 : Int32))]))
  refine own_go (fun _ => XS.iconst X0.here hx rfl (hb hby d5_76)) ?_
  show own_Go p.tables e below _ (s₁.setTop (mkF m 77 #[.val (.int (3 : Int32)), .val (.int (3 : Int32))] [(.int (1 : Int32)), (.int (3 : Int32)), (.int (3 : Int32))]))
  refine own_go (fun _ => XS.iushr X0.here hx rfl (hb hby d5_77) rfl) ?_
  show own_Go p.tables e below _ (s₁.setTop (mkF m 78 #[.val (.int (3 : Int32)), .val (.int (3 : Int32))] [(.int (((3 : Int32).toUInt32 >>> ((1 : Int32) &&& 31).toUInt32).toInt32)), (.int (3 : Int32))]))
  rw [show (((3 : Int32).toUInt32 >>> ((1 : Int32) &&& 31).toUInt32).toInt32) = (1 : Int32) from by decide]
  show own_Go p.tables e below _ (s₁.setTop (mkF m 78 #[.val (.int (3 : Int32)), .val (.int (3 : Int32))] [(.int (1 : Int32)), (.int (3 : Int32))]))
  refine own_go (fun _ => XS.iadd X0.here hx rfl (hb hby d5_78) rfl) ?_
  show own_Go p.tables e below _ (s₁.setTop (mkF m 79 #[.val (.int (3 : Int32)), .val (.int (3 : Int32))] [(.int ((3 : Int32) + (1 : Int32)))]))
  rw [show ((3 : Int32) + (1 : Int32)) = (4 : Int32) from by decide]
  show own_Go p.tables e below _ (s₁.setTop (mkF m 79 #[.val (.int (3 : Int32)), .val (.int (3 : Int32))] [(.int (4 : Int32))]))
  refine own_retI X0 Bd.notSynchronized hx Bd.returns (hb hby d5_79) (show Q5 Z  h0 n0 _ s₁.heap _ from by rw [e0]; exact ⟨rfl, N0, rfl⟩) (by decide) (by decide)
theorem d3_0 : decode prog_2_method_4_code 0 = .ok (.aload_n 0, 1) := by decide +kernel
theorem d3_1 : decode prog_2_method_4_code 1 = .ok (.iload_n 1, 1) := by decide +kernel
theorem d3_2 : decode prog_2_method_4_code 2 = .ok (.newarray .long, 2) := by decide +kernel
theorem d3_4 : decode prog_2_method_4_code 4 = .ok (.putfield 21, 3) := by decide +kernel
theorem d3_7 : decode prog_2_method_4_code 7 = .ok (.aload_n 0, 1) := by decide +kernel
theorem d3_8 : decode prog_2_method_4_code 8 = .ok (.getfield 21, 3) := by decide +kernel
theorem d3_11 : decode prog_2_method_4_code 11 = .ok (.ldc2_w 36, 3) := by decide +kernel
theorem d3_14 : decode prog_2_method_4_code 14 = .ok (.invokestatic 38, 3) := by decide +kernel
theorem d3_17 : decode prog_2_method_4_code 17 = .ok (.aload_n 0, 1) := by decide +kernel
theorem d3_18 : decode prog_2_method_4_code 18 = .ok (.iload_n 1, 1) := by decide +kernel
theorem d3_19 : decode prog_2_method_4_code 19 = .ok (.newarray .double, 2) := by decide +kernel
theorem d3_21 : decode prog_2_method_4_code 21 = .ok (.putfield 25, 3) := by decide +kernel
theorem d3_24 : decode prog_2_method_4_code 24 = .ok (.aload_n 0, 1) := by decide +kernel
theorem d3_25 : decode prog_2_method_4_code 25 = .ok (.iload_n 1, 1) := by decide +kernel
theorem d3_26 : decode prog_2_method_4_code 26 = .ok (.invokestatic 48, 3) := by decide +kernel
theorem d3_29 : decode prog_2_method_4_code 29 = .ok (.putfield 54, 3) := by decide +kernel
theorem d3_32 : decode prog_2_method_4_code 32 = .ok (.return_, 1) := by decide +kernel
theorem pn_3 : plainName "com/example/outis/outis/clustering/KeptCharges" = true := by first | (simp [plainName, overriddenIn]; done) | decide +kernel
theorem pd_2 : parseMethodDescriptor "([JJ)V" = some ⟨[(.array .long), .long], none⟩ := by decide +kernel
theorem pd_3 : parseMethodDescriptor "(I)I" = some ⟨[.int], some .int⟩ := by decide +kernel
theorem ef_3 (m : MethodId) (a1 : Addr) : entryFrame m #[(.ref a1), (.int (16 : Int32))] 2 = mkF m 0 #[.val (.ref a1), .val (.int (16 : Int32))] [] := by first | (simp [entryFrame, mkF, argsToLocals, Value.category]; done) | rfl
def Q3 (Z : State) (a1 : Addr) (u_most : Value) (u_size : Value) (u_keys_a1 : Value) (u_charges_a1 : Value) (u_bits_a1 : Value) (h0 : Heap) (n0 : Nat) (v : Option Value) (h : Heap) (L : List Loc) : Prop := v = none ∧ Fr n0 L ∧ Keep h0 h [a1] ∧ ∃ (E0 E1 : Addr) (KC0 KC1 : ClassId), n0 ≤ E0 ∧ h0.size ≤ E0 ∧ n0 ≤ E1 ∧ h0.size ≤ E1 ∧ E0 ≠ E1 ∧ Exa Z h a1 "com/example/outis/outis/clustering/KeptCharges" ∧ Fld Z h a1 "com/example/outis/outis/clustering/KeptCharges" "keys" "[J" (.ref E0) ∧ Fld Z h a1 "com/example/outis/outis/clustering/KeptCharges" "charges" "[D" (.ref E1) ∧ Fld Z h a1 "com/example/outis/outis/clustering/KeptCharges" "bits" "I" (.int (4 : Int32)) ∧ Fld Z h a1 "com/example/outis/outis/clustering/KeptCharges" "most" "I" u_most ∧ Fld Z h a1 "com/example/outis/outis/clustering/KeptCharges" "size" "I" u_size ∧ Arv Z h E0 KC0 .long (16 : Int32) (own_L (fun _ => (-1 : Int64))) (.long (0 : Int64)) ∧ Arv Z h E1 KC1 .double (16 : Int32) (own_M (fun _ => 0)) (.double 0)
set_option maxRecDepth 65536 in
set_option maxHeartbeats 40000000 in
theorem rm3 (l : Launch) (Z : State) (a0 : Array Value) (hw : ∀ d ∈ tables_1, d.before a0 Z = true) (ws : List Jvm.Cond) (a1 : Addr) (u_most : Value) (u_size : Value) (u_keys_a1 : Value) (u_charges_a1 : Value) (u_bits_a1 : Value) (h0 : Heap) (n0 : Nat) (Z0 : n0 ≤ h0.size) (E_a1 : Exa Z h0 a1 "com/example/outis/outis/clustering/KeptCharges") (g_a1 : n0 ≤ a1) (F_most_a1 : Fld Z h0 a1 "com/example/outis/outis/clustering/KeptCharges" "most" "I" u_most) (F_size_a1 : Fld Z h0 a1 "com/example/outis/outis/clustering/KeptCharges" "size" "I" u_size) (F_keys_a1 : Fld Z h0 a1 "com/example/outis/outis/clustering/KeptCharges" "keys" "[J" u_keys_a1) (F_charges_a1 : Fld Z h0 a1 "com/example/outis/outis/clustering/KeptCharges" "charges" "[D" u_charges_a1) (F_bits_a1 : Fld Z h0 a1 "com/example/outis/outis/clustering/KeptCharges" "bits" "I" u_bits_a1) :
    MetFree l (⟨"com/example/outis/outis/clustering/KeptCharges", "makePlaces", "(I)V"⟩ : MethodName) (head1 (Jvm.Cond.code (⟨"com/example/outis/outis/clustering/KeptCharges", "makePlaces", "(I)V"⟩ : MethodName) prog_2_method_4_code 2 none :: ws) ({ frames := 1, cells := 2, slots := 32, locals := 16 } : Room)) (fun a U => a = #[(.ref a1), (.int (16 : Int32))] ∧ Z.Warmed39 U.vm ∧ U.heap = h0) (fun _ _ _ _ _ => True) (fun _ U o U' => ∃ v L, o = .returned v ∧ Q3 Z a1 u_most u_size u_keys_a1 u_charges_a1 u_bits_a1 h0 n0 v U'.heap L ∧ FrameEnd U o U' L ({ frames := 1, cells := 2, slots := 32, locals := 16 } : Room).cells ({ frames := 1, cells := 2, slots := 32, locals := 16 } : Room).slots) := by
  refine MetFree.of_bodySF (plainFor_of_name pn_3) hisR ?_
  intro p e s m args below meth c s₁ Bd hml0 hP hK
  obtain ⟨rfl, hZ, hh⟩ := hP
  have hx := Bd.exec
  have hby := Bd.bytes
  have hml : c.maxLocals = 2 := hml0
  have hown : s.vm.findClass "com/example/outis/outis/clustering/KeptCharges" = some m.cls := findClass_of_methodNamed Bd.named
  have hnm := (name_of_methodNamed Bd.named Bd.method).1
  have X0 : Stand p l e ({ frames := 1, cells := 2, slots := 32, locals := 16 } : Room) s m #[(.ref a1), (.int (16 : Int32))] below meth c s₁ [] 0 0 := Stand.of_body Bd
  have e0 : s₁.heap = h0 := by rw [← hh, Bd.state]; rfl
  have N0 := Fr.nil n0
  show own_Go p.tables e below (own_Fin below s (Q3 Z a1 u_most u_size u_keys_a1 u_charges_a1 u_bits_a1 h0 n0) ({ frames := 1, cells := 2, slots := 32, locals := 16 } : Room).cells ({ frames := 1, cells := 2, slots := 32, locals := 16 } : Room).slots) (s₁.setTop (entryFrame m #[(.ref a1), (.int (16 : Int32))] 2))
  refine own_go (S' := s₁.setTop (mkF m 0 #[.val (.ref a1), .val (.int (16 : Int32))] [])) (fun t k => castTop (ef_3 m a1) k) ?_
  show own_Go p.tables e below _ (s₁.setTop (mkF m 0 #[.val (.ref a1), .val (.int (16 : Int32))] []))
  refine own_go (fun _ => XS.aloadN X0.here hx rfl (hb hby d3_0) rfl rfl) ?_
  show own_Go p.tables e below _ (s₁.setTop (mkF m 1 #[.val (.ref a1), .val (.int (16 : Int32))] [(.ref a1)]))
  refine own_go (fun _ => XS.iloadN X0.here hx rfl (hb hby d3_1) rfl) ?_
  show own_Go p.tables e below _ (s₁.setTop (mkF m 2 #[.val (.ref a1), .val (.int (16 : Int32))] [(.int (16 : Int32)), (.ref a1)]))
  obtain ⟨T1, h1, k1, X1, e1, E1, A1, B1, st1⟩ := newPE X0 hx hZ (hw _ (List.mem_of_getElem? (i := 16) rfl)) e0 (g := (mkF m 2 #[.val (.ref a1), .val (.int (16 : Int32))] [(.int (16 : Int32)), (.ref a1)])) rfl (hb hby d3_2) rfl (by decide) (cap := 16) (by decide) (by decide) (by decide) (by decide) (ad := "[J") (by decide)
  obtain ⟨b1, g1⟩ : ∃ z, z = h0.size := ⟨_, rfl⟩
  rw [← g1] at A1 B1 st1
  refine own_go st1 ?_
  have g_b1 : n0 ≤ b1 := Nat.le_trans Z0 (Nat.le_of_eq g1.symm)
  have sz_b1 : h0.size ≤ b1 := (Nat.le_trans (Keep.refl h0 [a1]).1 (Nat.le_of_eq g1.symm))
  have K1 : Keep h0 h1 [a1] := (Keep.refl h0 [a1]).ext E1
  have V1 : Arv Z h1 b1 k1 .long (16 : Int32) (own_L (fun _ => 0)) (.long (0 : Int64)) := (Arv.new A1 (by decide)).pad own_Lpad
  show own_Go p.tables e below _ (T1.setTop (mkF m 4 #[.val (.ref a1), .val (.int (16 : Int32))] [(.ref b1), (.ref a1)]))
  obtain ⟨T2, h2, X2, e2, W2, st2⟩ := putF X1 hx hZ hown (host := "") (Or.inl (hw _ (List.mem_of_getElem? (i := 17) rfl))) Via.refl e1 (F_keys_a1.ext E1) (E_a1.ext E1) (Or.inl (hw _ (List.mem_of_getElem? (i := 18) rfl))) (hw _ (List.mem_of_getElem? (i := 2) rfl)) (ty := (.array .long)) (by decide) rfl rfl (g := (mkF m 4 #[.val (.ref a1), .val (.int (16 : Int32))] [(.ref b1), (.ref a1)])) rfl rfl (hb hby d3_4)
  refine own_go st2 ?_
  have Fw2 := (F_keys_a1.ext E1).same W2
  have K2 : Keep h0 h2 [a1] := K1.wr W2 (Or.inl (List.mem_of_getElem? (i := 0) rfl))
  have N2 := Fr.snoc X2 N0 g_a1
  show own_Go p.tables e below _ (T2.setTop (mkF m 7 #[.val (.ref a1), .val (.int (16 : Int32))] []))
  refine own_go (fun _ => XS.aloadN X2.here hx rfl (hb hby d3_7) rfl rfl) ?_
  show own_Go p.tables e below _ (T2.setTop (mkF m 8 #[.val (.ref a1), .val (.int (16 : Int32))] [(.ref a1)]))
  obtain ⟨T3, X3, e3, st3⟩ := getF X2 hx hZ hown (host := "") (Or.inl (hw _ (List.mem_of_getElem? (i := 17) rfl))) Via.refl e2 Fw2 (g := (mkF m 8 #[.val (.ref a1), .val (.int (16 : Int32))] [(.ref a1)])) rfl rfl (hb hby d3_8)
  refine own_go st3 ?_
  show own_Go p.tables e below _ (T3.setTop (mkF m 11 #[.val (.ref a1), .val (.int (16 : Int32))] [(.ref b1)]))
  refine own_go (X3.ldc2Long hx hown (mvT hZ (hw _ (List.mem_of_getElem? (i := 19) rfl))) (g := (mkF m 11 #[.val (.ref a1), .val (.int (16 : Int32))] [(.ref b1)])) rfl (hb hby d3_11)) ?_
  show own_Go p.tables e below _ (T3.setTop (mkF m 14 #[.val (.ref a1), .val (.int (16 : Int32))] [(.long (-1 : Int64)), (.ref b1)]))
  obtain ⟨v4, T4, L4, X4, hQ4, st4⟩ := own_tidyS X3 (Jvm.LawKit.callS X3 hx (y := (⟨"java/util/Arrays", "fill", "([JJ)V"⟩ : MethodName)) hown (mvT hZ (hw _ (List.mem_of_getElem? (i := 20) rfl))) (mvT hZ (hw _ (List.mem_of_getElem? (i := 21) rfl))) (mvT hZ (hw _ (List.mem_of_getElem? (i := 22) rfl))) (mvT hZ (hw _ (List.mem_of_getElem? (i := 23) rfl))) (by decide) (backOf (W := 0) (rm4 l Z a0 hw [] b1 (-1 : Int64) (fun _ => 0) k1 h2 n0 (Nat.le_trans (Nat.le_trans Z0 E1.1) (Keep.of_wr W2).1) (V1.other W2 (Ne.symm (Nat.ne_of_lt (Nat.lt_of_lt_of_le E_a1.lt (Nat.le_of_eq g1.symm))))) g_b1) hZ (hw _ (List.mem_of_getElem? (i := 23) rfl)) (hw _ (List.mem_of_getElem? (i := 22) rfl)) (by decide) (by decide)) (g := (mkF m 14 #[.val (.ref a1), .val (.int (16 : Int32))] [(.long (-1 : Int64)), (.ref b1)])) rfl (by rw [hml]; rfl) (argsL := [(.ref b1), (.long (-1 : Int64))]) (rest := []) (lenOf pd_2 rfl) rfl (by show 2 * 0 + _ ≤ _; exact Nat.le_of_eq rfl) (hb hby d3_14) (fun _ _ => ⟨rfl, e3, (by decide : 1 + 0 ≤ _), (by decide : 16 + 0 ≤ _)⟩)) (c' := 1) (n' := 16) rfl rfl
  obtain ⟨rfl, N4q, Kc4, F4_0⟩ := hQ4
  have N4 := Fr.app N2 N4q
  refine own_go st4 ?_
  have K4 : Keep h0 T4.heap [a1] := K2.trans Kc4 (allS (Or.inr sz_b1) all0)
  show own_Go p.tables e below _ (T4.setTop (mkF m 17 #[.val (.ref a1), .val (.int (16 : Int32))] []))
  refine own_go (fun _ => XS.aloadN X4.here hx rfl (hb hby d3_17) rfl rfl) ?_
  show own_Go p.tables e below _ (T4.setTop (mkF m 18 #[.val (.ref a1), .val (.int (16 : Int32))] [(.ref a1)]))
  refine own_go (fun _ => XS.iloadN X4.here hx rfl (hb hby d3_18) rfl) ?_
  show own_Go p.tables e below _ (T4.setTop (mkF m 19 #[.val (.ref a1), .val (.int (16 : Int32))] [(.int (16 : Int32)), (.ref a1)]))
  obtain ⟨T5, h5, k5, X5, e5, E5, A5, B5, st5⟩ := newPE X4 hx hZ (hw _ (List.mem_of_getElem? (i := 24) rfl)) rfl (g := (mkF m 19 #[.val (.ref a1), .val (.int (16 : Int32))] [(.int (16 : Int32)), (.ref a1)])) rfl (hb hby d3_19) rfl (by decide) (cap := 16) (by decide) (by decide) (by decide) (by decide) (ad := "[D") (by decide)
  obtain ⟨b5, g5⟩ : ∃ z, z = T4.heap.size := ⟨_, rfl⟩
  rw [← g5] at A5 B5 st5
  refine own_go st5 ?_
  have g_b5 : n0 ≤ b5 := Nat.le_trans (Nat.le_trans (Nat.le_trans (Nat.le_trans Z0 E1.1) (Keep.of_wr W2).1) Kc4.1) (Nat.le_of_eq g5.symm)
  have sz_b5 : h0.size ≤ b5 := (Nat.le_trans K4.1 (Nat.le_of_eq g5.symm))
  have K5 : Keep h0 h5 [a1] := K4.ext E5
  have V5 : Arv Z h5 b5 k5 .double (16 : Int32) (own_M (fun _ => 0)) (.double 0) := (Arv.new A5 (by decide)).pad own_Mpad
  show own_Go p.tables e below _ (T5.setTop (mkF m 21 #[.val (.ref a1), .val (.int (16 : Int32))] [(.ref b5), (.ref a1)]))
  obtain ⟨T6, h6, X6, e6, W6, st6⟩ := putF X5 hx hZ hown (host := "") (Or.inl (hw _ (List.mem_of_getElem? (i := 25) rfl))) Via.refl e5 ((((F_charges_a1.ext E1).other W2 (Or.inr (slot_ne (Or.inl (hw _ (List.mem_of_getElem? (i := 26) rfl))) (Or.inl (hw _ (List.mem_of_getElem? (i := 18) rfl))) (by decide) (t := (.array .double)) (t' := (.array .long)) (by decide) (by decide)))).keep Kc4 (ninS (Nat.ne_of_lt (Nat.lt_of_lt_of_le E_a1.lt (Nat.le_of_eq g1.symm))) nin0)).ext E5) ((((E_a1.ext E1).wr W2).keep Kc4).ext E5) (Or.inl (hw _ (List.mem_of_getElem? (i := 26) rfl))) (hw _ (List.mem_of_getElem? (i := 2) rfl)) (ty := (.array .double)) (by decide) rfl rfl (g := (mkF m 21 #[.val (.ref a1), .val (.int (16 : Int32))] [(.ref b5), (.ref a1)])) rfl rfl (hb hby d3_21)
  refine own_go st6 ?_
  have Fw6 := ((((F_charges_a1.ext E1).other W2 (Or.inr (slot_ne (Or.inl (hw _ (List.mem_of_getElem? (i := 26) rfl))) (Or.inl (hw _ (List.mem_of_getElem? (i := 18) rfl))) (by decide) (t := (.array .double)) (t' := (.array .long)) (by decide) (by decide)))).keep Kc4 (ninS (Nat.ne_of_lt (Nat.lt_of_lt_of_le E_a1.lt (Nat.le_of_eq g1.symm))) nin0)).ext E5).same W6
  have K6 : Keep h0 h6 [a1] := K5.wr W6 (Or.inl (List.mem_of_getElem? (i := 0) rfl))
  have N6 := Fr.snoc X6 N4 g_a1
  show own_Go p.tables e below _ (T6.setTop (mkF m 24 #[.val (.ref a1), .val (.int (16 : Int32))] []))
  refine own_go (fun _ => XS.aloadN X6.here hx rfl (hb hby d3_24) rfl rfl) ?_
  show own_Go p.tables e below _ (T6.setTop (mkF m 25 #[.val (.ref a1), .val (.int (16 : Int32))] [(.ref a1)]))
  refine own_go (fun _ => XS.iloadN X6.here hx rfl (hb hby d3_25) rfl) ?_
  show own_Go p.tables e below _ (T6.setTop (mkF m 26 #[.val (.ref a1), .val (.int (16 : Int32))] [(.int (16 : Int32)), (.ref a1)]))
  obtain ⟨v7, T7, L7, X7, hQ7, st7⟩ := own_tidyS X6 (Jvm.LawKit.callS X6 hx (y := (⟨"java/lang/Integer", "numberOfTrailingZeros", "(I)I"⟩ : MethodName)) hown (mvT hZ (hw _ (List.mem_of_getElem? (i := 27) rfl))) (mvT hZ (hw _ (List.mem_of_getElem? (i := 28) rfl))) (mvT hZ (hw _ (List.mem_of_getElem? (i := 29) rfl))) (mvT hZ (hw _ (List.mem_of_getElem? (i := 30) rfl))) (by decide) (backOf (W := 1) (rm5 l Z a0 hw []  h6 n0 (Nat.le_trans (Nat.le_trans (Nat.le_trans (Nat.le_trans (Nat.le_trans Z0 E1.1) (Keep.of_wr W2).1) Kc4.1) E5.1) (Keep.of_wr W6).1) ) hZ (hw _ (List.mem_of_getElem? (i := 30) rfl)) (hw _ (List.mem_of_getElem? (i := 29) rfl)) (by decide) (by decide)) (g := (mkF m 26 #[.val (.ref a1), .val (.int (16 : Int32))] [(.int (16 : Int32)), (.ref a1)])) rfl (by rw [hml]; rfl) (argsL := [(.int (16 : Int32))]) (rest := [(.ref a1)]) (lenOf pd_3 rfl) rfl (by show 2 * 0 + _ ≤ _; exact Nat.le_of_eq rfl) (hb hby d3_26) (fun _ _ => ⟨rfl, e6, (by decide : 2 + 0 ≤ _), (by decide : 32 + 0 ≤ _)⟩)) (c' := 2) (n' := 32) rfl rfl
  obtain ⟨rfl, N7q, e7⟩ := hQ7
  have N7 := Fr.app N6 N7q
  refine own_go st7 ?_
  show own_Go p.tables e below _ (T7.setTop (mkF m 29 #[.val (.ref a1), .val (.int (16 : Int32))] [(.int (4 : Int32)), (.ref a1)]))
  obtain ⟨T8, h8, X8, e8, W8, st8⟩ := putF X7 hx hZ hown (host := "") (Or.inl (hw _ (List.mem_of_getElem? (i := 32) rfl))) Via.refl e7 (((((F_bits_a1.ext E1).other W2 (Or.inr (slot_ne (Or.inl (hw _ (List.mem_of_getElem? (i := 33) rfl))) (Or.inl (hw _ (List.mem_of_getElem? (i := 18) rfl))) (by decide) (t := .int) (t' := (.array .long)) (by decide) (by decide)))).keep Kc4 (ninS (Nat.ne_of_lt (Nat.lt_of_lt_of_le E_a1.lt (Nat.le_of_eq g1.symm))) nin0)).ext E5).other W6 (Or.inr (slot_ne (Or.inl (hw _ (List.mem_of_getElem? (i := 33) rfl))) (Or.inl (hw _ (List.mem_of_getElem? (i := 26) rfl))) (by decide) (t := .int) (t' := (.array .double)) (by decide) (by decide)))) (((((E_a1.ext E1).wr W2).keep Kc4).ext E5).wr W6) (Or.inl (hw _ (List.mem_of_getElem? (i := 33) rfl))) (hw _ (List.mem_of_getElem? (i := 2) rfl)) (ty := .int) (by decide) rfl rfl (g := (mkF m 29 #[.val (.ref a1), .val (.int (16 : Int32))] [(.int (4 : Int32)), (.ref a1)])) rfl rfl (hb hby d3_29)
  refine own_go st8 ?_
  have Fw8 := (((((F_bits_a1.ext E1).other W2 (Or.inr (slot_ne (Or.inl (hw _ (List.mem_of_getElem? (i := 33) rfl))) (Or.inl (hw _ (List.mem_of_getElem? (i := 18) rfl))) (by decide) (t := .int) (t' := (.array .long)) (by decide) (by decide)))).keep Kc4 (ninS (Nat.ne_of_lt (Nat.lt_of_lt_of_le E_a1.lt (Nat.le_of_eq g1.symm))) nin0)).ext E5).other W6 (Or.inr (slot_ne (Or.inl (hw _ (List.mem_of_getElem? (i := 33) rfl))) (Or.inl (hw _ (List.mem_of_getElem? (i := 26) rfl))) (by decide) (t := .int) (t' := (.array .double)) (by decide) (by decide)))).same W8
  have K8 : Keep h0 h8 [a1] := K6.wr W8 (Or.inl (List.mem_of_getElem? (i := 0) rfl))
  have N8 := Fr.snoc X8 N7 g_a1
  show own_Go p.tables e below _ (T8.setTop (mkF m 32 #[.val (.ref a1), .val (.int (16 : Int32))] []))
  refine own_ret0 X8 Bd.notSynchronized hx Bd.returns (hb hby d3_32) (show Q3 Z a1 u_most u_size u_keys_a1 u_charges_a1 u_bits_a1 h0 n0 _ T8.heap _ from by rw [e8]; exact ⟨rfl, N8, K8, b1, b5, k1, k5, g_b1, sz_b1, g_b5, sz_b5, (Nat.ne_of_lt (Nat.lt_of_lt_of_le F4_0.lt (Nat.le_of_eq g5.symm))), ((((((E_a1.ext E1).wr W2).keep Kc4).ext E5).wr W6).wr W8), ((((Fw2.keep Kc4 (ninS (Nat.ne_of_lt (Nat.lt_of_lt_of_le E_a1.lt (Nat.le_of_eq g1.symm))) nin0)).ext E5).other W6 (Or.inr (slot_ne (Or.inl (hw _ (List.mem_of_getElem? (i := 18) rfl))) (Or.inl (hw _ (List.mem_of_getElem? (i := 26) rfl))) (by decide) (t := (.array .long)) (t' := (.array .double)) (by decide) (by decide)))).other W8 (Or.inr (slot_ne (Or.inl (hw _ (List.mem_of_getElem? (i := 18) rfl))) (Or.inl (hw _ (List.mem_of_getElem? (i := 33) rfl))) (by decide) (t := (.array .long)) (t' := .int) (by decide) (by decide)))), (Fw6.other W8 (Or.inr (slot_ne (Or.inl (hw _ (List.mem_of_getElem? (i := 26) rfl))) (Or.inl (hw _ (List.mem_of_getElem? (i := 33) rfl))) (by decide) (t := (.array .double)) (t' := .int) (by decide) (by decide)))), Fw8, ((((((F_most_a1.ext E1).other W2 (Or.inr (slot_ne (Or.inr (hw _ (List.mem_of_getElem? (i := 11) rfl))) (Or.inl (hw _ (List.mem_of_getElem? (i := 18) rfl))) (by decide) (t := .int) (t' := (.array .long)) (by decide) (by decide)))).keep Kc4 (ninS (Nat.ne_of_lt (Nat.lt_of_lt_of_le E_a1.lt (Nat.le_of_eq g1.symm))) nin0)).ext E5).other W6 (Or.inr (slot_ne (Or.inr (hw _ (List.mem_of_getElem? (i := 11) rfl))) (Or.inl (hw _ (List.mem_of_getElem? (i := 26) rfl))) (by decide) (t := .int) (t' := (.array .double)) (by decide) (by decide)))).other W8 (Or.inr (slot_ne (Or.inr (hw _ (List.mem_of_getElem? (i := 11) rfl))) (Or.inl (hw _ (List.mem_of_getElem? (i := 33) rfl))) (by decide) (t := .int) (t' := .int) (by decide) (by decide)))), ((((((F_size_a1.ext E1).other W2 (Or.inr (slot_ne (Or.inl (hw _ (List.mem_of_getElem? (i := 55) rfl))) (Or.inl (hw _ (List.mem_of_getElem? (i := 18) rfl))) (by decide) (t := .int) (t' := (.array .long)) (by decide) (by decide)))).keep Kc4 (ninS (Nat.ne_of_lt (Nat.lt_of_lt_of_le E_a1.lt (Nat.le_of_eq g1.symm))) nin0)).ext E5).other W6 (Or.inr (slot_ne (Or.inl (hw _ (List.mem_of_getElem? (i := 55) rfl))) (Or.inl (hw _ (List.mem_of_getElem? (i := 26) rfl))) (by decide) (t := .int) (t' := (.array .double)) (by decide) (by decide)))).other W8 (Or.inr (slot_ne (Or.inl (hw _ (List.mem_of_getElem? (i := 55) rfl))) (Or.inl (hw _ (List.mem_of_getElem? (i := 33) rfl))) (by decide) (t := .int) (t' := .int) (by decide) (by decide)))), (((F4_0.ext E5).other W6 (Ne.symm (Nat.ne_of_lt (Nat.lt_of_lt_of_le E_a1.lt (Nat.le_of_eq g1.symm))))).other W8 (Ne.symm (Nat.ne_of_lt (Nat.lt_of_lt_of_le E_a1.lt (Nat.le_of_eq g1.symm))))), ((V5.other W6 (Ne.symm (Nat.ne_of_lt (Nat.lt_of_lt_of_le (((E_a1.ext E1).wr W2).keep Kc4).lt (Nat.le_of_eq g5.symm))))).other W8 (Ne.symm (Nat.ne_of_lt (Nat.lt_of_lt_of_le (((E_a1.ext E1).wr W2).keep Kc4).lt (Nat.le_of_eq g5.symm)))))⟩) (by decide) (by decide)
theorem d1_0 : decode prog_2_method_1_code 0 = .ok (.aload_n 0, 1) := by decide +kernel
theorem d1_1 : decode prog_2_method_1_code 1 = .ok (.invokespecial 1, 3) := by decide +kernel
theorem d1_4 : decode prog_2_method_1_code 4 = .ok (.aload_n 0, 1) := by decide +kernel
theorem d1_5 : decode prog_2_method_1_code 5 = .ok (.iload_n 1, 1) := by decide +kernel
theorem d1_6 : decode prog_2_method_1_code 6 = .ok (.putfield 7, 3) := by decide +kernel
theorem d1_9 : decode prog_2_method_1_code 9 = .ok (.aload_n 0, 1) := by decide +kernel
theorem d1_10 : decode prog_2_method_1_code 10 = .ok (.bipush 16, 2) := by decide +kernel
theorem d1_12 : decode prog_2_method_1_code 12 = .ok (.invokevirtual 13, 3) := by decide +kernel
theorem d1_15 : decode prog_2_method_1_code 15 = .ok (.return_, 1) := by decide +kernel
theorem pn_1 : plainName "com/example/outis/outis/clustering/KeptCharges" = true := by first | (simp [plainName, overriddenIn]; done) | decide +kernel
theorem pd_0 : parseMethodDescriptor "(I)V" = some ⟨[.int], none⟩ := by decide +kernel
theorem ef_1 (m : MethodId) (a1 : Addr) (p2 : Int32) : entryFrame m #[(.ref a1), (.int p2)] 2 = mkF m 0 #[.val (.ref a1), .val (.int p2)] [] := by first | (simp [entryFrame, mkF, argsToLocals, Value.category]; done) | rfl
def Q1 (Z : State) (a1 : Addr) (p2 : Int32) (u_size : Value) (u_most_a1 : Value) (u_keys_a1 : Value) (u_charges_a1 : Value) (u_bits_a1 : Value) (h0 : Heap) (n0 : Nat) (v : Option Value) (h : Heap) (L : List Loc) : Prop := v = none ∧ Fr n0 L ∧ Keep h0 h [a1] ∧ ∃ (E0 E1 : Addr) (KC0 KC1 : ClassId), n0 ≤ E0 ∧ h0.size ≤ E0 ∧ n0 ≤ E1 ∧ h0.size ≤ E1 ∧ E0 ≠ E1 ∧ Exa Z h a1 "com/example/outis/outis/clustering/KeptCharges" ∧ Fld Z h a1 "com/example/outis/outis/clustering/KeptCharges" "most" "I" (.int p2) ∧ Fld Z h a1 "com/example/outis/outis/clustering/KeptCharges" "keys" "[J" (.ref E0) ∧ Fld Z h a1 "com/example/outis/outis/clustering/KeptCharges" "charges" "[D" (.ref E1) ∧ Fld Z h a1 "com/example/outis/outis/clustering/KeptCharges" "bits" "I" (.int (4 : Int32)) ∧ Fld Z h a1 "com/example/outis/outis/clustering/KeptCharges" "size" "I" u_size ∧ Fld Z h a1 "com/example/outis/outis/clustering/KeptCharges" "size" "I" u_size ∧ Arv Z h E0 KC0 .long (16 : Int32) (own_L (fun _ => (-1 : Int64))) (.long (0 : Int64)) ∧ Arv Z h E1 KC1 .double (16 : Int32) (own_M (fun _ => 0)) (.double 0)
set_option maxRecDepth 65536 in
set_option maxHeartbeats 40000000 in
theorem rm1 (l : Launch) (Z : State) (a0 : Array Value) (hw : ∀ d ∈ tables_1, d.before a0 Z = true) (ws : List Jvm.Cond) (a1 : Addr) (p2 : Int32) (u_size : Value) (u_most_a1 : Value) (u_keys_a1 : Value) (u_charges_a1 : Value) (u_bits_a1 : Value) (h0 : Heap) (n0 : Nat) (Z0 : n0 ≤ h0.size) (F_size_a1 : Fld Z h0 a1 "com/example/outis/outis/clustering/KeptCharges" "size" "I" u_size) (E_a1 : Exa Z h0 a1 "com/example/outis/outis/clustering/KeptCharges") (F_most_a1 : Fld Z h0 a1 "com/example/outis/outis/clustering/KeptCharges" "most" "I" u_most_a1) (g_a1 : n0 ≤ a1) (F_keys_a1 : Fld Z h0 a1 "com/example/outis/outis/clustering/KeptCharges" "keys" "[J" u_keys_a1) (F_charges_a1 : Fld Z h0 a1 "com/example/outis/outis/clustering/KeptCharges" "charges" "[D" u_charges_a1) (F_bits_a1 : Fld Z h0 a1 "com/example/outis/outis/clustering/KeptCharges" "bits" "I" u_bits_a1) :
    MetFree l (⟨"com/example/outis/outis/clustering/KeptCharges", "<init>", "(I)V"⟩ : MethodName) (head1 (Jvm.Cond.code (⟨"com/example/outis/outis/clustering/KeptCharges", "<init>", "(I)V"⟩ : MethodName) prog_2_method_1_code 2 none :: ws) ({ frames := 2, cells := 2, slots := 32, locals := 29 } : Room)) (fun a U => a = #[(.ref a1), (.int p2)] ∧ Z.Warmed39 U.vm ∧ U.heap = h0) (fun _ _ _ _ _ => True) (fun _ U o U' => ∃ v L, o = .returned v ∧ Q1 Z a1 p2 u_size u_most_a1 u_keys_a1 u_charges_a1 u_bits_a1 h0 n0 v U'.heap L ∧ FrameEnd U o U' L ({ frames := 2, cells := 2, slots := 32, locals := 29 } : Room).cells ({ frames := 2, cells := 2, slots := 32, locals := 29 } : Room).slots) := by
  refine MetFree.of_bodySF (plainFor_of_name pn_1) hisR ?_
  intro p e s m args below meth c s₁ Bd hml0 hP hK
  obtain ⟨rfl, hZ, hh⟩ := hP
  have hx := Bd.exec
  have hby := Bd.bytes
  have hml : c.maxLocals = 2 := hml0
  have hown : s.vm.findClass "com/example/outis/outis/clustering/KeptCharges" = some m.cls := findClass_of_methodNamed Bd.named
  have hnm := (name_of_methodNamed Bd.named Bd.method).1
  have X0 : Stand p l e ({ frames := 2, cells := 2, slots := 32, locals := 29 } : Room) s m #[(.ref a1), (.int p2)] below meth c s₁ [] 0 0 := Stand.of_body Bd
  have e0 : s₁.heap = h0 := by rw [← hh, Bd.state]; rfl
  have N0 := Fr.nil n0
  show own_Go p.tables e below (own_Fin below s (Q1 Z a1 p2 u_size u_most_a1 u_keys_a1 u_charges_a1 u_bits_a1 h0 n0) ({ frames := 2, cells := 2, slots := 32, locals := 29 } : Room).cells ({ frames := 2, cells := 2, slots := 32, locals := 29 } : Room).slots) (s₁.setTop (entryFrame m #[(.ref a1), (.int p2)] 2))
  refine own_go (S' := s₁.setTop (mkF m 0 #[.val (.ref a1), .val (.int p2)] [])) (fun t k => castTop (ef_1 m a1 p2) k) ?_
  show own_Go p.tables e below _ (s₁.setTop (mkF m 0 #[.val (.ref a1), .val (.int p2)] []))
  refine own_go (fun _ => XS.aloadN X0.here hx rfl (hb hby d1_0) rfl rfl) ?_
  show own_Go p.tables e below _ (s₁.setTop (mkF m 1 #[.val (.ref a1), .val (.int p2)] [(.ref a1)]))
  obtain ⟨T3, X3, e3, st3⟩ := initO X0 hx hZ hown (hw _ (List.mem_of_getElem? (i := 7) rfl)) (hw _ (List.mem_of_getElem? (i := 8) rfl)) (hw _ (List.mem_of_getElem? (i := 9) rfl)) e0 (g := (mkF m 1 #[.val (.ref a1), .val (.int p2)] [(.ref a1)])) rfl (by rw [hml]; rfl) rfl (hb hby d1_1) (by decide) (W := 0) (by show 2 * 0 + _ ≤ _; exact Nat.le_of_eq rfl) (by decide)
  refine own_go st3 ?_
  show own_Go p.tables e below _ (T3.setTop (mkF m 4 #[.val (.ref a1), .val (.int p2)] []))
  refine own_go (fun _ => XS.aloadN X3.here hx rfl (hb hby d1_4) rfl rfl) ?_
  show own_Go p.tables e below _ (T3.setTop (mkF m 5 #[.val (.ref a1), .val (.int p2)] [(.ref a1)]))
  refine own_go (fun _ => XS.iloadN X3.here hx rfl (hb hby d1_5) rfl) ?_
  show own_Go p.tables e below _ (T3.setTop (mkF m 6 #[.val (.ref a1), .val (.int p2)] [(.int p2), (.ref a1)]))
  obtain ⟨T4, h4, X4, e4, W4, st4⟩ := putF X3 hx hZ hown (host := "") (Or.inl (hw _ (List.mem_of_getElem? (i := 10) rfl))) Via.refl e3 F_most_a1 E_a1 (Or.inr ⟨(hw _ (List.mem_of_getElem? (i := 11) rfl)), rfl, hnm⟩) (hw _ (List.mem_of_getElem? (i := 2) rfl)) (ty := .int) (by decide) rfl rfl (g := (mkF m 6 #[.val (.ref a1), .val (.int p2)] [(.int p2), (.ref a1)])) rfl rfl (hb hby d1_6)
  refine own_go st4 ?_
  have Fw4 := F_most_a1.same W4
  have K4 : Keep h0 h4 [a1] := (Keep.refl h0 [a1]).wr W4 (Or.inl (List.mem_of_getElem? (i := 0) rfl))
  have N4 := Fr.snoc X4 N0 g_a1
  show own_Go p.tables e below _ (T4.setTop (mkF m 9 #[.val (.ref a1), .val (.int p2)] []))
  refine own_go (fun _ => XS.aloadN X4.here hx rfl (hb hby d1_9) rfl rfl) ?_
  show own_Go p.tables e below _ (T4.setTop (mkF m 10 #[.val (.ref a1), .val (.int p2)] [(.ref a1)]))
  refine own_go (fun _ => XS.bipush X4.here hx rfl (hb hby d1_10)) ?_
  show own_Go p.tables e below _ (T4.setTop (mkF m 12 #[.val (.ref a1), .val (.int p2)] [(.int (16 : Int32)), (.ref a1)]))
  obtain ⟨cq5, q5, q5'⟩ := (E_a1.wr W4).cell
  obtain ⟨v5, T5, L5, X5, hQ5, st5⟩ := own_tidyV X4 (X4.privateBack hx (y := (⟨"com/example/outis/outis/clustering/KeptCharges", "makePlaces", "(I)V"⟩ : MethodName)) hown (mvT hZ (hw _ (List.mem_of_getElem? (i := 12) rfl))) (mvT hZ (hw _ (List.mem_of_getElem? (i := 13) rfl))) (own_selP (z := (⟨"com/example/outis/outis/clustering/KeptCharges", "get", "(J)D"⟩ : MethodName)) rfl (mvT hZ (hw _ (List.mem_of_getElem? (i := 37) rfl))) (Cond.privateMethod_at (mvP hZ (hw _ (List.mem_of_getElem? (i := 14) rfl)) (args := #[]))) (mvT hZ (hw _ (List.mem_of_getElem? (i := 13) rfl))) (by decide)) (Cond.privateMethod_at (mvP hZ (hw _ (List.mem_of_getElem? (i := 14) rfl)) (args := #[]))) (mvT hZ (hw _ (List.mem_of_getElem? (i := 15) rfl))) (by decide) (backOf (W := 0) (rm3 l Z a0 hw [] a1 (.int p2) u_size u_keys_a1 u_charges_a1 u_bits_a1 h4 n0 (Nat.le_trans Z0 (Keep.of_wr W4).1) (E_a1.wr W4) g_a1 Fw4 (F_size_a1.other W4 (Or.inr (slot_ne (Or.inl (hw _ (List.mem_of_getElem? (i := 55) rfl))) (Or.inr (hw _ (List.mem_of_getElem? (i := 11) rfl))) (by decide) (t := .int) (t' := .int) (by decide) (by decide)))) (F_keys_a1.other W4 (Or.inr (slot_ne (Or.inl (hw _ (List.mem_of_getElem? (i := 18) rfl))) (Or.inr (hw _ (List.mem_of_getElem? (i := 11) rfl))) (by decide) (t := (.array .long)) (t' := .int) (by decide) (by decide)))) (F_charges_a1.other W4 (Or.inr (slot_ne (Or.inl (hw _ (List.mem_of_getElem? (i := 26) rfl))) (Or.inr (hw _ (List.mem_of_getElem? (i := 11) rfl))) (by decide) (t := (.array .double)) (t' := .int) (by decide) (by decide)))) (F_bits_a1.other W4 (Or.inr (slot_ne (Or.inl (hw _ (List.mem_of_getElem? (i := 33) rfl))) (Or.inr (hw _ (List.mem_of_getElem? (i := 11) rfl))) (by decide) (t := .int) (t' := .int) (by decide) (by decide))))) hZ (hw _ (List.mem_of_getElem? (i := 15) rfl)) (hw _ (List.mem_of_getElem? (i := 3) rfl)) (by decide) (by decide)) (g := (mkF m 12 #[.val (.ref a1), .val (.int p2)] [(.int (16 : Int32)), (.ref a1)])) rfl (by rw [hml]; rfl) (Steps.refl _) (a := a1) (by rw [e4]; exact q5) q5' (argsL := [(.int (16 : Int32))]) (rest := []) (lenOf pd_0 rfl) rfl (by show 2 * 0 + _ ≤ _; exact Nat.le_of_eq rfl) (hb hby d1_12) (fun _ _ => ⟨rfl, e4, (by decide : 0 + 2 ≤ _), (by decide : 0 + 32 ≤ _)⟩)) (c' := 2) (n' := 32) rfl rfl
  obtain ⟨rfl, N5q, Kc5, e5_0, e5_1, kc5_0, kc5_1, g_e5_0, se_e5_0, g_e5_1, se_e5_1, ne5_0_1, F5_0, F5_1, F5_2, F5_3, F5_4, F5_5, F5_6, F5_7⟩ := hQ5
  have N5 := Fr.app N4 N5q
  refine own_via st5 ?_
  have K5 : Keep h0 T5.heap [a1] := K4.trans Kc5 (allS (Or.inl (List.mem_of_getElem? (i := 0) rfl)) all0)
  have sz_e5_0 : h0.size ≤ e5_0 := Nat.le_trans K4.1 se_e5_0
  have sz_e5_1 : h0.size ≤ e5_1 := Nat.le_trans K4.1 se_e5_1
  show own_Go p.tables e below _ (T5.setTop (mkF m 15 #[.val (.ref a1), .val (.int p2)] []))
  refine own_ret0 X5 Bd.notSynchronized hx Bd.returns (hb hby d1_15) (show Q1 Z a1 p2 u_size u_most_a1 u_keys_a1 u_charges_a1 u_bits_a1 h0 n0 _ T5.heap _ from ⟨rfl, N5, K5, e5_0, e5_1, kc5_0, kc5_1, g_e5_0, sz_e5_0, g_e5_1, sz_e5_1, ne5_0_1, F5_0, F5_4, F5_1, F5_2, F5_3, F5_5, F5_5, F5_6, F5_7⟩) (by decide) (by decide)
/-- where the search for q begins: the top four bits of q times a constant -/
def own_h (q : Int64) : Nat := ((q * (-7046029254386353131 : Int64)).toInt % 18446744073709551616 / 1152921504606846976).toNat
def own_ix (q : Int64) (d : Nat) : Nat := (own_h q + d) % 16
theorem own_ixlt (q : Int64) (d : Nat) : own_ix q d < 16 := Nat.mod_lt _ (by decide)
theorem own_hlt (q : Int64) : own_h q < 16 := by unfold own_h; omega
theorem own_heq (q : Int64) : ((((q * (-7046029254386353131 : Int64)).toUInt64 >>> ((60 : Int32) &&& 0x3f).toInt64.toUInt64).toInt64).toInt32) = Int32.ofNat (own_ix q 0) := by
  have h := c_lushr (q * (-7046029254386353131 : Int64)) 60 60 (by decide) (by decide)
  have h2 := c_l2i (((q * (-7046029254386353131 : Int64)).toUInt64 >>> ((60 : Int32) &&& 0x3f).toInt64.toUInt64).toInt64)
  have r := rng32 ((((q * (-7046029254386353131 : Int64)).toUInt64 >>> ((60 : Int32) &&& 0x3f).toInt64.toUInt64).toInt64).toInt32)
  have hl := own_hlt q
  have e : ((2 ^ 60 : Nat) : Int) = 1152921504606846976 := by decide
  rw [e] at h
  apply Int32.toInt_inj.mp
  rw [Int32.toInt_ofNat_of_lt (by have := own_ixlt q 0; omega)]
  have e2 : own_ix q 0 = own_h q := by unfold own_ix; omega
  rw [e2]
  unfold own_h at hl ⊢
  omega
theorem own_next16 {i : Nat} (h : i < 16) : ((Int32.ofNat i) + (1 : Int32)) &&& (15 : Int32) = Int32.ofNat ((i + 1) % 16) := by
  have t : ∀ k : Fin 16, ((Int32.ofNat k.val) + (1 : Int32)) &&& (15 : Int32) = Int32.ofNat ((k.val + 1) % 16) := by decide
  exact t ⟨i, h⟩
theorem own_nexti (q : Int64) (d : Nat) : ((Int32.ofNat (own_ix q d)) + (1 : Int32)) &&& (15 : Int32) = Int32.ofNat (own_ix q (d + 1)) := by
  rw [own_next16 (own_ixlt q d)]
  congr 1
  unfold own_ix
  omega
/-- the search ends within four places -/
def own_fin (f : Nat → Int64) (q : Int64) : Prop := (lcmpW (f (own_ix q 0)) (-1 : Int64) = 0 ∨ lcmpW (f (own_ix q 0)) q = 0) ∨ (lcmpW (f (own_ix q 1)) (-1 : Int64) = 0 ∨ lcmpW (f (own_ix q 1)) q = 0) ∨ (lcmpW (f (own_ix q 2)) (-1 : Int64) = 0 ∨ lcmpW (f (own_ix q 2)) q = 0) ∨ (lcmpW (f (own_ix q 3)) (-1 : Int64) = 0 ∨ lcmpW (f (own_ix q 3)) q = 0)
theorem own_last {f : Nat → Int64} {q : Int64} (hs : own_fin f q) (n0 : ¬ lcmpW (f (own_ix q 0)) (-1 : Int64) = 0) (m0 : ¬ lcmpW (f (own_ix q 0)) q = 0) (n1 : ¬ lcmpW (f (own_ix q 1)) (-1 : Int64) = 0) (m1 : ¬ lcmpW (f (own_ix q 1)) q = 0) (n2 : ¬ lcmpW (f (own_ix q 2)) (-1 : Int64) = 0) (m2 : ¬ lcmpW (f (own_ix q 2)) q = 0) (n3 : ¬ lcmpW (f (own_ix q 3)) (-1 : Int64) = 0) : lcmpW (f (own_ix q 3)) q = 0 := by
  rcases hs with (h | h) | (h | h) | (h | h) | (h | h)
  · exact absurd h n0
  · exact absurd h m0
  · exact absurd h n1
  · exact absurd h m1
  · exact absurd h n2
  · exact absurd h m2
  · exact absurd h n3
  · exact h
theorem d7_0 : decode prog_2_method_6_code 0 = .ok (.lload_n 1, 1) := by decide +kernel
theorem d7_1 : decode prog_2_method_6_code 1 = .ok (.ldc2_w 57, 3) := by decide +kernel
theorem d7_4 : decode prog_2_method_6_code 4 = .ok (.lmul, 1) := by decide +kernel
theorem d7_5 : decode prog_2_method_6_code 5 = .ok (.bipush 64, 2) := by decide +kernel
theorem d7_7 : decode prog_2_method_6_code 7 = .ok (.aload_n 0, 1) := by decide +kernel
theorem d7_8 : decode prog_2_method_6_code 8 = .ok (.getfield 54, 3) := by decide +kernel
theorem d7_11 : decode prog_2_method_6_code 11 = .ok (.isub, 1) := by decide +kernel
theorem d7_12 : decode prog_2_method_6_code 12 = .ok (.lushr, 1) := by decide +kernel
theorem d7_13 : decode prog_2_method_6_code 13 = .ok (.l2i, 1) := by decide +kernel
theorem d7_14 : decode prog_2_method_6_code 14 = .ok (.istore_n 3, 1) := by decide +kernel
theorem d7_15 : decode prog_2_method_6_code 15 = .ok (.aload_n 0, 1) := by decide +kernel
theorem d7_16 : decode prog_2_method_6_code 16 = .ok (.getfield 21, 3) := by decide +kernel
theorem d7_19 : decode prog_2_method_6_code 19 = .ok (.iload_n 3, 1) := by decide +kernel
theorem d7_20 : decode prog_2_method_6_code 20 = .ok (.laload, 1) := by decide +kernel
theorem d7_21 : decode prog_2_method_6_code 21 = .ok (.ldc2_w 36, 3) := by decide +kernel
theorem d7_24 : decode prog_2_method_6_code 24 = .ok (.lcmp, 1) := by decide +kernel
theorem d7_25 : decode prog_2_method_6_code 25 = .ok (.ifCond .eq 29, 3) := by decide +kernel
theorem d7_28 : decode prog_2_method_6_code 28 = .ok (.aload_n 0, 1) := by decide +kernel
theorem d7_29 : decode prog_2_method_6_code 29 = .ok (.getfield 21, 3) := by decide +kernel
theorem d7_32 : decode prog_2_method_6_code 32 = .ok (.iload_n 3, 1) := by decide +kernel
theorem d7_33 : decode prog_2_method_6_code 33 = .ok (.laload, 1) := by decide +kernel
theorem d7_34 : decode prog_2_method_6_code 34 = .ok (.lload_n 1, 1) := by decide +kernel
theorem d7_35 : decode prog_2_method_6_code 35 = .ok (.lcmp, 1) := by decide +kernel
theorem d7_36 : decode prog_2_method_6_code 36 = .ok (.ifCond .eq 18, 3) := by decide +kernel
theorem d7_39 : decode prog_2_method_6_code 39 = .ok (.iload_n 3, 1) := by decide +kernel
theorem d7_40 : decode prog_2_method_6_code 40 = .ok (.iconst 1, 1) := by decide +kernel
theorem d7_41 : decode prog_2_method_6_code 41 = .ok (.iadd, 1) := by decide +kernel
theorem d7_42 : decode prog_2_method_6_code 42 = .ok (.aload_n 0, 1) := by decide +kernel
theorem d7_43 : decode prog_2_method_6_code 43 = .ok (.getfield 21, 3) := by decide +kernel
theorem d7_46 : decode prog_2_method_6_code 46 = .ok (.arraylength, 1) := by decide +kernel
theorem d7_47 : decode prog_2_method_6_code 47 = .ok (.iconst 1, 1) := by decide +kernel
theorem d7_48 : decode prog_2_method_6_code 48 = .ok (.isub, 1) := by decide +kernel
theorem d7_49 : decode prog_2_method_6_code 49 = .ok (.iand, 1) := by decide +kernel
theorem d7_50 : decode prog_2_method_6_code 50 = .ok (.istore_n 3, 1) := by decide +kernel
theorem d7_51 : decode prog_2_method_6_code 51 = .ok (.goto (-36), 3) := by decide +kernel
theorem d7_54 : decode prog_2_method_6_code 54 = .ok (.iload_n 3, 1) := by decide +kernel
theorem d7_55 : decode prog_2_method_6_code 55 = .ok (.ireturn, 1) := by decide +kernel
theorem pn_7 : plainName "com/example/outis/outis/clustering/KeptCharges" = true := by first | (simp [plainName, overriddenIn]; done) | decide +kernel
theorem ef_7 (m : MethodId) (a1 : Addr) (q2 : Int64) : entryFrame m #[(.ref a1), (.long q2)] 4 = mkF m 0 #[.val (.ref a1), .val (.long q2), .second, .unset] [] := by first | (simp [entryFrame, mkF, argsToLocals, Value.category]; done) | rfl
def own_f7 (q2 : Int64) (f : Nat → Int64) : Int32 :=
  if (lcmpW (f (own_ix q2 0)) (-1 : Int64)) = (0 : Int32) then (Int32.ofNat (own_ix q2 0))
  else if (lcmpW (f (own_ix q2 0)) q2) = (0 : Int32) then (Int32.ofNat (own_ix q2 0))
  else if (lcmpW (f (own_ix q2 1)) (-1 : Int64)) = (0 : Int32) then (Int32.ofNat (own_ix q2 1))
  else if (lcmpW (f (own_ix q2 1)) q2) = (0 : Int32) then (Int32.ofNat (own_ix q2 1))
  else if (lcmpW (f (own_ix q2 2)) (-1 : Int64)) = (0 : Int32) then (Int32.ofNat (own_ix q2 2))
  else if (lcmpW (f (own_ix q2 2)) q2) = (0 : Int32) then (Int32.ofNat (own_ix q2 2))
  else if (lcmpW (f (own_ix q2 3)) (-1 : Int64)) = (0 : Int32) then (Int32.ofNat (own_ix q2 3))
  else (Int32.ofNat (own_ix q2 3))
def Q7 (Z : State) (a1 : Addr) (q2 : Int64) (K : Addr) (f : Nat → Int64) (kc : ClassId) (h0 : Heap) (n0 : Nat) (v : Option Value) (h : Heap) (L : List Loc) : Prop := v = some (.int (own_f7 q2 f)) ∧ Fr n0 L ∧ h = h0
set_option maxRecDepth 65536 in
set_option maxHeartbeats 40000000 in
theorem rm7 (l : Launch) (Z : State) (a0 : Array Value) (hw : ∀ d ∈ tables_1, d.before a0 Z = true) (ws : List Jvm.Cond) (a1 : Addr) (q2 : Int64) (K : Addr) (f : Nat → Int64) (kc : ClassId) (h0 : Heap) (n0 : Nat) (Z0 : n0 ≤ h0.size) (F_bits_a1 : Fld Z h0 a1 "com/example/outis/outis/clustering/KeptCharges" "bits" "I" (.int (4 : Int32))) (F_keys_a1 : Fld Z h0 a1 "com/example/outis/outis/clustering/KeptCharges" "keys" "[J" (.ref K)) (V_K : Arv Z h0 K kc .long (16 : Int32) (own_L f) (.long (0 : Int64))) (hs : own_fin f q2) :
    MetFree l (⟨"com/example/outis/outis/clustering/KeptCharges", "placeOf", "(J)I"⟩ : MethodName) (head1 (Jvm.Cond.code (⟨"com/example/outis/outis/clustering/KeptCharges", "placeOf", "(J)I"⟩ : MethodName) prog_2_method_6_code 4 (some .int) :: ws) ({ frames := 0, cells := 0, slots := 0, locals := 0 } : Room)) (fun a U => a = #[(.ref a1), (.long q2)] ∧ Z.Warmed39 U.vm ∧ U.heap = h0) (fun _ _ _ _ _ => True) (fun _ U o U' => ∃ v L, o = .returned v ∧ Q7 Z a1 q2 K f kc h0 n0 v U'.heap L ∧ FrameEnd U o U' L ({ frames := 0, cells := 0, slots := 0, locals := 0 } : Room).cells ({ frames := 0, cells := 0, slots := 0, locals := 0 } : Room).slots) := by
  refine MetFree.of_bodySF (plainFor_of_name pn_7) hisR ?_
  intro p e s m args below meth c s₁ Bd hml0 hP hK
  obtain ⟨rfl, hZ, hh⟩ := hP
  have hx := Bd.exec
  have hby := Bd.bytes
  have hml : c.maxLocals = 4 := hml0
  have hown : s.vm.findClass "com/example/outis/outis/clustering/KeptCharges" = some m.cls := findClass_of_methodNamed Bd.named
  have hnm := (name_of_methodNamed Bd.named Bd.method).1
  have X0 : Stand p l e ({ frames := 0, cells := 0, slots := 0, locals := 0 } : Room) s m #[(.ref a1), (.long q2)] below meth c s₁ [] 0 0 := Stand.of_body Bd
  have e0 : s₁.heap = h0 := by rw [← hh, Bd.state]; rfl
  have N0 := Fr.nil n0
  show own_Go p.tables e below (own_Fin below s (Q7 Z a1 q2 K f kc h0 n0) ({ frames := 0, cells := 0, slots := 0, locals := 0 } : Room).cells ({ frames := 0, cells := 0, slots := 0, locals := 0 } : Room).slots) (s₁.setTop (entryFrame m #[(.ref a1), (.long q2)] 4))
  refine own_go (S' := s₁.setTop (mkF m 0 #[.val (.ref a1), .val (.long q2), .second, .unset] [])) (fun t k => castTop (ef_7 m a1 q2) k) ?_
  show own_Go p.tables e below _ (s₁.setTop (mkF m 0 #[.val (.ref a1), .val (.long q2), .second, .unset] []))
  refine own_go (fun _ => XS.lloadN X0.here hx rfl (hb hby d7_0) rfl) ?_
  show own_Go p.tables e below _ (s₁.setTop (mkF m 1 #[.val (.ref a1), .val (.long q2), .second, .unset] [(.long q2)]))
  refine own_go (X0.ldc2Long hx hown (mvT hZ (hw _ (List.mem_of_getElem? (i := 43) rfl))) (g := (mkF m 1 #[.val (.ref a1), .val (.long q2), .second, .unset] [(.long q2)])) rfl (hb hby d7_1)) ?_
  show own_Go p.tables e below _ (s₁.setTop (mkF m 4 #[.val (.ref a1), .val (.long q2), .second, .unset] [(.long (-7046029254386353131 : Int64)), (.long q2)]))
  refine own_go (fun _ => XS.lmul X0.here hx rfl (hb hby d7_4) rfl) ?_
  show own_Go p.tables e below _ (s₁.setTop (mkF m 5 #[.val (.ref a1), .val (.long q2), .second, .unset] [(.long (q2 * (-7046029254386353131 : Int64)))]))
  refine own_go (fun _ => XS.bipush X0.here hx rfl (hb hby d7_5)) ?_
  show own_Go p.tables e below _ (s₁.setTop (mkF m 7 #[.val (.ref a1), .val (.long q2), .second, .unset] [(.int (64 : Int32)), (.long (q2 * (-7046029254386353131 : Int64)))]))
  refine own_go (fun _ => XS.aloadN X0.here hx rfl (hb hby d7_7) rfl rfl) ?_
  show own_Go p.tables e below _ (s₁.setTop (mkF m 8 #[.val (.ref a1), .val (.long q2), .second, .unset] [(.ref a1), (.int (64 : Int32)), (.long (q2 * (-7046029254386353131 : Int64)))]))
  obtain ⟨T3, X3, e3, st3⟩ := getF X0 hx hZ hown (host := "") (Or.inl (hw _ (List.mem_of_getElem? (i := 32) rfl))) Via.refl e0 F_bits_a1 (g := (mkF m 8 #[.val (.ref a1), .val (.long q2), .second, .unset] [(.ref a1), (.int (64 : Int32)), (.long (q2 * (-7046029254386353131 : Int64)))])) rfl rfl (hb hby d7_8)
  refine own_go st3 ?_
  show own_Go p.tables e below _ (T3.setTop (mkF m 11 #[.val (.ref a1), .val (.long q2), .second, .unset] [(.int (4 : Int32)), (.int (64 : Int32)), (.long (q2 * (-7046029254386353131 : Int64)))]))
  refine own_go (fun _ => XS.isub X3.here hx rfl (hb hby d7_11) rfl) ?_
  show own_Go p.tables e below _ (T3.setTop (mkF m 12 #[.val (.ref a1), .val (.long q2), .second, .unset] [(.int ((64 : Int32) - (4 : Int32))), (.long (q2 * (-7046029254386353131 : Int64)))]))
  rw [show ((64 : Int32) - (4 : Int32)) = (60 : Int32) from by decide]
  show own_Go p.tables e below _ (T3.setTop (mkF m 12 #[.val (.ref a1), .val (.long q2), .second, .unset] [(.int (60 : Int32)), (.long (q2 * (-7046029254386353131 : Int64)))]))
  refine own_go (fun _ => XS.lushr X3.here hx rfl (hb hby d7_12) rfl) ?_
  show own_Go p.tables e below _ (T3.setTop (mkF m 13 #[.val (.ref a1), .val (.long q2), .second, .unset] [(.long (((q2 * (-7046029254386353131 : Int64)).toUInt64 >>> ((60 : Int32) &&& 0x3f).toInt64.toUInt64).toInt64))]))
  refine own_go (fun _ => XS.l2i X3.here hx rfl (hb hby d7_13) rfl) ?_
  show own_Go p.tables e below _ (T3.setTop (mkF m 14 #[.val (.ref a1), .val (.long q2), .second, .unset] [(.int ((((q2 * (-7046029254386353131 : Int64)).toUInt64 >>> ((60 : Int32) &&& 0x3f).toInt64.toUInt64).toInt64).toInt32))]))
  show own_Go p.tables e below _ (T3.setTop (mkF m 14 #[.val (.ref a1), .val (.long q2), .second, .unset] [(.int ((((q2 * (-7046029254386353131 : Int64)).toUInt64 >>> ((60 : Int32) &&& 0x3f).toInt64.toUInt64).toInt64).toInt32))]))
  rw [show ((((q2 * (-7046029254386353131 : Int64)).toUInt64 >>> ((60 : Int32) &&& 0x3f).toInt64.toUInt64).toInt64).toInt32) = Int32.ofNat (own_ix q2 0) from own_heq q2]
  show own_Go p.tables e below _ (T3.setTop (mkF m 14 #[.val (.ref a1), .val (.long q2), .second, .unset] [(.int (Int32.ofNat (own_ix q2 0)))]))
  refine own_go (fun _ => XS.istoreN X3.here hx rfl (hb hby d7_14) rfl (l' := #[.val (.ref a1), .val (.long q2), .second, .val (.int (Int32.ofNat (own_ix q2 0)))]) rfl) ?_
  show own_Go p.tables e below _ (T3.setTop (mkF m 15 #[.val (.ref a1), .val (.long q2), .second, .val (.int (Int32.ofNat (own_ix q2 0)))] []))
  refine own_go (fun _ => XS.aloadN X3.here hx rfl (hb hby d7_15) rfl rfl) ?_
  show own_Go p.tables e below _ (T3.setTop (mkF m 16 #[.val (.ref a1), .val (.long q2), .second, .val (.int (Int32.ofNat (own_ix q2 0)))] [(.ref a1)]))
  obtain ⟨T4, X4, e4, st4⟩ := getF X3 hx hZ hown (host := "") (Or.inl (hw _ (List.mem_of_getElem? (i := 17) rfl))) Via.refl e3 F_keys_a1 (g := (mkF m 16 #[.val (.ref a1), .val (.long q2), .second, .val (.int (Int32.ofNat (own_ix q2 0)))] [(.ref a1)])) rfl rfl (hb hby d7_16)
  refine own_go st4 ?_
  show own_Go p.tables e below _ (T4.setTop (mkF m 19 #[.val (.ref a1), .val (.long q2), .second, .val (.int (Int32.ofNat (own_ix q2 0)))] [(.ref K)]))
  refine own_go (fun _ => XS.iloadN X4.here hx rfl (hb hby d7_19) rfl) ?_
  show own_Go p.tables e below _ (T4.setTop (mkF m 20 #[.val (.ref a1), .val (.long q2), .second, .val (.int (Int32.ofNat (own_ix q2 0)))] [(.int (Int32.ofNat (own_ix q2 0))), (.ref K)]))
  obtain ⟨cl5, Ar5, -, S5, -, Hh5, -⟩ := id V_K
  have hin5 : ¬ ((Int32.ofNat (own_ix q2 0)) < 0 ∨ cl5.slots.size ≤ ((Int32.ofNat (own_ix q2 0))).toNatClampNeg) := inb_of S5 (own_in16 (own_ixlt _ _))
  have st5 := X4.laload hx (j := (Int32.ofNat (own_ix q2 0))) (v := (.long (f (own_ix q2 0)))) (by rw [e4]; exact Ar5.1) (State.isArrayOf_alike hZ.alike Ar5.2.1) Ar5.2.2 hin5 (Hh5.at hin5 (own_Lget (own_ixlt _ _))) (g := (mkF m 20 #[.val (.ref a1), .val (.long q2), .second, .val (.int (Int32.ofNat (own_ix q2 0)))] [(.int (Int32.ofNat (own_ix q2 0))), (.ref K)])) rfl rfl (hb hby d7_20)
  refine own_go st5 ?_
  show own_Go p.tables e below _ (T4.setTop (mkF m 21 #[.val (.ref a1), .val (.long q2), .second, .val (.int (Int32.ofNat (own_ix q2 0)))] [(.long (f (own_ix q2 0)))]))
  refine own_go (X4.ldc2Long hx hown (mvT hZ (hw _ (List.mem_of_getElem? (i := 19) rfl))) (g := (mkF m 21 #[.val (.ref a1), .val (.long q2), .second, .val (.int (Int32.ofNat (own_ix q2 0)))] [(.long (f (own_ix q2 0)))])) rfl (hb hby d7_21)) ?_
  show own_Go p.tables e below _ (T4.setTop (mkF m 24 #[.val (.ref a1), .val (.long q2), .second, .val (.int (Int32.ofNat (own_ix q2 0)))] [(.long (-1 : Int64)), (.long (f (own_ix q2 0)))]))
  refine own_go (fun _ => XS.lcmp X4.here hx rfl (hb hby d7_24) rfl) ?_
  show own_Go p.tables e below _ (T4.setTop (mkF m 25 #[.val (.ref a1), .val (.long q2), .second, .val (.int (Int32.ofNat (own_ix q2 0)))] [(.int (lcmpW (f (own_ix q2 0)) (-1 : Int64)))]))
  by_cases hc6_25 : (lcmpW (f (own_ix q2 0)) (-1 : Int64)) = (0 : Int32)
  · skip
    refine own_go (fun _ => XS.ifYes X4.here hx rfl (pc0 := 25) (pc' := 54) rfl (hb hby d7_25) rfl ((if0 _ _).trans (teq hc6_25).1) (by decide) (by decide)) ?_
    show own_Go p.tables e below _ (T4.setTop (mkF m 54 #[.val (.ref a1), .val (.long q2), .second, .val (.int (Int32.ofNat (own_ix q2 0)))] []))
    refine own_go (fun _ => XS.iloadN X4.here hx rfl (hb hby d7_54) rfl) ?_
    show own_Go p.tables e below _ (T4.setTop (mkF m 55 #[.val (.ref a1), .val (.long q2), .second, .val (.int (Int32.ofNat (own_ix q2 0)))] [(.int (Int32.ofNat (own_ix q2 0)))]))
    refine own_retI X4 Bd.notSynchronized hx Bd.returns (hb hby d7_55) (show Q7 Z a1 q2 K f kc h0 n0 _ T4.heap _ from by rw [e4]; exact ⟨(own_val ((if_pos hc6_25).trans rfl)), N0, rfl⟩) (by decide) (by decide)
  · skip
    refine own_go (fun _ => XS.ifNo X4.here hx rfl (hb hby d7_25) rfl ((if0 _ _).trans (feq hc6_25).1)) ?_
    show own_Go p.tables e below _ (T4.setTop (mkF m 28 #[.val (.ref a1), .val (.long q2), .second, .val (.int (Int32.ofNat (own_ix q2 0)))] []))
    refine own_go (fun _ => XS.aloadN X4.here hx rfl (hb hby d7_28) rfl rfl) ?_
    show own_Go p.tables e below _ (T4.setTop (mkF m 29 #[.val (.ref a1), .val (.long q2), .second, .val (.int (Int32.ofNat (own_ix q2 0)))] [(.ref a1)]))
    obtain ⟨T7, X7, e7, st7⟩ := getF X4 hx hZ hown (host := "") (Or.inl (hw _ (List.mem_of_getElem? (i := 17) rfl))) Via.refl e4 F_keys_a1 (g := (mkF m 29 #[.val (.ref a1), .val (.long q2), .second, .val (.int (Int32.ofNat (own_ix q2 0)))] [(.ref a1)])) rfl rfl (hb hby d7_29)
    refine own_go st7 ?_
    show own_Go p.tables e below _ (T7.setTop (mkF m 32 #[.val (.ref a1), .val (.long q2), .second, .val (.int (Int32.ofNat (own_ix q2 0)))] [(.ref K)]))
    refine own_go (fun _ => XS.iloadN X7.here hx rfl (hb hby d7_32) rfl) ?_
    show own_Go p.tables e below _ (T7.setTop (mkF m 33 #[.val (.ref a1), .val (.long q2), .second, .val (.int (Int32.ofNat (own_ix q2 0)))] [(.int (Int32.ofNat (own_ix q2 0))), (.ref K)]))
    obtain ⟨cl8, Ar8, -, S8, -, Hh8, -⟩ := id V_K
    have hin8 : ¬ ((Int32.ofNat (own_ix q2 0)) < 0 ∨ cl8.slots.size ≤ ((Int32.ofNat (own_ix q2 0))).toNatClampNeg) := inb_of S8 (own_in16 (own_ixlt _ _))
    have st8 := X7.laload hx (j := (Int32.ofNat (own_ix q2 0))) (v := (.long (f (own_ix q2 0)))) (by rw [e7]; exact Ar8.1) (State.isArrayOf_alike hZ.alike Ar8.2.1) Ar8.2.2 hin8 (Hh8.at hin8 (own_Lget (own_ixlt _ _))) (g := (mkF m 33 #[.val (.ref a1), .val (.long q2), .second, .val (.int (Int32.ofNat (own_ix q2 0)))] [(.int (Int32.ofNat (own_ix q2 0))), (.ref K)])) rfl rfl (hb hby d7_33)
    refine own_go st8 ?_
    show own_Go p.tables e below _ (T7.setTop (mkF m 34 #[.val (.ref a1), .val (.long q2), .second, .val (.int (Int32.ofNat (own_ix q2 0)))] [(.long (f (own_ix q2 0)))]))
    refine own_go (fun _ => XS.lloadN X7.here hx rfl (hb hby d7_34) rfl) ?_
    show own_Go p.tables e below _ (T7.setTop (mkF m 35 #[.val (.ref a1), .val (.long q2), .second, .val (.int (Int32.ofNat (own_ix q2 0)))] [(.long q2), (.long (f (own_ix q2 0)))]))
    refine own_go (fun _ => XS.lcmp X7.here hx rfl (hb hby d7_35) rfl) ?_
    show own_Go p.tables e below _ (T7.setTop (mkF m 36 #[.val (.ref a1), .val (.long q2), .second, .val (.int (Int32.ofNat (own_ix q2 0)))] [(.int (lcmpW (f (own_ix q2 0)) q2))]))
    by_cases hc9_36 : (lcmpW (f (own_ix q2 0)) q2) = (0 : Int32)
    · skip
      refine own_go (fun _ => XS.ifYes X7.here hx rfl (pc0 := 36) (pc' := 54) rfl (hb hby d7_36) rfl ((if0 _ _).trans (teq hc9_36).1) (by decide) (by decide)) ?_
      show own_Go p.tables e below _ (T7.setTop (mkF m 54 #[.val (.ref a1), .val (.long q2), .second, .val (.int (Int32.ofNat (own_ix q2 0)))] []))
      refine own_go (fun _ => XS.iloadN X7.here hx rfl (hb hby d7_54) rfl) ?_
      show own_Go p.tables e below _ (T7.setTop (mkF m 55 #[.val (.ref a1), .val (.long q2), .second, .val (.int (Int32.ofNat (own_ix q2 0)))] [(.int (Int32.ofNat (own_ix q2 0)))]))
      refine own_retI X7 Bd.notSynchronized hx Bd.returns (hb hby d7_55) (show Q7 Z a1 q2 K f kc h0 n0 _ T7.heap _ from by rw [e7]; exact ⟨(own_val ((if_neg hc6_25).trans ((if_pos hc9_36).trans rfl))), N0, rfl⟩) (by decide) (by decide)
    · skip
      refine own_go (fun _ => XS.ifNo X7.here hx rfl (hb hby d7_36) rfl ((if0 _ _).trans (feq hc9_36).1)) ?_
      show own_Go p.tables e below _ (T7.setTop (mkF m 39 #[.val (.ref a1), .val (.long q2), .second, .val (.int (Int32.ofNat (own_ix q2 0)))] []))
      refine own_go (fun _ => XS.iloadN X7.here hx rfl (hb hby d7_39) rfl) ?_
      show own_Go p.tables e below _ (T7.setTop (mkF m 40 #[.val (.ref a1), .val (.long q2), .second, .val (.int (Int32.ofNat (own_ix q2 0)))] [(.int (Int32.ofNat (own_ix q2 0)))]))
      refine own_go (fun _ => XS.iconst X7.here hx rfl (hb hby d7_40)) ?_
      show own_Go p.tables e below _ (T7.setTop (mkF m 41 #[.val (.ref a1), .val (.long q2), .second, .val (.int (Int32.ofNat (own_ix q2 0)))] [(.int (1 : Int32)), (.int (Int32.ofNat (own_ix q2 0)))]))
      refine own_go (fun _ => XS.iadd X7.here hx rfl (hb hby d7_41) rfl) ?_
      show own_Go p.tables e below _ (T7.setTop (mkF m 42 #[.val (.ref a1), .val (.long q2), .second, .val (.int (Int32.ofNat (own_ix q2 0)))] [(.int ((Int32.ofNat (own_ix q2 0)) + (1 : Int32)))]))
      refine own_go (fun _ => XS.aloadN X7.here hx rfl (hb hby d7_42) rfl rfl) ?_
      show own_Go p.tables e below _ (T7.setTop (mkF m 43 #[.val (.ref a1), .val (.long q2), .second, .val (.int (Int32.ofNat (own_ix q2 0)))] [(.ref a1), (.int ((Int32.ofNat (own_ix q2 0)) + (1 : Int32)))]))
      obtain ⟨T10, X10, e10, st10⟩ := getF X7 hx hZ hown (host := "") (Or.inl (hw _ (List.mem_of_getElem? (i := 17) rfl))) Via.refl e7 F_keys_a1 (g := (mkF m 43 #[.val (.ref a1), .val (.long q2), .second, .val (.int (Int32.ofNat (own_ix q2 0)))] [(.ref a1), (.int ((Int32.ofNat (own_ix q2 0)) + (1 : Int32)))])) rfl rfl (hb hby d7_43)
      refine own_go st10 ?_
      show own_Go p.tables e below _ (T10.setTop (mkF m 46 #[.val (.ref a1), .val (.long q2), .second, .val (.int (Int32.ofNat (own_ix q2 0)))] [(.ref K), (.int ((Int32.ofNat (own_ix q2 0)) + (1 : Int32)))]))
      obtain ⟨cl11, Ar11, -, S11, M11, -, -⟩ := id V_K
      have st11 := X10.arraylength hx (cell := cl11) (by rw [e10]; exact Ar11.1) (State.isArrayOf_alike hZ.alike Ar11.2.1) (g := (mkF m 46 #[.val (.ref a1), .val (.long q2), .second, .val (.int (Int32.ofNat (own_ix q2 0)))] [(.ref K), (.int ((Int32.ofNat (own_ix q2 0)) + (1 : Int32)))])) rfl (rest := [(.int ((Int32.ofNat (own_ix q2 0)) + (1 : Int32)))]) rfl (hb hby d7_46)
      rw [len_of S11 M11] at st11
      refine own_go st11 ?_
      show own_Go p.tables e below _ (T10.setTop (mkF m 47 #[.val (.ref a1), .val (.long q2), .second, .val (.int (Int32.ofNat (own_ix q2 0)))] [(.int (16 : Int32)), (.int ((Int32.ofNat (own_ix q2 0)) + (1 : Int32)))]))
      refine own_go (fun _ => XS.iconst X10.here hx rfl (hb hby d7_47)) ?_
      show own_Go p.tables e below _ (T10.setTop (mkF m 48 #[.val (.ref a1), .val (.long q2), .second, .val (.int (Int32.ofNat (own_ix q2 0)))] [(.int (1 : Int32)), (.int (16 : Int32)), (.int ((Int32.ofNat (own_ix q2 0)) + (1 : Int32)))]))
      refine own_go (fun _ => XS.isub X10.here hx rfl (hb hby d7_48) rfl) ?_
      show own_Go p.tables e below _ (T10.setTop (mkF m 49 #[.val (.ref a1), .val (.long q2), .second, .val (.int (Int32.ofNat (own_ix q2 0)))] [(.int ((16 : Int32) - (1 : Int32))), (.int ((Int32.ofNat (own_ix q2 0)) + (1 : Int32)))]))
      rw [show ((16 : Int32) - (1 : Int32)) = (15 : Int32) from by decide]
      show own_Go p.tables e below _ (T10.setTop (mkF m 49 #[.val (.ref a1), .val (.long q2), .second, .val (.int (Int32.ofNat (own_ix q2 0)))] [(.int (15 : Int32)), (.int ((Int32.ofNat (own_ix q2 0)) + (1 : Int32)))]))
      refine own_go (fun _ => XS.iand X10.here hx rfl (hb hby d7_49) rfl) ?_
      show own_Go p.tables e below _ (T10.setTop (mkF m 50 #[.val (.ref a1), .val (.long q2), .second, .val (.int (Int32.ofNat (own_ix q2 0)))] [(.int (((Int32.ofNat (own_ix q2 0)) + (1 : Int32)) &&& (15 : Int32)))]))
      show own_Go p.tables e below _ (T10.setTop (mkF m 50 #[.val (.ref a1), .val (.long q2), .second, .val (.int (Int32.ofNat (own_ix q2 0)))] [(.int (((Int32.ofNat (own_ix q2 0)) + (1 : Int32)) &&& (15 : Int32)))]))
      rw [show (((Int32.ofNat (own_ix q2 0)) + (1 : Int32)) &&& (15 : Int32)) = Int32.ofNat (own_ix q2 1) from own_nexti q2 0]
      show own_Go p.tables e below _ (T10.setTop (mkF m 50 #[.val (.ref a1), .val (.long q2), .second, .val (.int (Int32.ofNat (own_ix q2 0)))] [(.int (Int32.ofNat (own_ix q2 1)))]))
      refine own_go (fun _ => XS.istoreN X10.here hx rfl (hb hby d7_50) rfl (l' := #[.val (.ref a1), .val (.long q2), .second, .val (.int (Int32.ofNat (own_ix q2 1)))]) rfl) ?_
      show own_Go p.tables e below _ (T10.setTop (mkF m 51 #[.val (.ref a1), .val (.long q2), .second, .val (.int (Int32.ofNat (own_ix q2 1)))] []))
      refine own_go (fun _ => XS.goto X10.here hx rfl (pc0 := 51) (pc' := 15) rfl (hb hby d7_51) (by decide) (by decide)) ?_
      show own_Go p.tables e below _ (T10.setTop (mkF m 15 #[.val (.ref a1), .val (.long q2), .second, .val (.int (Int32.ofNat (own_ix q2 1)))] []))
      refine own_go (fun _ => XS.aloadN X10.here hx rfl (hb hby d7_15) rfl rfl) ?_
      show own_Go p.tables e below _ (T10.setTop (mkF m 16 #[.val (.ref a1), .val (.long q2), .second, .val (.int (Int32.ofNat (own_ix q2 1)))] [(.ref a1)]))
      obtain ⟨T12, X12, e12, st12⟩ := getF X10 hx hZ hown (host := "") (Or.inl (hw _ (List.mem_of_getElem? (i := 17) rfl))) Via.refl e10 F_keys_a1 (g := (mkF m 16 #[.val (.ref a1), .val (.long q2), .second, .val (.int (Int32.ofNat (own_ix q2 1)))] [(.ref a1)])) rfl rfl (hb hby d7_16)
      refine own_go st12 ?_
      show own_Go p.tables e below _ (T12.setTop (mkF m 19 #[.val (.ref a1), .val (.long q2), .second, .val (.int (Int32.ofNat (own_ix q2 1)))] [(.ref K)]))
      refine own_go (fun _ => XS.iloadN X12.here hx rfl (hb hby d7_19) rfl) ?_
      show own_Go p.tables e below _ (T12.setTop (mkF m 20 #[.val (.ref a1), .val (.long q2), .second, .val (.int (Int32.ofNat (own_ix q2 1)))] [(.int (Int32.ofNat (own_ix q2 1))), (.ref K)]))
      obtain ⟨cl13, Ar13, -, S13, -, Hh13, -⟩ := id V_K
      have hin13 : ¬ ((Int32.ofNat (own_ix q2 1)) < 0 ∨ cl13.slots.size ≤ ((Int32.ofNat (own_ix q2 1))).toNatClampNeg) := inb_of S13 (own_in16 (own_ixlt _ _))
      have st13 := X12.laload hx (j := (Int32.ofNat (own_ix q2 1))) (v := (.long (f (own_ix q2 1)))) (by rw [e12]; exact Ar13.1) (State.isArrayOf_alike hZ.alike Ar13.2.1) Ar13.2.2 hin13 (Hh13.at hin13 (own_Lget (own_ixlt _ _))) (g := (mkF m 20 #[.val (.ref a1), .val (.long q2), .second, .val (.int (Int32.ofNat (own_ix q2 1)))] [(.int (Int32.ofNat (own_ix q2 1))), (.ref K)])) rfl rfl (hb hby d7_20)
      refine own_go st13 ?_
      show own_Go p.tables e below _ (T12.setTop (mkF m 21 #[.val (.ref a1), .val (.long q2), .second, .val (.int (Int32.ofNat (own_ix q2 1)))] [(.long (f (own_ix q2 1)))]))
      refine own_go (X12.ldc2Long hx hown (mvT hZ (hw _ (List.mem_of_getElem? (i := 19) rfl))) (g := (mkF m 21 #[.val (.ref a1), .val (.long q2), .second, .val (.int (Int32.ofNat (own_ix q2 1)))] [(.long (f (own_ix q2 1)))])) rfl (hb hby d7_21)) ?_
      show own_Go p.tables e below _ (T12.setTop (mkF m 24 #[.val (.ref a1), .val (.long q2), .second, .val (.int (Int32.ofNat (own_ix q2 1)))] [(.long (-1 : Int64)), (.long (f (own_ix q2 1)))]))
      refine own_go (fun _ => XS.lcmp X12.here hx rfl (hb hby d7_24) rfl) ?_
      show own_Go p.tables e below _ (T12.setTop (mkF m 25 #[.val (.ref a1), .val (.long q2), .second, .val (.int (Int32.ofNat (own_ix q2 1)))] [(.int (lcmpW (f (own_ix q2 1)) (-1 : Int64)))]))
      by_cases hc14_25 : (lcmpW (f (own_ix q2 1)) (-1 : Int64)) = (0 : Int32)
      · skip
        refine own_go (fun _ => XS.ifYes X12.here hx rfl (pc0 := 25) (pc' := 54) rfl (hb hby d7_25) rfl ((if0 _ _).trans (teq hc14_25).1) (by decide) (by decide)) ?_
        show own_Go p.tables e below _ (T12.setTop (mkF m 54 #[.val (.ref a1), .val (.long q2), .second, .val (.int (Int32.ofNat (own_ix q2 1)))] []))
        refine own_go (fun _ => XS.iloadN X12.here hx rfl (hb hby d7_54) rfl) ?_
        show own_Go p.tables e below _ (T12.setTop (mkF m 55 #[.val (.ref a1), .val (.long q2), .second, .val (.int (Int32.ofNat (own_ix q2 1)))] [(.int (Int32.ofNat (own_ix q2 1)))]))
        refine own_retI X12 Bd.notSynchronized hx Bd.returns (hb hby d7_55) (show Q7 Z a1 q2 K f kc h0 n0 _ T12.heap _ from by rw [e12]; exact ⟨(own_val ((if_neg hc6_25).trans ((if_neg hc9_36).trans ((if_pos hc14_25).trans rfl)))), N0, rfl⟩) (by decide) (by decide)
      · skip
        refine own_go (fun _ => XS.ifNo X12.here hx rfl (hb hby d7_25) rfl ((if0 _ _).trans (feq hc14_25).1)) ?_
        show own_Go p.tables e below _ (T12.setTop (mkF m 28 #[.val (.ref a1), .val (.long q2), .second, .val (.int (Int32.ofNat (own_ix q2 1)))] []))
        refine own_go (fun _ => XS.aloadN X12.here hx rfl (hb hby d7_28) rfl rfl) ?_
        show own_Go p.tables e below _ (T12.setTop (mkF m 29 #[.val (.ref a1), .val (.long q2), .second, .val (.int (Int32.ofNat (own_ix q2 1)))] [(.ref a1)]))
        obtain ⟨T15, X15, e15, st15⟩ := getF X12 hx hZ hown (host := "") (Or.inl (hw _ (List.mem_of_getElem? (i := 17) rfl))) Via.refl e12 F_keys_a1 (g := (mkF m 29 #[.val (.ref a1), .val (.long q2), .second, .val (.int (Int32.ofNat (own_ix q2 1)))] [(.ref a1)])) rfl rfl (hb hby d7_29)
        refine own_go st15 ?_
        show own_Go p.tables e below _ (T15.setTop (mkF m 32 #[.val (.ref a1), .val (.long q2), .second, .val (.int (Int32.ofNat (own_ix q2 1)))] [(.ref K)]))
        refine own_go (fun _ => XS.iloadN X15.here hx rfl (hb hby d7_32) rfl) ?_
        show own_Go p.tables e below _ (T15.setTop (mkF m 33 #[.val (.ref a1), .val (.long q2), .second, .val (.int (Int32.ofNat (own_ix q2 1)))] [(.int (Int32.ofNat (own_ix q2 1))), (.ref K)]))
        obtain ⟨cl16, Ar16, -, S16, -, Hh16, -⟩ := id V_K
        have hin16 : ¬ ((Int32.ofNat (own_ix q2 1)) < 0 ∨ cl16.slots.size ≤ ((Int32.ofNat (own_ix q2 1))).toNatClampNeg) := inb_of S16 (own_in16 (own_ixlt _ _))
        have st16 := X15.laload hx (j := (Int32.ofNat (own_ix q2 1))) (v := (.long (f (own_ix q2 1)))) (by rw [e15]; exact Ar16.1) (State.isArrayOf_alike hZ.alike Ar16.2.1) Ar16.2.2 hin16 (Hh16.at hin16 (own_Lget (own_ixlt _ _))) (g := (mkF m 33 #[.val (.ref a1), .val (.long q2), .second, .val (.int (Int32.ofNat (own_ix q2 1)))] [(.int (Int32.ofNat (own_ix q2 1))), (.ref K)])) rfl rfl (hb hby d7_33)
        refine own_go st16 ?_
        show own_Go p.tables e below _ (T15.setTop (mkF m 34 #[.val (.ref a1), .val (.long q2), .second, .val (.int (Int32.ofNat (own_ix q2 1)))] [(.long (f (own_ix q2 1)))]))
        refine own_go (fun _ => XS.lloadN X15.here hx rfl (hb hby d7_34) rfl) ?_
        show own_Go p.tables e below _ (T15.setTop (mkF m 35 #[.val (.ref a1), .val (.long q2), .second, .val (.int (Int32.ofNat (own_ix q2 1)))] [(.long q2), (.long (f (own_ix q2 1)))]))
        refine own_go (fun _ => XS.lcmp X15.here hx rfl (hb hby d7_35) rfl) ?_
        show own_Go p.tables e below _ (T15.setTop (mkF m 36 #[.val (.ref a1), .val (.long q2), .second, .val (.int (Int32.ofNat (own_ix q2 1)))] [(.int (lcmpW (f (own_ix q2 1)) q2))]))
        by_cases hc17_36 : (lcmpW (f (own_ix q2 1)) q2) = (0 : Int32)
        · skip
          refine own_go (fun _ => XS.ifYes X15.here hx rfl (pc0 := 36) (pc' := 54) rfl (hb hby d7_36) rfl ((if0 _ _).trans (teq hc17_36).1) (by decide) (by decide)) ?_
          show own_Go p.tables e below _ (T15.setTop (mkF m 54 #[.val (.ref a1), .val (.long q2), .second, .val (.int (Int32.ofNat (own_ix q2 1)))] []))
          refine own_go (fun _ => XS.iloadN X15.here hx rfl (hb hby d7_54) rfl) ?_
          show own_Go p.tables e below _ (T15.setTop (mkF m 55 #[.val (.ref a1), .val (.long q2), .second, .val (.int (Int32.ofNat (own_ix q2 1)))] [(.int (Int32.ofNat (own_ix q2 1)))]))
          refine own_retI X15 Bd.notSynchronized hx Bd.returns (hb hby d7_55) (show Q7 Z a1 q2 K f kc h0 n0 _ T15.heap _ from by rw [e15]; exact ⟨(own_val ((if_neg hc6_25).trans ((if_neg hc9_36).trans ((if_neg hc14_25).trans ((if_pos hc17_36).trans rfl))))), N0, rfl⟩) (by decide) (by decide)
        · skip
          refine own_go (fun _ => XS.ifNo X15.here hx rfl (hb hby d7_36) rfl ((if0 _ _).trans (feq hc17_36).1)) ?_
          show own_Go p.tables e below _ (T15.setTop (mkF m 39 #[.val (.ref a1), .val (.long q2), .second, .val (.int (Int32.ofNat (own_ix q2 1)))] []))
          refine own_go (fun _ => XS.iloadN X15.here hx rfl (hb hby d7_39) rfl) ?_
          show own_Go p.tables e below _ (T15.setTop (mkF m 40 #[.val (.ref a1), .val (.long q2), .second, .val (.int (Int32.ofNat (own_ix q2 1)))] [(.int (Int32.ofNat (own_ix q2 1)))]))
          refine own_go (fun _ => XS.iconst X15.here hx rfl (hb hby d7_40)) ?_
          show own_Go p.tables e below _ (T15.setTop (mkF m 41 #[.val (.ref a1), .val (.long q2), .second, .val (.int (Int32.ofNat (own_ix q2 1)))] [(.int (1 : Int32)), (.int (Int32.ofNat (own_ix q2 1)))]))
          refine own_go (fun _ => XS.iadd X15.here hx rfl (hb hby d7_41) rfl) ?_
          show own_Go p.tables e below _ (T15.setTop (mkF m 42 #[.val (.ref a1), .val (.long q2), .second, .val (.int (Int32.ofNat (own_ix q2 1)))] [(.int ((Int32.ofNat (own_ix q2 1)) + (1 : Int32)))]))
          refine own_go (fun _ => XS.aloadN X15.here hx rfl (hb hby d7_42) rfl rfl) ?_
          show own_Go p.tables e below _ (T15.setTop (mkF m 43 #[.val (.ref a1), .val (.long q2), .second, .val (.int (Int32.ofNat (own_ix q2 1)))] [(.ref a1), (.int ((Int32.ofNat (own_ix q2 1)) + (1 : Int32)))]))
          obtain ⟨T18, X18, e18, st18⟩ := getF X15 hx hZ hown (host := "") (Or.inl (hw _ (List.mem_of_getElem? (i := 17) rfl))) Via.refl e15 F_keys_a1 (g := (mkF m 43 #[.val (.ref a1), .val (.long q2), .second, .val (.int (Int32.ofNat (own_ix q2 1)))] [(.ref a1), (.int ((Int32.ofNat (own_ix q2 1)) + (1 : Int32)))])) rfl rfl (hb hby d7_43)
          refine own_go st18 ?_
          show own_Go p.tables e below _ (T18.setTop (mkF m 46 #[.val (.ref a1), .val (.long q2), .second, .val (.int (Int32.ofNat (own_ix q2 1)))] [(.ref K), (.int ((Int32.ofNat (own_ix q2 1)) + (1 : Int32)))]))
          obtain ⟨cl19, Ar19, -, S19, M19, -, -⟩ := id V_K
          have st19 := X18.arraylength hx (cell := cl19) (by rw [e18]; exact Ar19.1) (State.isArrayOf_alike hZ.alike Ar19.2.1) (g := (mkF m 46 #[.val (.ref a1), .val (.long q2), .second, .val (.int (Int32.ofNat (own_ix q2 1)))] [(.ref K), (.int ((Int32.ofNat (own_ix q2 1)) + (1 : Int32)))])) rfl (rest := [(.int ((Int32.ofNat (own_ix q2 1)) + (1 : Int32)))]) rfl (hb hby d7_46)
          rw [len_of S19 M19] at st19
          refine own_go st19 ?_
          show own_Go p.tables e below _ (T18.setTop (mkF m 47 #[.val (.ref a1), .val (.long q2), .second, .val (.int (Int32.ofNat (own_ix q2 1)))] [(.int (16 : Int32)), (.int ((Int32.ofNat (own_ix q2 1)) + (1 : Int32)))]))
          refine own_go (fun _ => XS.iconst X18.here hx rfl (hb hby d7_47)) ?_
          show own_Go p.tables e below _ (T18.setTop (mkF m 48 #[.val (.ref a1), .val (.long q2), .second, .val (.int (Int32.ofNat (own_ix q2 1)))] [(.int (1 : Int32)), (.int (16 : Int32)), (.int ((Int32.ofNat (own_ix q2 1)) + (1 : Int32)))]))
          refine own_go (fun _ => XS.isub X18.here hx rfl (hb hby d7_48) rfl) ?_
          show own_Go p.tables e below _ (T18.setTop (mkF m 49 #[.val (.ref a1), .val (.long q2), .second, .val (.int (Int32.ofNat (own_ix q2 1)))] [(.int ((16 : Int32) - (1 : Int32))), (.int ((Int32.ofNat (own_ix q2 1)) + (1 : Int32)))]))
          rw [show ((16 : Int32) - (1 : Int32)) = (15 : Int32) from by decide]
          show own_Go p.tables e below _ (T18.setTop (mkF m 49 #[.val (.ref a1), .val (.long q2), .second, .val (.int (Int32.ofNat (own_ix q2 1)))] [(.int (15 : Int32)), (.int ((Int32.ofNat (own_ix q2 1)) + (1 : Int32)))]))
          refine own_go (fun _ => XS.iand X18.here hx rfl (hb hby d7_49) rfl) ?_
          show own_Go p.tables e below _ (T18.setTop (mkF m 50 #[.val (.ref a1), .val (.long q2), .second, .val (.int (Int32.ofNat (own_ix q2 1)))] [(.int (((Int32.ofNat (own_ix q2 1)) + (1 : Int32)) &&& (15 : Int32)))]))
          show own_Go p.tables e below _ (T18.setTop (mkF m 50 #[.val (.ref a1), .val (.long q2), .second, .val (.int (Int32.ofNat (own_ix q2 1)))] [(.int (((Int32.ofNat (own_ix q2 1)) + (1 : Int32)) &&& (15 : Int32)))]))
          rw [show (((Int32.ofNat (own_ix q2 1)) + (1 : Int32)) &&& (15 : Int32)) = Int32.ofNat (own_ix q2 2) from own_nexti q2 1]
          show own_Go p.tables e below _ (T18.setTop (mkF m 50 #[.val (.ref a1), .val (.long q2), .second, .val (.int (Int32.ofNat (own_ix q2 1)))] [(.int (Int32.ofNat (own_ix q2 2)))]))
          refine own_go (fun _ => XS.istoreN X18.here hx rfl (hb hby d7_50) rfl (l' := #[.val (.ref a1), .val (.long q2), .second, .val (.int (Int32.ofNat (own_ix q2 2)))]) rfl) ?_
          show own_Go p.tables e below _ (T18.setTop (mkF m 51 #[.val (.ref a1), .val (.long q2), .second, .val (.int (Int32.ofNat (own_ix q2 2)))] []))
          refine own_go (fun _ => XS.goto X18.here hx rfl (pc0 := 51) (pc' := 15) rfl (hb hby d7_51) (by decide) (by decide)) ?_
          show own_Go p.tables e below _ (T18.setTop (mkF m 15 #[.val (.ref a1), .val (.long q2), .second, .val (.int (Int32.ofNat (own_ix q2 2)))] []))
          refine own_go (fun _ => XS.aloadN X18.here hx rfl (hb hby d7_15) rfl rfl) ?_
          show own_Go p.tables e below _ (T18.setTop (mkF m 16 #[.val (.ref a1), .val (.long q2), .second, .val (.int (Int32.ofNat (own_ix q2 2)))] [(.ref a1)]))
          obtain ⟨T20, X20, e20, st20⟩ := getF X18 hx hZ hown (host := "") (Or.inl (hw _ (List.mem_of_getElem? (i := 17) rfl))) Via.refl e18 F_keys_a1 (g := (mkF m 16 #[.val (.ref a1), .val (.long q2), .second, .val (.int (Int32.ofNat (own_ix q2 2)))] [(.ref a1)])) rfl rfl (hb hby d7_16)
          refine own_go st20 ?_
          show own_Go p.tables e below _ (T20.setTop (mkF m 19 #[.val (.ref a1), .val (.long q2), .second, .val (.int (Int32.ofNat (own_ix q2 2)))] [(.ref K)]))
          refine own_go (fun _ => XS.iloadN X20.here hx rfl (hb hby d7_19) rfl) ?_
          show own_Go p.tables e below _ (T20.setTop (mkF m 20 #[.val (.ref a1), .val (.long q2), .second, .val (.int (Int32.ofNat (own_ix q2 2)))] [(.int (Int32.ofNat (own_ix q2 2))), (.ref K)]))
          obtain ⟨cl21, Ar21, -, S21, -, Hh21, -⟩ := id V_K
          have hin21 : ¬ ((Int32.ofNat (own_ix q2 2)) < 0 ∨ cl21.slots.size ≤ ((Int32.ofNat (own_ix q2 2))).toNatClampNeg) := inb_of S21 (own_in16 (own_ixlt _ _))
          have st21 := X20.laload hx (j := (Int32.ofNat (own_ix q2 2))) (v := (.long (f (own_ix q2 2)))) (by rw [e20]; exact Ar21.1) (State.isArrayOf_alike hZ.alike Ar21.2.1) Ar21.2.2 hin21 (Hh21.at hin21 (own_Lget (own_ixlt _ _))) (g := (mkF m 20 #[.val (.ref a1), .val (.long q2), .second, .val (.int (Int32.ofNat (own_ix q2 2)))] [(.int (Int32.ofNat (own_ix q2 2))), (.ref K)])) rfl rfl (hb hby d7_20)
          refine own_go st21 ?_
          show own_Go p.tables e below _ (T20.setTop (mkF m 21 #[.val (.ref a1), .val (.long q2), .second, .val (.int (Int32.ofNat (own_ix q2 2)))] [(.long (f (own_ix q2 2)))]))
          refine own_go (X20.ldc2Long hx hown (mvT hZ (hw _ (List.mem_of_getElem? (i := 19) rfl))) (g := (mkF m 21 #[.val (.ref a1), .val (.long q2), .second, .val (.int (Int32.ofNat (own_ix q2 2)))] [(.long (f (own_ix q2 2)))])) rfl (hb hby d7_21)) ?_
          show own_Go p.tables e below _ (T20.setTop (mkF m 24 #[.val (.ref a1), .val (.long q2), .second, .val (.int (Int32.ofNat (own_ix q2 2)))] [(.long (-1 : Int64)), (.long (f (own_ix q2 2)))]))
          refine own_go (fun _ => XS.lcmp X20.here hx rfl (hb hby d7_24) rfl) ?_
          show own_Go p.tables e below _ (T20.setTop (mkF m 25 #[.val (.ref a1), .val (.long q2), .second, .val (.int (Int32.ofNat (own_ix q2 2)))] [(.int (lcmpW (f (own_ix q2 2)) (-1 : Int64)))]))
          by_cases hc22_25 : (lcmpW (f (own_ix q2 2)) (-1 : Int64)) = (0 : Int32)
          · skip
            refine own_go (fun _ => XS.ifYes X20.here hx rfl (pc0 := 25) (pc' := 54) rfl (hb hby d7_25) rfl ((if0 _ _).trans (teq hc22_25).1) (by decide) (by decide)) ?_
            show own_Go p.tables e below _ (T20.setTop (mkF m 54 #[.val (.ref a1), .val (.long q2), .second, .val (.int (Int32.ofNat (own_ix q2 2)))] []))
            refine own_go (fun _ => XS.iloadN X20.here hx rfl (hb hby d7_54) rfl) ?_
            show own_Go p.tables e below _ (T20.setTop (mkF m 55 #[.val (.ref a1), .val (.long q2), .second, .val (.int (Int32.ofNat (own_ix q2 2)))] [(.int (Int32.ofNat (own_ix q2 2)))]))
            refine own_retI X20 Bd.notSynchronized hx Bd.returns (hb hby d7_55) (show Q7 Z a1 q2 K f kc h0 n0 _ T20.heap _ from by rw [e20]; exact ⟨(own_val ((if_neg hc6_25).trans ((if_neg hc9_36).trans ((if_neg hc14_25).trans ((if_neg hc17_36).trans ((if_pos hc22_25).trans rfl)))))), N0, rfl⟩) (by decide) (by decide)
          · skip
            refine own_go (fun _ => XS.ifNo X20.here hx rfl (hb hby d7_25) rfl ((if0 _ _).trans (feq hc22_25).1)) ?_
            show own_Go p.tables e below _ (T20.setTop (mkF m 28 #[.val (.ref a1), .val (.long q2), .second, .val (.int (Int32.ofNat (own_ix q2 2)))] []))
            refine own_go (fun _ => XS.aloadN X20.here hx rfl (hb hby d7_28) rfl rfl) ?_
            show own_Go p.tables e below _ (T20.setTop (mkF m 29 #[.val (.ref a1), .val (.long q2), .second, .val (.int (Int32.ofNat (own_ix q2 2)))] [(.ref a1)]))
            obtain ⟨T23, X23, e23, st23⟩ := getF X20 hx hZ hown (host := "") (Or.inl (hw _ (List.mem_of_getElem? (i := 17) rfl))) Via.refl e20 F_keys_a1 (g := (mkF m 29 #[.val (.ref a1), .val (.long q2), .second, .val (.int (Int32.ofNat (own_ix q2 2)))] [(.ref a1)])) rfl rfl (hb hby d7_29)
            refine own_go st23 ?_
            show own_Go p.tables e below _ (T23.setTop (mkF m 32 #[.val (.ref a1), .val (.long q2), .second, .val (.int (Int32.ofNat (own_ix q2 2)))] [(.ref K)]))
            refine own_go (fun _ => XS.iloadN X23.here hx rfl (hb hby d7_32) rfl) ?_
            show own_Go p.tables e below _ (T23.setTop (mkF m 33 #[.val (.ref a1), .val (.long q2), .second, .val (.int (Int32.ofNat (own_ix q2 2)))] [(.int (Int32.ofNat (own_ix q2 2))), (.ref K)]))
            obtain ⟨cl24, Ar24, -, S24, -, Hh24, -⟩ := id V_K
            have hin24 : ¬ ((Int32.ofNat (own_ix q2 2)) < 0 ∨ cl24.slots.size ≤ ((Int32.ofNat (own_ix q2 2))).toNatClampNeg) := inb_of S24 (own_in16 (own_ixlt _ _))
            have st24 := X23.laload hx (j := (Int32.ofNat (own_ix q2 2))) (v := (.long (f (own_ix q2 2)))) (by rw [e23]; exact Ar24.1) (State.isArrayOf_alike hZ.alike Ar24.2.1) Ar24.2.2 hin24 (Hh24.at hin24 (own_Lget (own_ixlt _ _))) (g := (mkF m 33 #[.val (.ref a1), .val (.long q2), .second, .val (.int (Int32.ofNat (own_ix q2 2)))] [(.int (Int32.ofNat (own_ix q2 2))), (.ref K)])) rfl rfl (hb hby d7_33)
            refine own_go st24 ?_
            show own_Go p.tables e below _ (T23.setTop (mkF m 34 #[.val (.ref a1), .val (.long q2), .second, .val (.int (Int32.ofNat (own_ix q2 2)))] [(.long (f (own_ix q2 2)))]))
            refine own_go (fun _ => XS.lloadN X23.here hx rfl (hb hby d7_34) rfl) ?_
            show own_Go p.tables e below _ (T23.setTop (mkF m 35 #[.val (.ref a1), .val (.long q2), .second, .val (.int (Int32.ofNat (own_ix q2 2)))] [(.long q2), (.long (f (own_ix q2 2)))]))
            refine own_go (fun _ => XS.lcmp X23.here hx rfl (hb hby d7_35) rfl) ?_
            show own_Go p.tables e below _ (T23.setTop (mkF m 36 #[.val (.ref a1), .val (.long q2), .second, .val (.int (Int32.ofNat (own_ix q2 2)))] [(.int (lcmpW (f (own_ix q2 2)) q2))]))
            by_cases hc25_36 : (lcmpW (f (own_ix q2 2)) q2) = (0 : Int32)
            · skip
              refine own_go (fun _ => XS.ifYes X23.here hx rfl (pc0 := 36) (pc' := 54) rfl (hb hby d7_36) rfl ((if0 _ _).trans (teq hc25_36).1) (by decide) (by decide)) ?_
              show own_Go p.tables e below _ (T23.setTop (mkF m 54 #[.val (.ref a1), .val (.long q2), .second, .val (.int (Int32.ofNat (own_ix q2 2)))] []))
              refine own_go (fun _ => XS.iloadN X23.here hx rfl (hb hby d7_54) rfl) ?_
              show own_Go p.tables e below _ (T23.setTop (mkF m 55 #[.val (.ref a1), .val (.long q2), .second, .val (.int (Int32.ofNat (own_ix q2 2)))] [(.int (Int32.ofNat (own_ix q2 2)))]))
              refine own_retI X23 Bd.notSynchronized hx Bd.returns (hb hby d7_55) (show Q7 Z a1 q2 K f kc h0 n0 _ T23.heap _ from by rw [e23]; exact ⟨(own_val ((if_neg hc6_25).trans ((if_neg hc9_36).trans ((if_neg hc14_25).trans ((if_neg hc17_36).trans ((if_neg hc22_25).trans ((if_pos hc25_36).trans rfl))))))), N0, rfl⟩) (by decide) (by decide)
            · skip
              refine own_go (fun _ => XS.ifNo X23.here hx rfl (hb hby d7_36) rfl ((if0 _ _).trans (feq hc25_36).1)) ?_
              show own_Go p.tables e below _ (T23.setTop (mkF m 39 #[.val (.ref a1), .val (.long q2), .second, .val (.int (Int32.ofNat (own_ix q2 2)))] []))
              refine own_go (fun _ => XS.iloadN X23.here hx rfl (hb hby d7_39) rfl) ?_
              show own_Go p.tables e below _ (T23.setTop (mkF m 40 #[.val (.ref a1), .val (.long q2), .second, .val (.int (Int32.ofNat (own_ix q2 2)))] [(.int (Int32.ofNat (own_ix q2 2)))]))
              refine own_go (fun _ => XS.iconst X23.here hx rfl (hb hby d7_40)) ?_
              show own_Go p.tables e below _ (T23.setTop (mkF m 41 #[.val (.ref a1), .val (.long q2), .second, .val (.int (Int32.ofNat (own_ix q2 2)))] [(.int (1 : Int32)), (.int (Int32.ofNat (own_ix q2 2)))]))
              refine own_go (fun _ => XS.iadd X23.here hx rfl (hb hby d7_41) rfl) ?_
              show own_Go p.tables e below _ (T23.setTop (mkF m 42 #[.val (.ref a1), .val (.long q2), .second, .val (.int (Int32.ofNat (own_ix q2 2)))] [(.int ((Int32.ofNat (own_ix q2 2)) + (1 : Int32)))]))
              refine own_go (fun _ => XS.aloadN X23.here hx rfl (hb hby d7_42) rfl rfl) ?_
              show own_Go p.tables e below _ (T23.setTop (mkF m 43 #[.val (.ref a1), .val (.long q2), .second, .val (.int (Int32.ofNat (own_ix q2 2)))] [(.ref a1), (.int ((Int32.ofNat (own_ix q2 2)) + (1 : Int32)))]))
              obtain ⟨T26, X26, e26, st26⟩ := getF X23 hx hZ hown (host := "") (Or.inl (hw _ (List.mem_of_getElem? (i := 17) rfl))) Via.refl e23 F_keys_a1 (g := (mkF m 43 #[.val (.ref a1), .val (.long q2), .second, .val (.int (Int32.ofNat (own_ix q2 2)))] [(.ref a1), (.int ((Int32.ofNat (own_ix q2 2)) + (1 : Int32)))])) rfl rfl (hb hby d7_43)
              refine own_go st26 ?_
              show own_Go p.tables e below _ (T26.setTop (mkF m 46 #[.val (.ref a1), .val (.long q2), .second, .val (.int (Int32.ofNat (own_ix q2 2)))] [(.ref K), (.int ((Int32.ofNat (own_ix q2 2)) + (1 : Int32)))]))
              obtain ⟨cl27, Ar27, -, S27, M27, -, -⟩ := id V_K
              have st27 := X26.arraylength hx (cell := cl27) (by rw [e26]; exact Ar27.1) (State.isArrayOf_alike hZ.alike Ar27.2.1) (g := (mkF m 46 #[.val (.ref a1), .val (.long q2), .second, .val (.int (Int32.ofNat (own_ix q2 2)))] [(.ref K), (.int ((Int32.ofNat (own_ix q2 2)) + (1 : Int32)))])) rfl (rest := [(.int ((Int32.ofNat (own_ix q2 2)) + (1 : Int32)))]) rfl (hb hby d7_46)
              rw [len_of S27 M27] at st27
              refine own_go st27 ?_
              show own_Go p.tables e below _ (T26.setTop (mkF m 47 #[.val (.ref a1), .val (.long q2), .second, .val (.int (Int32.ofNat (own_ix q2 2)))] [(.int (16 : Int32)), (.int ((Int32.ofNat (own_ix q2 2)) + (1 : Int32)))]))
              refine own_go (fun _ => XS.iconst X26.here hx rfl (hb hby d7_47)) ?_
              show own_Go p.tables e below _ (T26.setTop (mkF m 48 #[.val (.ref a1), .val (.long q2), .second, .val (.int (Int32.ofNat (own_ix q2 2)))] [(.int (1 : Int32)), (.int (16 : Int32)), (.int ((Int32.ofNat (own_ix q2 2)) + (1 : Int32)))]))
              refine own_go (fun _ => XS.isub X26.here hx rfl (hb hby d7_48) rfl) ?_
              show own_Go p.tables e below _ (T26.setTop (mkF m 49 #[.val (.ref a1), .val (.long q2), .second, .val (.int (Int32.ofNat (own_ix q2 2)))] [(.int ((16 : Int32) - (1 : Int32))), (.int ((Int32.ofNat (own_ix q2 2)) + (1 : Int32)))]))
              rw [show ((16 : Int32) - (1 : Int32)) = (15 : Int32) from by decide]
              show own_Go p.tables e below _ (T26.setTop (mkF m 49 #[.val (.ref a1), .val (.long q2), .second, .val (.int (Int32.ofNat (own_ix q2 2)))] [(.int (15 : Int32)), (.int ((Int32.ofNat (own_ix q2 2)) + (1 : Int32)))]))
              refine own_go (fun _ => XS.iand X26.here hx rfl (hb hby d7_49) rfl) ?_
              show own_Go p.tables e below _ (T26.setTop (mkF m 50 #[.val (.ref a1), .val (.long q2), .second, .val (.int (Int32.ofNat (own_ix q2 2)))] [(.int (((Int32.ofNat (own_ix q2 2)) + (1 : Int32)) &&& (15 : Int32)))]))
              show own_Go p.tables e below _ (T26.setTop (mkF m 50 #[.val (.ref a1), .val (.long q2), .second, .val (.int (Int32.ofNat (own_ix q2 2)))] [(.int (((Int32.ofNat (own_ix q2 2)) + (1 : Int32)) &&& (15 : Int32)))]))
              rw [show (((Int32.ofNat (own_ix q2 2)) + (1 : Int32)) &&& (15 : Int32)) = Int32.ofNat (own_ix q2 3) from own_nexti q2 2]
              show own_Go p.tables e below _ (T26.setTop (mkF m 50 #[.val (.ref a1), .val (.long q2), .second, .val (.int (Int32.ofNat (own_ix q2 2)))] [(.int (Int32.ofNat (own_ix q2 3)))]))
              refine own_go (fun _ => XS.istoreN X26.here hx rfl (hb hby d7_50) rfl (l' := #[.val (.ref a1), .val (.long q2), .second, .val (.int (Int32.ofNat (own_ix q2 3)))]) rfl) ?_
              show own_Go p.tables e below _ (T26.setTop (mkF m 51 #[.val (.ref a1), .val (.long q2), .second, .val (.int (Int32.ofNat (own_ix q2 3)))] []))
              refine own_go (fun _ => XS.goto X26.here hx rfl (pc0 := 51) (pc' := 15) rfl (hb hby d7_51) (by decide) (by decide)) ?_
              show own_Go p.tables e below _ (T26.setTop (mkF m 15 #[.val (.ref a1), .val (.long q2), .second, .val (.int (Int32.ofNat (own_ix q2 3)))] []))
              refine own_go (fun _ => XS.aloadN X26.here hx rfl (hb hby d7_15) rfl rfl) ?_
              show own_Go p.tables e below _ (T26.setTop (mkF m 16 #[.val (.ref a1), .val (.long q2), .second, .val (.int (Int32.ofNat (own_ix q2 3)))] [(.ref a1)]))
              obtain ⟨T28, X28, e28, st28⟩ := getF X26 hx hZ hown (host := "") (Or.inl (hw _ (List.mem_of_getElem? (i := 17) rfl))) Via.refl e26 F_keys_a1 (g := (mkF m 16 #[.val (.ref a1), .val (.long q2), .second, .val (.int (Int32.ofNat (own_ix q2 3)))] [(.ref a1)])) rfl rfl (hb hby d7_16)
              refine own_go st28 ?_
              show own_Go p.tables e below _ (T28.setTop (mkF m 19 #[.val (.ref a1), .val (.long q2), .second, .val (.int (Int32.ofNat (own_ix q2 3)))] [(.ref K)]))
              refine own_go (fun _ => XS.iloadN X28.here hx rfl (hb hby d7_19) rfl) ?_
              show own_Go p.tables e below _ (T28.setTop (mkF m 20 #[.val (.ref a1), .val (.long q2), .second, .val (.int (Int32.ofNat (own_ix q2 3)))] [(.int (Int32.ofNat (own_ix q2 3))), (.ref K)]))
              obtain ⟨cl29, Ar29, -, S29, -, Hh29, -⟩ := id V_K
              have hin29 : ¬ ((Int32.ofNat (own_ix q2 3)) < 0 ∨ cl29.slots.size ≤ ((Int32.ofNat (own_ix q2 3))).toNatClampNeg) := inb_of S29 (own_in16 (own_ixlt _ _))
              have st29 := X28.laload hx (j := (Int32.ofNat (own_ix q2 3))) (v := (.long (f (own_ix q2 3)))) (by rw [e28]; exact Ar29.1) (State.isArrayOf_alike hZ.alike Ar29.2.1) Ar29.2.2 hin29 (Hh29.at hin29 (own_Lget (own_ixlt _ _))) (g := (mkF m 20 #[.val (.ref a1), .val (.long q2), .second, .val (.int (Int32.ofNat (own_ix q2 3)))] [(.int (Int32.ofNat (own_ix q2 3))), (.ref K)])) rfl rfl (hb hby d7_20)
              refine own_go st29 ?_
              show own_Go p.tables e below _ (T28.setTop (mkF m 21 #[.val (.ref a1), .val (.long q2), .second, .val (.int (Int32.ofNat (own_ix q2 3)))] [(.long (f (own_ix q2 3)))]))
              refine own_go (X28.ldc2Long hx hown (mvT hZ (hw _ (List.mem_of_getElem? (i := 19) rfl))) (g := (mkF m 21 #[.val (.ref a1), .val (.long q2), .second, .val (.int (Int32.ofNat (own_ix q2 3)))] [(.long (f (own_ix q2 3)))])) rfl (hb hby d7_21)) ?_
              show own_Go p.tables e below _ (T28.setTop (mkF m 24 #[.val (.ref a1), .val (.long q2), .second, .val (.int (Int32.ofNat (own_ix q2 3)))] [(.long (-1 : Int64)), (.long (f (own_ix q2 3)))]))
              refine own_go (fun _ => XS.lcmp X28.here hx rfl (hb hby d7_24) rfl) ?_
              show own_Go p.tables e below _ (T28.setTop (mkF m 25 #[.val (.ref a1), .val (.long q2), .second, .val (.int (Int32.ofNat (own_ix q2 3)))] [(.int (lcmpW (f (own_ix q2 3)) (-1 : Int64)))]))
              by_cases hc30_25 : (lcmpW (f (own_ix q2 3)) (-1 : Int64)) = (0 : Int32)
              · skip
                refine own_go (fun _ => XS.ifYes X28.here hx rfl (pc0 := 25) (pc' := 54) rfl (hb hby d7_25) rfl ((if0 _ _).trans (teq hc30_25).1) (by decide) (by decide)) ?_
                show own_Go p.tables e below _ (T28.setTop (mkF m 54 #[.val (.ref a1), .val (.long q2), .second, .val (.int (Int32.ofNat (own_ix q2 3)))] []))
                refine own_go (fun _ => XS.iloadN X28.here hx rfl (hb hby d7_54) rfl) ?_
                show own_Go p.tables e below _ (T28.setTop (mkF m 55 #[.val (.ref a1), .val (.long q2), .second, .val (.int (Int32.ofNat (own_ix q2 3)))] [(.int (Int32.ofNat (own_ix q2 3)))]))
                refine own_retI X28 Bd.notSynchronized hx Bd.returns (hb hby d7_55) (show Q7 Z a1 q2 K f kc h0 n0 _ T28.heap _ from by rw [e28]; exact ⟨(own_val ((if_neg hc6_25).trans ((if_neg hc9_36).trans ((if_neg hc14_25).trans ((if_neg hc17_36).trans ((if_neg hc22_25).trans ((if_neg hc25_36).trans ((if_pos hc30_25).trans rfl)))))))), N0, rfl⟩) (by decide) (by decide)
              · skip
                refine own_go (fun _ => XS.ifNo X28.here hx rfl (hb hby d7_25) rfl ((if0 _ _).trans (feq hc30_25).1)) ?_
                show own_Go p.tables e below _ (T28.setTop (mkF m 28 #[.val (.ref a1), .val (.long q2), .second, .val (.int (Int32.ofNat (own_ix q2 3)))] []))
                refine own_go (fun _ => XS.aloadN X28.here hx rfl (hb hby d7_28) rfl rfl) ?_
                show own_Go p.tables e below _ (T28.setTop (mkF m 29 #[.val (.ref a1), .val (.long q2), .second, .val (.int (Int32.ofNat (own_ix q2 3)))] [(.ref a1)]))
                obtain ⟨T31, X31, e31, st31⟩ := getF X28 hx hZ hown (host := "") (Or.inl (hw _ (List.mem_of_getElem? (i := 17) rfl))) Via.refl e28 F_keys_a1 (g := (mkF m 29 #[.val (.ref a1), .val (.long q2), .second, .val (.int (Int32.ofNat (own_ix q2 3)))] [(.ref a1)])) rfl rfl (hb hby d7_29)
                refine own_go st31 ?_
                show own_Go p.tables e below _ (T31.setTop (mkF m 32 #[.val (.ref a1), .val (.long q2), .second, .val (.int (Int32.ofNat (own_ix q2 3)))] [(.ref K)]))
                refine own_go (fun _ => XS.iloadN X31.here hx rfl (hb hby d7_32) rfl) ?_
                show own_Go p.tables e below _ (T31.setTop (mkF m 33 #[.val (.ref a1), .val (.long q2), .second, .val (.int (Int32.ofNat (own_ix q2 3)))] [(.int (Int32.ofNat (own_ix q2 3))), (.ref K)]))
                obtain ⟨cl32, Ar32, -, S32, -, Hh32, -⟩ := id V_K
                have hin32 : ¬ ((Int32.ofNat (own_ix q2 3)) < 0 ∨ cl32.slots.size ≤ ((Int32.ofNat (own_ix q2 3))).toNatClampNeg) := inb_of S32 (own_in16 (own_ixlt _ _))
                have st32 := X31.laload hx (j := (Int32.ofNat (own_ix q2 3))) (v := (.long (f (own_ix q2 3)))) (by rw [e31]; exact Ar32.1) (State.isArrayOf_alike hZ.alike Ar32.2.1) Ar32.2.2 hin32 (Hh32.at hin32 (own_Lget (own_ixlt _ _))) (g := (mkF m 33 #[.val (.ref a1), .val (.long q2), .second, .val (.int (Int32.ofNat (own_ix q2 3)))] [(.int (Int32.ofNat (own_ix q2 3))), (.ref K)])) rfl rfl (hb hby d7_33)
                refine own_go st32 ?_
                show own_Go p.tables e below _ (T31.setTop (mkF m 34 #[.val (.ref a1), .val (.long q2), .second, .val (.int (Int32.ofNat (own_ix q2 3)))] [(.long (f (own_ix q2 3)))]))
                refine own_go (fun _ => XS.lloadN X31.here hx rfl (hb hby d7_34) rfl) ?_
                show own_Go p.tables e below _ (T31.setTop (mkF m 35 #[.val (.ref a1), .val (.long q2), .second, .val (.int (Int32.ofNat (own_ix q2 3)))] [(.long q2), (.long (f (own_ix q2 3)))]))
                refine own_go (fun _ => XS.lcmp X31.here hx rfl (hb hby d7_35) rfl) ?_
                show own_Go p.tables e below _ (T31.setTop (mkF m 36 #[.val (.ref a1), .val (.long q2), .second, .val (.int (Int32.ofNat (own_ix q2 3)))] [(.int (lcmpW (f (own_ix q2 3)) q2))]))
                refine own_go (fun _ => XS.ifYes X31.here hx rfl (pc0 := 36) (pc' := 54) rfl (hb hby d7_36) rfl ((if0 _ _).trans (teq (own_last hs hc6_25 hc9_36 hc14_25 hc17_36 hc22_25 hc25_36 hc30_25)).1) (by decide) (by decide)) ?_
                show own_Go p.tables e below _ (T31.setTop (mkF m 54 #[.val (.ref a1), .val (.long q2), .second, .val (.int (Int32.ofNat (own_ix q2 3)))] []))
                refine own_go (fun _ => XS.iloadN X31.here hx rfl (hb hby d7_54) rfl) ?_
                show own_Go p.tables e below _ (T31.setTop (mkF m 55 #[.val (.ref a1), .val (.long q2), .second, .val (.int (Int32.ofNat (own_ix q2 3)))] [(.int (Int32.ofNat (own_ix q2 3)))]))
                refine own_retI X31 Bd.notSynchronized hx Bd.returns (hb hby d7_55) (show Q7 Z a1 q2 K f kc h0 n0 _ T31.heap _ from by rw [e31]; exact ⟨(own_val ((if_neg hc6_25).trans ((if_neg hc9_36).trans ((if_neg hc14_25).trans ((if_neg hc17_36).trans ((if_neg hc22_25).trans ((if_neg hc25_36).trans ((if_neg hc30_25).trans rfl)))))))), N0, rfl⟩) (by decide) (by decide)
/-- the place that the search finds -/
def own_p (f : Nat → Int64) (q : Int64) : Nat := if f (own_ix q 0) = -1 ∨ f (own_ix q 0) = q then own_ix q 0 else if f (own_ix q 1) = -1 ∨ f (own_ix q 1) = q then own_ix q 1 else if f (own_ix q 2) = -1 ∨ f (own_ix q 2) = q then own_ix q 2 else own_ix q 3
theorem own_plt (f : Nat → Int64) (q : Int64) : own_p f q < 16 := by unfold own_p; split <;> (try split) <;> (try split) <;> exact own_ixlt _ _
theorem own_f7eq (q : Int64) (f : Nat → Int64) : own_f7 q f = Int32.ofNat (own_p f q) := by
  unfold own_f7 own_p
  simp only [lw_eq]
  by_cases a0 : f (own_ix q 0) = -1 <;> by_cases b0 : f (own_ix q 0) = q <;> by_cases a1 : f (own_ix q 1) = -1 <;> by_cases b1 : f (own_ix q 1) = q <;> by_cases a2 : f (own_ix q 2) = -1 <;> by_cases b2 : f (own_ix q 2) = q <;> simp [a0, b0, a1, b1, a2, b2]
/-- the keys that a put begins with: it forgets all when the store is full -/
def own_cl (zs zm : Int32) (f : Nat → Int64) : Nat → Int64 := if zs = zm then (fun _ => (-1 : Int64)) else f
def own_sz (zs zm : Int32) : Int32 := (if zs = zm then (0 : Int32) else zs) + (1 : Int32)
theorem own_clY {zs zm : Int32} (f : Nat → Int64) (h : zs = zm) : own_cl zs zm f = (fun _ => (-1 : Int64)) := if_pos h
theorem own_clN {zs zm : Int32} (f : Nat → Int64) (h : ¬ zs = zm) : own_cl zs zm f = f := if_neg h
theorem own_szY {zs zm : Int32} (h : zs = zm) : own_sz zs zm = (1 : Int32) := by rw [own_sz, if_pos h]; rfl
theorem own_szN {zs zm : Int32} (h : ¬ zs = zm) : own_sz zs zm = zs + (1 : Int32) := by rw [own_sz, if_neg h]
theorem own_finN (q : Int64) : own_fin (fun _ => (-1 : Int64)) q := Or.inl (Or.inl ((lw_eq _ _).mpr rfl))
/-- the keys and the charges behind a put -/
def own_nk (zs zm : Int32) (f : Nat → Int64) (q : Int64) : Nat → Int64 := own_up (own_cl zs zm f) (own_p (own_cl zs zm f) q) q
def own_nd (zs zm : Int32) (f : Nat → Int64) (g : Nat → UInt64) (q : Int64) (d : UInt64) : Nat → UInt64 := own_up g (own_p (own_cl zs zm f) q) d
theorem d10_0 : decode prog_2_method_5_code 0 = .ok (.aload_n 0, 1) := by decide +kernel
theorem d10_1 : decode prog_2_method_5_code 1 = .ok (.lload_n 1, 1) := by decide +kernel
theorem d10_2 : decode prog_2_method_5_code 2 = .ok (.invokevirtual 17, 3) := by decide +kernel
theorem d10_5 : decode prog_2_method_5_code 5 = .ok (.istore 5, 2) := by decide +kernel
theorem d10_7 : decode prog_2_method_5_code 7 = .ok (.aload_n 0, 1) := by decide +kernel
theorem d10_8 : decode prog_2_method_5_code 8 = .ok (.getfield 21, 3) := by decide +kernel
theorem d10_11 : decode prog_2_method_5_code 11 = .ok (.iload 5, 2) := by decide +kernel
theorem d10_13 : decode prog_2_method_5_code 13 = .ok (.lload_n 1, 1) := by decide +kernel
theorem d10_14 : decode prog_2_method_5_code 14 = .ok (.lastore, 1) := by decide +kernel
theorem d10_15 : decode prog_2_method_5_code 15 = .ok (.aload_n 0, 1) := by decide +kernel
theorem d10_16 : decode prog_2_method_5_code 16 = .ok (.getfield 25, 3) := by decide +kernel
theorem d10_19 : decode prog_2_method_5_code 19 = .ok (.iload 5, 2) := by decide +kernel
theorem d10_21 : decode prog_2_method_5_code 21 = .ok (.dload_n 3, 1) := by decide +kernel
theorem d10_22 : decode prog_2_method_5_code 22 = .ok (.dastore, 1) := by decide +kernel
theorem d10_23 : decode prog_2_method_5_code 23 = .ok (.return_, 1) := by decide +kernel
theorem pn_10 : plainName "com/example/outis/outis/clustering/KeptCharges" = true := by first | (simp [plainName, overriddenIn]; done) | decide +kernel
theorem pd_5 : parseMethodDescriptor "(J)I" = some ⟨[.long], some .int⟩ := by decide +kernel
theorem ef_10 (m : MethodId) (a1 : Addr) (q2 : Int64) (d3 : UInt64) : entryFrame m #[(.ref a1), (.long q2), (.double d3)] 6 = mkF m 0 #[.val (.ref a1), .val (.long q2), .second, .val (.double d3), .second, .unset] [] := by first | (simp [entryFrame, mkF, argsToLocals, Value.category]; done) | rfl
def Q10 (Z : State) (a1 : Addr) (q2 : Int64) (d3 : UInt64) (K : Addr) (D : Addr) (f : Nat → Int64) (g : Nat → UInt64) (kc : ClassId) (kd : ClassId) (h0 : Heap) (n0 : Nat) (v : Option Value) (h : Heap) (L : List Loc) : Prop := v = none ∧ Fr n0 L ∧ Keep h0 h [K, D] ∧ Arv Z h K kc .long (16 : Int32) (own_L (own_up f (own_p f q2) q2)) (.long (0 : Int64)) ∧ Arv Z h D kd .double (16 : Int32) (own_M (own_up g (own_p f q2) d3)) (.double 0)
set_option maxRecDepth 65536 in
set_option maxHeartbeats 40000000 in
theorem rm10 (l : Launch) (Z : State) (a0 : Array Value) (hw : ∀ d ∈ tables_1, d.before a0 Z = true) (ws : List Jvm.Cond) (a1 : Addr) (q2 : Int64) (d3 : UInt64) (K : Addr) (D : Addr) (f : Nat → Int64) (g : Nat → UInt64) (kc : ClassId) (kd : ClassId) (h0 : Heap) (n0 : Nat) (Z0 : n0 ≤ h0.size) (F_bits_a1 : Fld Z h0 a1 "com/example/outis/outis/clustering/KeptCharges" "bits" "I" (.int (4 : Int32))) (F_keys_a1 : Fld Z h0 a1 "com/example/outis/outis/clustering/KeptCharges" "keys" "[J" (.ref K)) (F_charges_a1 : Fld Z h0 a1 "com/example/outis/outis/clustering/KeptCharges" "charges" "[D" (.ref D)) (E_a1 : Exa Z h0 a1 "com/example/outis/outis/clustering/KeptCharges") (V_K : Arv Z h0 K kc .long (16 : Int32) (own_L f) (.long (0 : Int64))) (V_D : Arv Z h0 D kd .double (16 : Int32) (own_M g) (.double 0)) (nKD : K ≠ D) (hs : own_fin f q2) (g_K : n0 ≤ K) (g_D : n0 ≤ D) :
    MetFree l (⟨"com/example/outis/outis/clustering/KeptCharges", "keep", "(JD)V"⟩ : MethodName) (head1 (Jvm.Cond.code (⟨"com/example/outis/outis/clustering/KeptCharges", "keep", "(JD)V"⟩ : MethodName) prog_2_method_5_code 6 none :: ws) ({ frames := 1, cells := 0, slots := 0, locals := 15 } : Room)) (fun a U => a = #[(.ref a1), (.long q2), (.double d3)] ∧ Z.Warmed39 U.vm ∧ U.heap = h0) (fun _ _ _ _ _ => True) (fun _ U o U' => ∃ v L, o = .returned v ∧ Q10 Z a1 q2 d3 K D f g kc kd h0 n0 v U'.heap L ∧ FrameEnd U o U' L ({ frames := 1, cells := 0, slots := 0, locals := 15 } : Room).cells ({ frames := 1, cells := 0, slots := 0, locals := 15 } : Room).slots) := by
  refine MetFree.of_bodySF (plainFor_of_name pn_10) hisR ?_
  intro p e s m args below meth c s₁ Bd hml0 hP hK
  obtain ⟨rfl, hZ, hh⟩ := hP
  have hx := Bd.exec
  have hby := Bd.bytes
  have hml : c.maxLocals = 6 := hml0
  have hown : s.vm.findClass "com/example/outis/outis/clustering/KeptCharges" = some m.cls := findClass_of_methodNamed Bd.named
  have hnm := (name_of_methodNamed Bd.named Bd.method).1
  have X0 : Stand p l e ({ frames := 1, cells := 0, slots := 0, locals := 15 } : Room) s m #[(.ref a1), (.long q2), (.double d3)] below meth c s₁ [] 0 0 := Stand.of_body Bd
  have e0 : s₁.heap = h0 := by rw [← hh, Bd.state]; rfl
  have N0 := Fr.nil n0
  show own_Go p.tables e below (own_Fin below s (Q10 Z a1 q2 d3 K D f g kc kd h0 n0) ({ frames := 1, cells := 0, slots := 0, locals := 15 } : Room).cells ({ frames := 1, cells := 0, slots := 0, locals := 15 } : Room).slots) (s₁.setTop (entryFrame m #[(.ref a1), (.long q2), (.double d3)] 6))
  refine own_go (S' := s₁.setTop (mkF m 0 #[.val (.ref a1), .val (.long q2), .second, .val (.double d3), .second, .unset] [])) (fun t k => castTop (ef_10 m a1 q2 d3) k) ?_
  show own_Go p.tables e below _ (s₁.setTop (mkF m 0 #[.val (.ref a1), .val (.long q2), .second, .val (.double d3), .second, .unset] []))
  refine own_go (fun _ => XS.aloadN X0.here hx rfl (hb hby d10_0) rfl rfl) ?_
  show own_Go p.tables e below _ (s₁.setTop (mkF m 1 #[.val (.ref a1), .val (.long q2), .second, .val (.double d3), .second, .unset] [(.ref a1)]))
  refine own_go (fun _ => XS.lloadN X0.here hx rfl (hb hby d10_1) rfl) ?_
  show own_Go p.tables e below _ (s₁.setTop (mkF m 2 #[.val (.ref a1), .val (.long q2), .second, .val (.double d3), .second, .unset] [(.long q2), (.ref a1)]))
  obtain ⟨cq4, q4, q4'⟩ := E_a1.cell
  obtain ⟨v4, T4, L4, X4, hQ4, st4⟩ := own_tidyV X0 (X0.privateBack hx (y := (⟨"com/example/outis/outis/clustering/KeptCharges", "placeOf", "(J)I"⟩ : MethodName)) hown (mvT hZ (hw _ (List.mem_of_getElem? (i := 39) rfl))) (mvT hZ (hw _ (List.mem_of_getElem? (i := 40) rfl))) (own_selP (z := (⟨"com/example/outis/outis/clustering/KeptCharges", "get", "(J)D"⟩ : MethodName)) rfl (mvT hZ (hw _ (List.mem_of_getElem? (i := 37) rfl))) (Cond.privateMethod_at (mvP hZ (hw _ (List.mem_of_getElem? (i := 41) rfl)) (args := #[]))) (mvT hZ (hw _ (List.mem_of_getElem? (i := 40) rfl))) (by decide)) (Cond.privateMethod_at (mvP hZ (hw _ (List.mem_of_getElem? (i := 41) rfl)) (args := #[]))) (mvT hZ (hw _ (List.mem_of_getElem? (i := 42) rfl))) (by decide) (backOf (W := 0) (rm7 l Z a0 hw [] a1 q2 K f kc h0 n0 Z0 F_bits_a1 F_keys_a1 V_K (by first | assumption | rfl)) hZ (hw _ (List.mem_of_getElem? (i := 42) rfl)) (hw _ (List.mem_of_getElem? (i := 3) rfl)) (by decide) (by decide)) (g := (mkF m 2 #[.val (.ref a1), .val (.long q2), .second, .val (.double d3), .second, .unset] [(.long q2), (.ref a1)])) rfl (by rw [hml]; rfl) (Steps.refl _) (a := a1) (by rw [e0]; exact q4) q4' (argsL := [(.long q2)]) (rest := []) (lenOf pd_5 rfl) rfl (by show 2 * 0 + _ ≤ _; exact Nat.le_of_eq rfl) (hb hby d10_2) (fun _ _ => ⟨rfl, e0, (by decide : 0 + 0 ≤ _), (by decide : 0 + 0 ≤ _)⟩)) (c' := 0) (n' := 0) rfl rfl
  obtain ⟨rfl, N4q, e4⟩ := hQ4
  have N4 := Fr.app N0 N4q
  refine own_via st4 ?_
  show own_Go p.tables e below _ (T4.setTop (mkF m 5 #[.val (.ref a1), .val (.long q2), .second, .val (.double d3), .second, .unset] [(.int (own_f7 q2 f))]))
  rw [own_f7eq]
  show own_Go p.tables e below _ (T4.setTop (mkF m 5 #[.val (.ref a1), .val (.long q2), .second, .val (.double d3), .second, .unset] [(.int (Int32.ofNat (own_p f q2)))]))
  refine own_go (fun _ => XS.istore X4.here hx rfl (hb hby d10_5) rfl (l' := #[.val (.ref a1), .val (.long q2), .second, .val (.double d3), .second, .val (.int (Int32.ofNat (own_p f q2)))]) rfl) ?_
  show own_Go p.tables e below _ (T4.setTop (mkF m 7 #[.val (.ref a1), .val (.long q2), .second, .val (.double d3), .second, .val (.int (Int32.ofNat (own_p f q2)))] []))
  refine own_go (fun _ => XS.aloadN X4.here hx rfl (hb hby d10_7) rfl rfl) ?_
  show own_Go p.tables e below _ (T4.setTop (mkF m 8 #[.val (.ref a1), .val (.long q2), .second, .val (.double d3), .second, .val (.int (Int32.ofNat (own_p f q2)))] [(.ref a1)]))
  obtain ⟨T5, X5, e5, st5⟩ := getF X4 hx hZ hown (host := "") (Or.inl (hw _ (List.mem_of_getElem? (i := 17) rfl))) Via.refl e4 F_keys_a1 (g := (mkF m 8 #[.val (.ref a1), .val (.long q2), .second, .val (.double d3), .second, .val (.int (Int32.ofNat (own_p f q2)))] [(.ref a1)])) rfl rfl (hb hby d10_8)
  refine own_go st5 ?_
  show own_Go p.tables e below _ (T5.setTop (mkF m 11 #[.val (.ref a1), .val (.long q2), .second, .val (.double d3), .second, .val (.int (Int32.ofNat (own_p f q2)))] [(.ref K)]))
  refine own_go (fun _ => XS.iload X5.here hx rfl (hb hby d10_11) rfl) ?_
  show own_Go p.tables e below _ (T5.setTop (mkF m 13 #[.val (.ref a1), .val (.long q2), .second, .val (.double d3), .second, .val (.int (Int32.ofNat (own_p f q2)))] [(.int (Int32.ofNat (own_p f q2))), (.ref K)]))
  refine own_go (fun _ => XS.lloadN X5.here hx rfl (hb hby d10_13) rfl) ?_
  show own_Go p.tables e below _ (T5.setTop (mkF m 14 #[.val (.ref a1), .val (.long q2), .second, .val (.double d3), .second, .val (.int (Int32.ofNat (own_p f q2)))] [(.long q2), (.int (Int32.ofNat (own_p f q2))), (.ref K)]))
  obtain ⟨cl6, Ar6, q6, S6, M6, Hh6, G6⟩ := id V_K
  have hin6 : ¬ ((Int32.ofNat (own_p f q2)) < 0 ∨ cl6.slots.size ≤ ((Int32.ofNat (own_p f q2))).toNatClampNeg) := inb_of S6 (own_in16 (own_plt _ _))
  obtain ⟨T6, h6, X6, e6, W6, st6⟩ := stJ X5 hx hZ e5 Ar6 (j := (Int32.ofNat (own_p f q2))) hin6 (g := (mkF m 14 #[.val (.ref a1), .val (.long q2), .second, .val (.double d3), .second, .val (.int (Int32.ofNat (own_p f q2)))] [(.long q2), (.int (Int32.ofNat (own_p f q2))), (.ref K)])) rfl rfl (hb hby d10_14)
  refine own_go st6 ?_
  have V6 : Arv Z h6 K kc .long (16 : Int32) (own_L (own_up f (own_p f q2) q2)) (.long (0 : Int64)) := own_Lset f (own_p f q2) q2 ▸ Arv.set Ar6 q6 S6 M6 Hh6 G6 rfl W6 (own_p f q2) (own_n16 (own_plt _ _)) (own_Llen (own_plt _ _))
  have K6 : Keep h0 h6 [K, D] := (Keep.refl h0 [K, D]).wr W6 (Or.inl (List.mem_of_getElem? (i := 0) rfl))
  have N6 := Fr.snoc X6 N4 g_K
  show own_Go p.tables e below _ (T6.setTop (mkF m 15 #[.val (.ref a1), .val (.long q2), .second, .val (.double d3), .second, .val (.int (Int32.ofNat (own_p f q2)))] []))
  refine own_go (fun _ => XS.aloadN X6.here hx rfl (hb hby d10_15) rfl rfl) ?_
  show own_Go p.tables e below _ (T6.setTop (mkF m 16 #[.val (.ref a1), .val (.long q2), .second, .val (.double d3), .second, .val (.int (Int32.ofNat (own_p f q2)))] [(.ref a1)]))
  obtain ⟨T7, X7, e7, st7⟩ := getF X6 hx hZ hown (host := "") (Or.inl (hw _ (List.mem_of_getElem? (i := 25) rfl))) Via.refl e6 (F_charges_a1.other W6 (Or.inl (E_a1.neArv V_K (hw _ (List.mem_of_getElem? (i := 2) rfl))))) (g := (mkF m 16 #[.val (.ref a1), .val (.long q2), .second, .val (.double d3), .second, .val (.int (Int32.ofNat (own_p f q2)))] [(.ref a1)])) rfl rfl (hb hby d10_16)
  refine own_go st7 ?_
  show own_Go p.tables e below _ (T7.setTop (mkF m 19 #[.val (.ref a1), .val (.long q2), .second, .val (.double d3), .second, .val (.int (Int32.ofNat (own_p f q2)))] [(.ref D)]))
  refine own_go (fun _ => XS.iload X7.here hx rfl (hb hby d10_19) rfl) ?_
  show own_Go p.tables e below _ (T7.setTop (mkF m 21 #[.val (.ref a1), .val (.long q2), .second, .val (.double d3), .second, .val (.int (Int32.ofNat (own_p f q2)))] [(.int (Int32.ofNat (own_p f q2))), (.ref D)]))
  refine own_go (fun _ => XS.dloadN X7.here hx rfl (hb hby d10_21) rfl) ?_
  show own_Go p.tables e below _ (T7.setTop (mkF m 22 #[.val (.ref a1), .val (.long q2), .second, .val (.double d3), .second, .val (.int (Int32.ofNat (own_p f q2)))] [(.double d3), (.int (Int32.ofNat (own_p f q2))), (.ref D)]))
  obtain ⟨cl8, Ar8, q8, S8, M8, Hh8, G8⟩ := id (V_D.other W6 (Ne.symm nKD))
  have hin8 : ¬ ((Int32.ofNat (own_p f q2)) < 0 ∨ cl8.slots.size ≤ ((Int32.ofNat (own_p f q2))).toNatClampNeg) := inb_of S8 (own_in16 (own_plt _ _))
  obtain ⟨T8, h8, X8, e8, W8, st8⟩ := stD X7 hx hZ e7 Ar8 (j := (Int32.ofNat (own_p f q2))) hin8 (g := (mkF m 22 #[.val (.ref a1), .val (.long q2), .second, .val (.double d3), .second, .val (.int (Int32.ofNat (own_p f q2)))] [(.double d3), (.int (Int32.ofNat (own_p f q2))), (.ref D)])) rfl rfl (hb hby d10_22)
  refine own_go st8 ?_
  have V8 : Arv Z h8 D kd .double (16 : Int32) (own_M (own_up g (own_p f q2) d3)) (.double 0) := own_Mset g (own_p f q2) d3 ▸ Arv.set Ar8 q8 S8 M8 Hh8 G8 rfl W8 (own_p f q2) (own_n16 (own_plt _ _)) (own_Mlen (own_plt _ _))
  have K8 : Keep h0 h8 [K, D] := K6.wr W8 (Or.inl (List.mem_of_getElem? (i := 1) rfl))
  have N8 := Fr.snoc X8 N6 g_D
  show own_Go p.tables e below _ (T8.setTop (mkF m 23 #[.val (.ref a1), .val (.long q2), .second, .val (.double d3), .second, .val (.int (Int32.ofNat (own_p f q2)))] []))
  refine own_ret0 X8 Bd.notSynchronized hx Bd.returns (hb hby d10_23) (show Q10 Z a1 q2 d3 K D f g kc kd h0 n0 _ T8.heap _ from by rw [e8]; exact ⟨rfl, N8, K8, (V6.other W8 nKD), V8⟩) (by decide) (by decide)
theorem d6_0 : decode prog_2_method_2_code 0 = .ok (.aload_n 0, 1) := by decide +kernel
theorem d6_1 : decode prog_2_method_2_code 1 = .ok (.lload_n 1, 1) := by decide +kernel
theorem d6_2 : decode prog_2_method_2_code 2 = .ok (.invokevirtual 17, 3) := by decide +kernel
theorem d6_5 : decode prog_2_method_2_code 5 = .ok (.istore_n 3, 1) := by decide +kernel
theorem d6_6 : decode prog_2_method_2_code 6 = .ok (.aload_n 0, 1) := by decide +kernel
theorem d6_7 : decode prog_2_method_2_code 7 = .ok (.getfield 21, 3) := by decide +kernel
theorem d6_10 : decode prog_2_method_2_code 10 = .ok (.iload_n 3, 1) := by decide +kernel
theorem d6_11 : decode prog_2_method_2_code 11 = .ok (.laload, 1) := by decide +kernel
theorem d6_12 : decode prog_2_method_2_code 12 = .ok (.lload_n 1, 1) := by decide +kernel
theorem d6_13 : decode prog_2_method_2_code 13 = .ok (.lcmp, 1) := by decide +kernel
theorem d6_14 : decode prog_2_method_2_code 14 = .ok (.ifCond .ne 12, 3) := by decide +kernel
theorem d6_17 : decode prog_2_method_2_code 17 = .ok (.aload_n 0, 1) := by decide +kernel
theorem d6_18 : decode prog_2_method_2_code 18 = .ok (.getfield 25, 3) := by decide +kernel
theorem d6_21 : decode prog_2_method_2_code 21 = .ok (.iload_n 3, 1) := by decide +kernel
theorem d6_22 : decode prog_2_method_2_code 22 = .ok (.daload, 1) := by decide +kernel
theorem d6_23 : decode prog_2_method_2_code 23 = .ok (.goto 6, 3) := by decide +kernel
theorem d6_26 : decode prog_2_method_2_code 26 = .ok (.ldc2_w 31, 3) := by decide +kernel
theorem d6_29 : decode prog_2_method_2_code 29 = .ok (.dreturn, 1) := by decide +kernel
theorem pn_6 : plainName "com/example/outis/outis/clustering/KeptCharges" = true := by first | (simp [plainName, overriddenIn]; done) | decide +kernel
theorem ef_6 (m : MethodId) (a1 : Addr) (q2 : Int64) : entryFrame m #[(.ref a1), (.long q2)] 4 = mkF m 0 #[.val (.ref a1), .val (.long q2), .second, .unset] [] := by first | (simp [entryFrame, mkF, argsToLocals, Value.category]; done) | rfl
def own_f6 (q2 : Int64) (f : Nat → Int64) (g : Nat → UInt64) : UInt64 :=
  if (lcmpW (f (own_p f q2)) q2) = (0 : Int32) then (g (own_p f q2))
  else (9221120237041090560 : UInt64)
def Q6 (Z : State) (a1 : Addr) (q2 : Int64) (K : Addr) (D : Addr) (f : Nat → Int64) (g : Nat → UInt64) (kc : ClassId) (kd : ClassId) (h0 : Heap) (n0 : Nat) (v : Option Value) (h : Heap) (L : List Loc) : Prop := v = some (.double (own_f6 q2 f g)) ∧ Fr n0 L ∧ h = h0
set_option maxRecDepth 65536 in
set_option maxHeartbeats 40000000 in
theorem rm6 (l : Launch) (Z : State) (a0 : Array Value) (hw : ∀ d ∈ tables_1, d.before a0 Z = true) (ws : List Jvm.Cond) (a1 : Addr) (q2 : Int64) (K : Addr) (D : Addr) (f : Nat → Int64) (g : Nat → UInt64) (kc : ClassId) (kd : ClassId) (h0 : Heap) (n0 : Nat) (Z0 : n0 ≤ h0.size) (F_bits_a1 : Fld Z h0 a1 "com/example/outis/outis/clustering/KeptCharges" "bits" "I" (.int (4 : Int32))) (F_keys_a1 : Fld Z h0 a1 "com/example/outis/outis/clustering/KeptCharges" "keys" "[J" (.ref K)) (F_charges_a1 : Fld Z h0 a1 "com/example/outis/outis/clustering/KeptCharges" "charges" "[D" (.ref D)) (E_a1 : Exa Z h0 a1 "com/example/outis/outis/clustering/KeptCharges") (V_K : Arv Z h0 K kc .long (16 : Int32) (own_L f) (.long (0 : Int64))) (V_D : Arv Z h0 D kd .double (16 : Int32) (own_M g) (.double 0)) (hs : own_fin f q2) :
    MetFree l (⟨"com/example/outis/outis/clustering/KeptCharges", "get", "(J)D"⟩ : MethodName) (head1 (Jvm.Cond.code (⟨"com/example/outis/outis/clustering/KeptCharges", "get", "(J)D"⟩ : MethodName) prog_2_method_2_code 4 (some .double) :: ws) ({ frames := 1, cells := 0, slots := 0, locals := 15 } : Room)) (fun a U => a = #[(.ref a1), (.long q2)] ∧ Z.Warmed39 U.vm ∧ U.heap = h0) (fun _ _ _ _ _ => True) (fun _ U o U' => ∃ v L, o = .returned v ∧ Q6 Z a1 q2 K D f g kc kd h0 n0 v U'.heap L ∧ FrameEnd U o U' L ({ frames := 1, cells := 0, slots := 0, locals := 15 } : Room).cells ({ frames := 1, cells := 0, slots := 0, locals := 15 } : Room).slots) := by
  refine MetFree.of_bodySF (plainFor_of_name pn_6) hisR ?_
  intro p e s m args below meth c s₁ Bd hml0 hP hK
  obtain ⟨rfl, hZ, hh⟩ := hP
  have hx := Bd.exec
  have hby := Bd.bytes
  have hml : c.maxLocals = 4 := hml0
  have hown : s.vm.findClass "com/example/outis/outis/clustering/KeptCharges" = some m.cls := findClass_of_methodNamed Bd.named
  have hnm := (name_of_methodNamed Bd.named Bd.method).1
  have X0 : Stand p l e ({ frames := 1, cells := 0, slots := 0, locals := 15 } : Room) s m #[(.ref a1), (.long q2)] below meth c s₁ [] 0 0 := Stand.of_body Bd
  have e0 : s₁.heap = h0 := by rw [← hh, Bd.state]; rfl
  have N0 := Fr.nil n0
  show own_Go p.tables e below (own_Fin below s (Q6 Z a1 q2 K D f g kc kd h0 n0) ({ frames := 1, cells := 0, slots := 0, locals := 15 } : Room).cells ({ frames := 1, cells := 0, slots := 0, locals := 15 } : Room).slots) (s₁.setTop (entryFrame m #[(.ref a1), (.long q2)] 4))
  refine own_go (S' := s₁.setTop (mkF m 0 #[.val (.ref a1), .val (.long q2), .second, .unset] [])) (fun t k => castTop (ef_6 m a1 q2) k) ?_
  show own_Go p.tables e below _ (s₁.setTop (mkF m 0 #[.val (.ref a1), .val (.long q2), .second, .unset] []))
  refine own_go (fun _ => XS.aloadN X0.here hx rfl (hb hby d6_0) rfl rfl) ?_
  show own_Go p.tables e below _ (s₁.setTop (mkF m 1 #[.val (.ref a1), .val (.long q2), .second, .unset] [(.ref a1)]))
  refine own_go (fun _ => XS.lloadN X0.here hx rfl (hb hby d6_1) rfl) ?_
  show own_Go p.tables e below _ (s₁.setTop (mkF m 2 #[.val (.ref a1), .val (.long q2), .second, .unset] [(.long q2), (.ref a1)]))
  obtain ⟨cq3, q3, q3'⟩ := E_a1.cell
  obtain ⟨v3, T3, L3, X3, hQ3, st3⟩ := own_tidyV X0 (X0.privateBack hx (y := (⟨"com/example/outis/outis/clustering/KeptCharges", "placeOf", "(J)I"⟩ : MethodName)) hown (mvT hZ (hw _ (List.mem_of_getElem? (i := 39) rfl))) (mvT hZ (hw _ (List.mem_of_getElem? (i := 40) rfl))) (own_selP (z := (⟨"com/example/outis/outis/clustering/KeptCharges", "get", "(J)D"⟩ : MethodName)) rfl (mvT hZ (hw _ (List.mem_of_getElem? (i := 37) rfl))) (Cond.privateMethod_at (mvP hZ (hw _ (List.mem_of_getElem? (i := 41) rfl)) (args := #[]))) (mvT hZ (hw _ (List.mem_of_getElem? (i := 40) rfl))) (by decide)) (Cond.privateMethod_at (mvP hZ (hw _ (List.mem_of_getElem? (i := 41) rfl)) (args := #[]))) (mvT hZ (hw _ (List.mem_of_getElem? (i := 42) rfl))) (by decide) (backOf (W := 0) (rm7 l Z a0 hw [] a1 q2 K f kc h0 n0 Z0 F_bits_a1 F_keys_a1 V_K (by first | assumption | rfl)) hZ (hw _ (List.mem_of_getElem? (i := 42) rfl)) (hw _ (List.mem_of_getElem? (i := 3) rfl)) (by decide) (by decide)) (g := (mkF m 2 #[.val (.ref a1), .val (.long q2), .second, .unset] [(.long q2), (.ref a1)])) rfl (by rw [hml]; rfl) (Steps.refl _) (a := a1) (by rw [e0]; exact q3) q3' (argsL := [(.long q2)]) (rest := []) (lenOf pd_5 rfl) rfl (by show 2 * 0 + _ ≤ _; exact Nat.le_of_eq rfl) (hb hby d6_2) (fun _ _ => ⟨rfl, e0, (by decide : 0 + 0 ≤ _), (by decide : 0 + 0 ≤ _)⟩)) (c' := 0) (n' := 0) rfl rfl
  obtain ⟨rfl, N3q, e3⟩ := hQ3
  have N3 := Fr.app N0 N3q
  refine own_via st3 ?_
  show own_Go p.tables e below _ (T3.setTop (mkF m 5 #[.val (.ref a1), .val (.long q2), .second, .unset] [(.int (own_f7 q2 f))]))
  rw [own_f7eq]
  show own_Go p.tables e below _ (T3.setTop (mkF m 5 #[.val (.ref a1), .val (.long q2), .second, .unset] [(.int (Int32.ofNat (own_p f q2)))]))
  refine own_go (fun _ => XS.istoreN X3.here hx rfl (hb hby d6_5) rfl (l' := #[.val (.ref a1), .val (.long q2), .second, .val (.int (Int32.ofNat (own_p f q2)))]) rfl) ?_
  show own_Go p.tables e below _ (T3.setTop (mkF m 6 #[.val (.ref a1), .val (.long q2), .second, .val (.int (Int32.ofNat (own_p f q2)))] []))
  refine own_go (fun _ => XS.aloadN X3.here hx rfl (hb hby d6_6) rfl rfl) ?_
  show own_Go p.tables e below _ (T3.setTop (mkF m 7 #[.val (.ref a1), .val (.long q2), .second, .val (.int (Int32.ofNat (own_p f q2)))] [(.ref a1)]))
  obtain ⟨T4, X4, e4, st4⟩ := getF X3 hx hZ hown (host := "") (Or.inl (hw _ (List.mem_of_getElem? (i := 17) rfl))) Via.refl e3 F_keys_a1 (g := (mkF m 7 #[.val (.ref a1), .val (.long q2), .second, .val (.int (Int32.ofNat (own_p f q2)))] [(.ref a1)])) rfl rfl (hb hby d6_7)
  refine own_go st4 ?_
  show own_Go p.tables e below _ (T4.setTop (mkF m 10 #[.val (.ref a1), .val (.long q2), .second, .val (.int (Int32.ofNat (own_p f q2)))] [(.ref K)]))
  refine own_go (fun _ => XS.iloadN X4.here hx rfl (hb hby d6_10) rfl) ?_
  show own_Go p.tables e below _ (T4.setTop (mkF m 11 #[.val (.ref a1), .val (.long q2), .second, .val (.int (Int32.ofNat (own_p f q2)))] [(.int (Int32.ofNat (own_p f q2))), (.ref K)]))
  obtain ⟨cl5, Ar5, -, S5, -, Hh5, -⟩ := id V_K
  have hin5 : ¬ ((Int32.ofNat (own_p f q2)) < 0 ∨ cl5.slots.size ≤ ((Int32.ofNat (own_p f q2))).toNatClampNeg) := inb_of S5 (own_in16 (own_plt _ _))
  have st5 := X4.laload hx (j := (Int32.ofNat (own_p f q2))) (v := (.long (f (own_p f q2)))) (by rw [e4]; exact Ar5.1) (State.isArrayOf_alike hZ.alike Ar5.2.1) Ar5.2.2 hin5 (Hh5.at hin5 (own_Lget (own_plt _ _))) (g := (mkF m 11 #[.val (.ref a1), .val (.long q2), .second, .val (.int (Int32.ofNat (own_p f q2)))] [(.int (Int32.ofNat (own_p f q2))), (.ref K)])) rfl rfl (hb hby d6_11)
  refine own_go st5 ?_
  show own_Go p.tables e below _ (T4.setTop (mkF m 12 #[.val (.ref a1), .val (.long q2), .second, .val (.int (Int32.ofNat (own_p f q2)))] [(.long (f (own_p f q2)))]))
  refine own_go (fun _ => XS.lloadN X4.here hx rfl (hb hby d6_12) rfl) ?_
  show own_Go p.tables e below _ (T4.setTop (mkF m 13 #[.val (.ref a1), .val (.long q2), .second, .val (.int (Int32.ofNat (own_p f q2)))] [(.long q2), (.long (f (own_p f q2)))]))
  refine own_go (fun _ => XS.lcmp X4.here hx rfl (hb hby d6_13) rfl) ?_
  show own_Go p.tables e below _ (T4.setTop (mkF m 14 #[.val (.ref a1), .val (.long q2), .second, .val (.int (Int32.ofNat (own_p f q2)))] [(.int (lcmpW (f (own_p f q2)) q2))]))
  by_cases hc6_14 : (lcmpW (f (own_p f q2)) q2) = (0 : Int32)
  · skip
    refine own_go (fun _ => XS.ifNo X4.here hx rfl (hb hby d6_14) rfl ((if0 _ _).trans (teq hc6_14).2)) ?_
    show own_Go p.tables e below _ (T4.setTop (mkF m 17 #[.val (.ref a1), .val (.long q2), .second, .val (.int (Int32.ofNat (own_p f q2)))] []))
    refine own_go (fun _ => XS.aloadN X4.here hx rfl (hb hby d6_17) rfl rfl) ?_
    show own_Go p.tables e below _ (T4.setTop (mkF m 18 #[.val (.ref a1), .val (.long q2), .second, .val (.int (Int32.ofNat (own_p f q2)))] [(.ref a1)]))
    obtain ⟨T7, X7, e7, st7⟩ := getF X4 hx hZ hown (host := "") (Or.inl (hw _ (List.mem_of_getElem? (i := 25) rfl))) Via.refl e4 F_charges_a1 (g := (mkF m 18 #[.val (.ref a1), .val (.long q2), .second, .val (.int (Int32.ofNat (own_p f q2)))] [(.ref a1)])) rfl rfl (hb hby d6_18)
    refine own_go st7 ?_
    show own_Go p.tables e below _ (T7.setTop (mkF m 21 #[.val (.ref a1), .val (.long q2), .second, .val (.int (Int32.ofNat (own_p f q2)))] [(.ref D)]))
    refine own_go (fun _ => XS.iloadN X7.here hx rfl (hb hby d6_21) rfl) ?_
    show own_Go p.tables e below _ (T7.setTop (mkF m 22 #[.val (.ref a1), .val (.long q2), .second, .val (.int (Int32.ofNat (own_p f q2)))] [(.int (Int32.ofNat (own_p f q2))), (.ref D)]))
    obtain ⟨cl8, Ar8, -, S8, -, Hh8, -⟩ := id V_D
    have hin8 : ¬ ((Int32.ofNat (own_p f q2)) < 0 ∨ cl8.slots.size ≤ ((Int32.ofNat (own_p f q2))).toNatClampNeg) := inb_of S8 (own_in16 (own_plt _ _))
    have st8 := X7.daload hx (j := (Int32.ofNat (own_p f q2))) (v := (.double (g (own_p f q2)))) (by rw [e7]; exact Ar8.1) (State.isArrayOf_alike hZ.alike Ar8.2.1) Ar8.2.2 hin8 (Hh8.at hin8 (own_Mget (own_plt _ _))) (g := (mkF m 22 #[.val (.ref a1), .val (.long q2), .second, .val (.int (Int32.ofNat (own_p f q2)))] [(.int (Int32.ofNat (own_p f q2))), (.ref D)])) rfl rfl (hb hby d6_22)
    refine own_go st8 ?_
    show own_Go p.tables e below _ (T7.setTop (mkF m 23 #[.val (.ref a1), .val (.long q2), .second, .val (.int (Int32.ofNat (own_p f q2)))] [(.double (g (own_p f q2)))]))
    refine own_go (fun _ => XS.goto X7.here hx rfl (pc0 := 23) (pc' := 29) rfl (hb hby d6_23) (by decide) (by decide)) ?_
    show own_Go p.tables e below _ (T7.setTop (mkF m 29 #[.val (.ref a1), .val (.long q2), .second, .val (.int (Int32.ofNat (own_p f q2)))] [(.double (g (own_p f q2)))]))
    refine own_retD X7 Bd.notSynchronized hx Bd.returns (hb hby d6_29) (show Q6 Z a1 q2 K D f g kc kd h0 n0 _ T7.heap _ from by rw [e7]; exact ⟨(own_valD ((if_pos hc6_14).trans rfl)), N3, rfl⟩) (by decide) (by decide)
  · skip
    refine own_go (fun _ => XS.ifYes X4.here hx rfl (pc0 := 14) (pc' := 26) rfl (hb hby d6_14) rfl ((if0 _ _).trans (feq hc6_14).2) (by decide) (by decide)) ?_
    show own_Go p.tables e below _ (T4.setTop (mkF m 26 #[.val (.ref a1), .val (.long q2), .second, .val (.int (Int32.ofNat (own_p f q2)))] []))
    refine own_go (X4.ldc2DoubleC hx hown (mvT hZ (hw _ (List.mem_of_getElem? (i := 44) rfl))) (g := (mkF m 26 #[.val (.ref a1), .val (.long q2), .second, .val (.int (Int32.ofNat (own_p f q2)))] [])) rfl (hb hby d6_26)) ?_
    show own_Go p.tables e below _ (T4.setTop (mkF m 29 #[.val (.ref a1), .val (.long q2), .second, .val (.int (Int32.ofNat (own_p f q2)))] [(.double (9221120237041090560 : UInt64))]))
    refine own_retD X4 Bd.notSynchronized hx Bd.returns (hb hby d6_29) (show Q6 Z a1 q2 K D f g kc kd h0 n0 _ T4.heap _ from by rw [e4]; exact ⟨(own_valD ((if_neg hc6_14).trans rfl)), N3, rfl⟩) (by decide) (by decide)
theorem d8_0 : decode method_3_code 0 = .ok (.iload 4, 2) := by decide +kernel
theorem d8_2 : decode method_3_code 2 = .ok (.ifCond .eq 23, 3) := by decide +kernel
theorem d8_5 : decode method_3_code 5 = .ok (.lload_n 2, 1) := by decide +kernel
theorem d8_6 : decode method_3_code 6 = .ok (.lload 5, 2) := by decide +kernel
theorem d8_8 : decode method_3_code 8 = .ok (.lcmp, 1) := by decide +kernel
theorem d8_9 : decode method_3_code 9 = .ok (.ifCond .ne 16, 3) := by decide +kernel
theorem d8_12 : decode method_3_code 12 = .ok (.dload_n 0, 1) := by decide +kernel
theorem d8_13 : decode method_3_code 13 = .ok (.dload 7, 2) := by decide +kernel
theorem d8_15 : decode method_3_code 15 = .ok (.dcmp .l, 1) := by decide +kernel
theorem d8_16 : decode method_3_code 16 = .ok (.ifCond .ne 7, 3) := by decide +kernel
theorem d8_19 : decode method_3_code 19 = .ok (.iconst 1, 1) := by decide +kernel
theorem d8_20 : decode method_3_code 20 = .ok (.goto 4, 3) := by decide +kernel
theorem d8_23 : decode method_3_code 23 = .ok (.iconst 0, 1) := by decide +kernel
theorem d8_24 : decode method_3_code 24 = .ok (.ireturn, 1) := by decide +kernel
theorem d8_25 : decode method_3_code 25 = .ok (.iload 9, 2) := by decide +kernel
theorem d8_27 : decode method_3_code 27 = .ok (.ifCond .eq 23, 3) := by decide +kernel
theorem d8_30 : decode method_3_code 30 = .ok (.lload_n 2, 1) := by decide +kernel
theorem d8_31 : decode method_3_code 31 = .ok (.lload 10, 2) := by decide +kernel
theorem d8_33 : decode method_3_code 33 = .ok (.lcmp, 1) := by decide +kernel
theorem d8_34 : decode method_3_code 34 = .ok (.ifCond .ne 16, 3) := by decide +kernel
theorem d8_37 : decode method_3_code 37 = .ok (.dload_n 0, 1) := by decide +kernel
theorem d8_38 : decode method_3_code 38 = .ok (.dload 12, 2) := by decide +kernel
theorem d8_40 : decode method_3_code 40 = .ok (.dcmp .l, 1) := by decide +kernel
theorem d8_41 : decode method_3_code 41 = .ok (.ifCond .ne 7, 3) := by decide +kernel
theorem d8_44 : decode method_3_code 44 = .ok (.iconst 1, 1) := by decide +kernel
theorem d8_45 : decode method_3_code 45 = .ok (.goto 4, 3) := by decide +kernel
theorem d8_48 : decode method_3_code 48 = .ok (.iconst 0, 1) := by decide +kernel
theorem d8_49 : decode method_3_code 49 = .ok (.ireturn, 1) := by decide +kernel
theorem d8_50 : decode method_3_code 50 = .ok (.iload 14, 2) := by decide +kernel
theorem d8_52 : decode method_3_code 52 = .ok (.ifCond .eq 23, 3) := by decide +kernel
theorem d8_55 : decode method_3_code 55 = .ok (.lload_n 2, 1) := by decide +kernel
theorem d8_56 : decode method_3_code 56 = .ok (.lload 15, 2) := by decide +kernel
theorem d8_58 : decode method_3_code 58 = .ok (.lcmp, 1) := by decide +kernel
theorem d8_59 : decode method_3_code 59 = .ok (.ifCond .ne 16, 3) := by decide +kernel
theorem d8_62 : decode method_3_code 62 = .ok (.dload_n 0, 1) := by decide +kernel
theorem d8_63 : decode method_3_code 63 = .ok (.dload 17, 2) := by decide +kernel
theorem d8_65 : decode method_3_code 65 = .ok (.dcmp .l, 1) := by decide +kernel
theorem d8_66 : decode method_3_code 66 = .ok (.ifCond .ne 7, 3) := by decide +kernel
theorem d8_69 : decode method_3_code 69 = .ok (.iconst 1, 1) := by decide +kernel
theorem d8_70 : decode method_3_code 70 = .ok (.goto 4, 3) := by decide +kernel
theorem d8_73 : decode method_3_code 73 = .ok (.iconst 0, 1) := by decide +kernel
theorem d8_74 : decode method_3_code 74 = .ok (.ireturn, 1) := by decide +kernel
theorem d8_75 : decode method_3_code 75 = .ok (.dload_n 0, 1) := by decide +kernel
theorem d8_76 : decode method_3_code 76 = .ok (.dload_n 0, 1) := by decide +kernel
theorem d8_77 : decode method_3_code 77 = .ok (.dcmp .l, 1) := by decide +kernel
theorem d8_78 : decode method_3_code 78 = .ok (.ifCond .eq 7, 3) := by decide +kernel
theorem d8_81 : decode method_3_code 81 = .ok (.iconst 1, 1) := by decide +kernel
theorem d8_82 : decode method_3_code 82 = .ok (.goto 4, 3) := by decide +kernel
theorem d8_85 : decode method_3_code 85 = .ok (.iconst 0, 1) := by decide +kernel
theorem d8_86 : decode method_3_code 86 = .ok (.ireturn, 1) := by decide +kernel
theorem pn_8 : plainName "com/example/outis/outis/clustering/KeptChargesGetPinLaw" = true := by first | (simp [plainName, overriddenIn]; done) | decide +kernel
theorem ef_8 (m : MethodId) (d1 : UInt64) (q2 : Int64) (p3 : Int32) (q4 : Int64) (d5 : UInt64) (p6 : Int32) (q7 : Int64) (d8 : UInt64) (p9 : Int32) (q10 : Int64) (d11 : UInt64) : entryFrame m #[(.double d1), (.long q2), (.int p3), (.long q4), (.double d5), (.int p6), (.long q7), (.double d8), (.int p9), (.long q10), (.double d11)] 19 = mkF m 0 #[.val (.double d1), .second, .val (.long q2), .second, .val (.int p3), .val (.long q4), .second, .val (.double d5), .second, .val (.int p6), .val (.long q7), .second, .val (.double d8), .second, .val (.int p9), .val (.long q10), .second, .val (.double d11), .second] [] := by first | (simp [entryFrame, mkF, argsToLocals, Value.category]; done) | rfl
def own_f8 (d1 : UInt64) (q2 : Int64) (p3 : Int32) (q4 : Int64) (d5 : UInt64) (p6 : Int32) (q7 : Int64) (d8 : UInt64) (p9 : Int32) (q10 : Int64) (d11 : UInt64) : Int32 :=
  if p3 = (0 : Int32) then (if p6 = (0 : Int32) then (if p9 = (0 : Int32) then (if (cmpValue (FP.dcmp d1 d1) .l) = (0 : Int32) then (0 : Int32)
        else (1 : Int32))
      else if (lcmpW q2 q10) = (0 : Int32) then (if (cmpValue (FP.dcmp d1 d11) .l) = (0 : Int32) then (1 : Int32)
        else (0 : Int32))
      else if (cmpValue (FP.dcmp d1 d1) .l) = (0 : Int32) then (0 : Int32)
      else (1 : Int32))
    else if (lcmpW q2 q7) = (0 : Int32) then (if (cmpValue (FP.dcmp d1 d8) .l) = (0 : Int32) then (1 : Int32)
      else (0 : Int32))
    else if p9 = (0 : Int32) then (if (cmpValue (FP.dcmp d1 d1) .l) = (0 : Int32) then (0 : Int32)
      else (1 : Int32))
    else if (lcmpW q2 q10) = (0 : Int32) then (if (cmpValue (FP.dcmp d1 d11) .l) = (0 : Int32) then (1 : Int32)
      else (0 : Int32))
    else if (cmpValue (FP.dcmp d1 d1) .l) = (0 : Int32) then (0 : Int32)
    else (1 : Int32))
  else if (lcmpW q2 q4) = (0 : Int32) then (if (cmpValue (FP.dcmp d1 d5) .l) = (0 : Int32) then (1 : Int32)
    else (0 : Int32))
  else if p6 = (0 : Int32) then (if p9 = (0 : Int32) then (if (cmpValue (FP.dcmp d1 d1) .l) = (0 : Int32) then (0 : Int32)
      else (1 : Int32))
    else if (lcmpW q2 q10) = (0 : Int32) then (if (cmpValue (FP.dcmp d1 d11) .l) = (0 : Int32) then (1 : Int32)
      else (0 : Int32))
    else if (cmpValue (FP.dcmp d1 d1) .l) = (0 : Int32) then (0 : Int32)
    else (1 : Int32))
  else if (lcmpW q2 q7) = (0 : Int32) then (if (cmpValue (FP.dcmp d1 d8) .l) = (0 : Int32) then (1 : Int32)
    else (0 : Int32))
  else if p9 = (0 : Int32) then (if (cmpValue (FP.dcmp d1 d1) .l) = (0 : Int32) then (0 : Int32)
    else (1 : Int32))
  else if (lcmpW q2 q10) = (0 : Int32) then (if (cmpValue (FP.dcmp d1 d11) .l) = (0 : Int32) then (1 : Int32)
    else (0 : Int32))
  else if (cmpValue (FP.dcmp d1 d1) .l) = (0 : Int32) then (0 : Int32)
  else (1 : Int32)
def Q8 (Z : State) (d1 : UInt64) (q2 : Int64) (p3 : Int32) (q4 : Int64) (d5 : UInt64) (p6 : Int32) (q7 : Int64) (d8 : UInt64) (p9 : Int32) (q10 : Int64) (d11 : UInt64) (h0 : Heap) (n0 : Nat) (v : Option Value) (h : Heap) (L : List Loc) : Prop := v = some (.int (own_f8 d1 q2 p3 q4 d5 p6 q7 d8 p9 q10 d11)) ∧ Fr n0 L ∧ h = h0
set_option maxRecDepth 65536 in
set_option maxHeartbeats 40000000 in
theorem rm8 (l : Launch) (Z : State) (a0 : Array Value) (hw : ∀ d ∈ tables_1, d.before a0 Z = true) (ws : List Jvm.Cond) (d1 : UInt64) (q2 : Int64) (p3 : Int32) (q4 : Int64) (d5 : UInt64) (p6 : Int32) (q7 : Int64) (d8 : UInt64) (p9 : Int32) (q10 : Int64) (d11 : UInt64) (h0 : Heap) (n0 : Nat) (Z0 : n0 ≤ h0.size) :
    MetFree l (⟨"com/example/outis/outis/clustering/KeptChargesGetPinLaw", "check", "(DJZJDZJDZJD)Z"⟩ : MethodName) (head1 (Jvm.Cond.code (⟨"com/example/outis/outis/clustering/KeptChargesGetPinLaw", "check", "(DJZJDZJDZJD)Z"⟩ : MethodName) method_3_code 19 (some .boolean) :: ws) ({ frames := 0, cells := 0, slots := 0, locals := 0 } : Room)) (fun a U => a = #[(.double d1), (.long q2), (.int p3), (.long q4), (.double d5), (.int p6), (.long q7), (.double d8), (.int p9), (.long q10), (.double d11)] ∧ Z.Warmed39 U.vm ∧ U.heap = h0) (fun _ _ _ _ _ => True) (fun _ U o U' => ∃ v L, o = .returned v ∧ Q8 Z d1 q2 p3 q4 d5 p6 q7 d8 p9 q10 d11 h0 n0 v U'.heap L ∧ FrameEnd U o U' L ({ frames := 0, cells := 0, slots := 0, locals := 0 } : Room).cells ({ frames := 0, cells := 0, slots := 0, locals := 0 } : Room).slots) := by
  refine MetFree.of_bodySF (plainFor_of_name pn_8) hisR ?_
  intro p e s m args below meth c s₁ Bd hml0 hP hK
  obtain ⟨rfl, hZ, hh⟩ := hP
  have hx := Bd.exec
  have hby := Bd.bytes
  have hml : c.maxLocals = 19 := hml0
  have hown : s.vm.findClass "com/example/outis/outis/clustering/KeptChargesGetPinLaw" = some m.cls := findClass_of_methodNamed Bd.named
  have hnm := (name_of_methodNamed Bd.named Bd.method).1
  have X0 : Stand p l e ({ frames := 0, cells := 0, slots := 0, locals := 0 } : Room) s m #[(.double d1), (.long q2), (.int p3), (.long q4), (.double d5), (.int p6), (.long q7), (.double d8), (.int p9), (.long q10), (.double d11)] below meth c s₁ [] 0 0 := Stand.of_body Bd
  have e0 : s₁.heap = h0 := by rw [← hh, Bd.state]; rfl
  have N0 := Fr.nil n0
  show own_Go p.tables e below (own_Fin below s (Q8 Z d1 q2 p3 q4 d5 p6 q7 d8 p9 q10 d11 h0 n0) ({ frames := 0, cells := 0, slots := 0, locals := 0 } : Room).cells ({ frames := 0, cells := 0, slots := 0, locals := 0 } : Room).slots) (s₁.setTop (entryFrame m #[(.double d1), (.long q2), (.int p3), (.long q4), (.double d5), (.int p6), (.long q7), (.double d8), (.int p9), (.long q10), (.double d11)] 19))
  refine own_go (S' := s₁.setTop (mkF m 0 #[.val (.double d1), .second, .val (.long q2), .second, .val (.int p3), .val (.long q4), .second, .val (.double d5), .second, .val (.int p6), .val (.long q7), .second, .val (.double d8), .second, .val (.int p9), .val (.long q10), .second, .val (.double d11), .second] [])) (fun t k => castTop (ef_8 m d1 q2 p3 q4 d5 p6 q7 d8 p9 q10 d11) k) ?_
  show own_Go p.tables e below _ (s₁.setTop (mkF m 0 #[.val (.double d1), .second, .val (.long q2), .second, .val (.int p3), .val (.long q4), .second, .val (.double d5), .second, .val (.int p6), .val (.long q7), .second, .val (.double d8), .second, .val (.int p9), .val (.long q10), .second, .val (.double d11), .second] []))
  refine own_go (fun _ => XS.iload X0.here hx rfl (hb hby d8_0) rfl) ?_
  show own_Go p.tables e below _ (s₁.setTop (mkF m 2 #[.val (.double d1), .second, .val (.long q2), .second, .val (.int p3), .val (.long q4), .second, .val (.double d5), .second, .val (.int p6), .val (.long q7), .second, .val (.double d8), .second, .val (.int p9), .val (.long q10), .second, .val (.double d11), .second] [(.int p3)]))
  by_cases hc12_2 : p3 = (0 : Int32)
  · skip
    refine own_go (fun _ => XS.ifYes X0.here hx rfl (pc0 := 2) (pc' := 25) rfl (hb hby d8_2) rfl ((if0 _ _).trans (teq hc12_2).1) (by decide) (by decide)) ?_
    show own_Go p.tables e below _ (s₁.setTop (mkF m 25 #[.val (.double d1), .second, .val (.long q2), .second, .val (.int p3), .val (.long q4), .second, .val (.double d5), .second, .val (.int p6), .val (.long q7), .second, .val (.double d8), .second, .val (.int p9), .val (.long q10), .second, .val (.double d11), .second] []))
    refine own_go (fun _ => XS.iload X0.here hx rfl (hb hby d8_25) rfl) ?_
    show own_Go p.tables e below _ (s₁.setTop (mkF m 27 #[.val (.double d1), .second, .val (.long q2), .second, .val (.int p3), .val (.long q4), .second, .val (.double d5), .second, .val (.int p6), .val (.long q7), .second, .val (.double d8), .second, .val (.int p9), .val (.long q10), .second, .val (.double d11), .second] [(.int p6)]))
    by_cases hc13_27 : p6 = (0 : Int32)
    · skip
      refine own_go (fun _ => XS.ifYes X0.here hx rfl (pc0 := 27) (pc' := 50) rfl (hb hby d8_27) rfl ((if0 _ _).trans (teq hc13_27).1) (by decide) (by decide)) ?_
      show own_Go p.tables e below _ (s₁.setTop (mkF m 50 #[.val (.double d1), .second, .val (.long q2), .second, .val (.int p3), .val (.long q4), .second, .val (.double d5), .second, .val (.int p6), .val (.long q7), .second, .val (.double d8), .second, .val (.int p9), .val (.long q10), .second, .val (.double d11), .second] []))
      refine own_go (fun _ => XS.iload X0.here hx rfl (hb hby d8_50) rfl) ?_
      show own_Go p.tables e below _ (s₁.setTop (mkF m 52 #[.val (.double d1), .second, .val (.long q2), .second, .val (.int p3), .val (.long q4), .second, .val (.double d5), .second, .val (.int p6), .val (.long q7), .second, .val (.double d8), .second, .val (.int p9), .val (.long q10), .second, .val (.double d11), .second] [(.int p9)]))
      by_cases hc14_52 : p9 = (0 : Int32)
      · skip
        refine own_go (fun _ => XS.ifYes X0.here hx rfl (pc0 := 52) (pc' := 75) rfl (hb hby d8_52) rfl ((if0 _ _).trans (teq hc14_52).1) (by decide) (by decide)) ?_
        show own_Go p.tables e below _ (s₁.setTop (mkF m 75 #[.val (.double d1), .second, .val (.long q2), .second, .val (.int p3), .val (.long q4), .second, .val (.double d5), .second, .val (.int p6), .val (.long q7), .second, .val (.double d8), .second, .val (.int p9), .val (.long q10), .second, .val (.double d11), .second] []))
        refine own_go (fun _ => XS.dloadN X0.here hx rfl (hb hby d8_75) rfl) ?_
        show own_Go p.tables e below _ (s₁.setTop (mkF m 76 #[.val (.double d1), .second, .val (.long q2), .second, .val (.int p3), .val (.long q4), .second, .val (.double d5), .second, .val (.int p6), .val (.long q7), .second, .val (.double d8), .second, .val (.int p9), .val (.long q10), .second, .val (.double d11), .second] [(.double d1)]))
        refine own_go (fun _ => XS.dloadN X0.here hx rfl (hb hby d8_76) rfl) ?_
        show own_Go p.tables e below _ (s₁.setTop (mkF m 77 #[.val (.double d1), .second, .val (.long q2), .second, .val (.int p3), .val (.long q4), .second, .val (.double d5), .second, .val (.int p6), .val (.long q7), .second, .val (.double d8), .second, .val (.int p9), .val (.long q10), .second, .val (.double d11), .second] [(.double d1), (.double d1)]))
        refine own_go (fun _ => XS.dcmpS X0.here hx rfl (hb hby d8_77) rfl rfl) ?_
        show own_Go p.tables e below _ (s₁.setTop (mkF m 78 #[.val (.double d1), .second, .val (.long q2), .second, .val (.int p3), .val (.long q4), .second, .val (.double d5), .second, .val (.int p6), .val (.long q7), .second, .val (.double d8), .second, .val (.int p9), .val (.long q10), .second, .val (.double d11), .second] [(.int (cmpValue (FP.dcmp d1 d1) .l))]))
        by_cases hc15_78 : (cmpValue (FP.dcmp d1 d1) .l) = (0 : Int32)
        · skip
          refine own_go (fun _ => XS.ifYes X0.here hx rfl (pc0 := 78) (pc' := 85) rfl (hb hby d8_78) rfl ((if0 _ _).trans (teq hc15_78).1) (by decide) (by decide)) ?_
          show own_Go p.tables e below _ (s₁.setTop (mkF m 85 #[.val (.double d1), .second, .val (.long q2), .second, .val (.int p3), .val (.long q4), .second, .val (.double d5), .second, .val (.int p6), .val (.long q7), .second, .val (.double d8), .second, .val (.int p9), .val (.long q10), .second, .val (.double d11), .second] []))
          refine own_go (fun _ => XS.iconst X0.here hx rfl (hb hby d8_85)) ?_
          show own_Go p.tables e below _ (s₁.setTop (mkF m 86 #[.val (.double d1), .second, .val (.long q2), .second, .val (.int p3), .val (.long q4), .second, .val (.double d5), .second, .val (.int p6), .val (.long q7), .second, .val (.double d8), .second, .val (.int p9), .val (.long q10), .second, .val (.double d11), .second] [(.int (0 : Int32))]))
          refine own_retN X0 Bd.notSynchronized hx (t := .boolean) Bd.returns (by simp) (hb hby d8_86) (show Q8 Z d1 q2 p3 q4 d5 p6 q7 d8 p9 q10 d11 h0 n0 _ s₁.heap _ from by rw [e0]; exact ⟨(own_val ((if_pos hc12_2).trans ((if_pos hc13_27).trans ((if_pos hc14_52).trans ((if_pos hc15_78).trans rfl))))), N0, rfl⟩) (by decide) (by decide)
        · skip
          refine own_go (fun _ => XS.ifNo X0.here hx rfl (hb hby d8_78) rfl ((if0 _ _).trans (feq hc15_78).1)) ?_
          show own_Go p.tables e below _ (s₁.setTop (mkF m 81 #[.val (.double d1), .second, .val (.long q2), .second, .val (.int p3), .val (.long q4), .second, .val (.double d5), .second, .val (.int p6), .val (.long q7), .second, .val (.double d8), .second, .val (.int p9), .val (.long q10), .second, .val (.double d11), .second] []))
          refine own_go (fun _ => XS.iconst X0.here hx rfl (hb hby d8_81)) ?_
          show own_Go p.tables e below _ (s₁.setTop (mkF m 82 #[.val (.double d1), .second, .val (.long q2), .second, .val (.int p3), .val (.long q4), .second, .val (.double d5), .second, .val (.int p6), .val (.long q7), .second, .val (.double d8), .second, .val (.int p9), .val (.long q10), .second, .val (.double d11), .second] [(.int (1 : Int32))]))
          refine own_go (fun _ => XS.goto X0.here hx rfl (pc0 := 82) (pc' := 86) rfl (hb hby d8_82) (by decide) (by decide)) ?_
          show own_Go p.tables e below _ (s₁.setTop (mkF m 86 #[.val (.double d1), .second, .val (.long q2), .second, .val (.int p3), .val (.long q4), .second, .val (.double d5), .second, .val (.int p6), .val (.long q7), .second, .val (.double d8), .second, .val (.int p9), .val (.long q10), .second, .val (.double d11), .second] [(.int (1 : Int32))]))
          refine own_retN X0 Bd.notSynchronized hx (t := .boolean) Bd.returns (by simp) (hb hby d8_86) (show Q8 Z d1 q2 p3 q4 d5 p6 q7 d8 p9 q10 d11 h0 n0 _ s₁.heap _ from by rw [e0]; exact ⟨(own_val ((if_pos hc12_2).trans ((if_pos hc13_27).trans ((if_pos hc14_52).trans ((if_neg hc15_78).trans rfl))))), N0, rfl⟩) (by decide) (by decide)
      · skip
        refine own_go (fun _ => XS.ifNo X0.here hx rfl (hb hby d8_52) rfl ((if0 _ _).trans (feq hc14_52).1)) ?_
        show own_Go p.tables e below _ (s₁.setTop (mkF m 55 #[.val (.double d1), .second, .val (.long q2), .second, .val (.int p3), .val (.long q4), .second, .val (.double d5), .second, .val (.int p6), .val (.long q7), .second, .val (.double d8), .second, .val (.int p9), .val (.long q10), .second, .val (.double d11), .second] []))
        refine own_go (fun _ => XS.lloadN X0.here hx rfl (hb hby d8_55) rfl) ?_
        show own_Go p.tables e below _ (s₁.setTop (mkF m 56 #[.val (.double d1), .second, .val (.long q2), .second, .val (.int p3), .val (.long q4), .second, .val (.double d5), .second, .val (.int p6), .val (.long q7), .second, .val (.double d8), .second, .val (.int p9), .val (.long q10), .second, .val (.double d11), .second] [(.long q2)]))
        refine own_go (fun _ => XS.lload X0.here hx rfl (hb hby d8_56) rfl) ?_
        show own_Go p.tables e below _ (s₁.setTop (mkF m 58 #[.val (.double d1), .second, .val (.long q2), .second, .val (.int p3), .val (.long q4), .second, .val (.double d5), .second, .val (.int p6), .val (.long q7), .second, .val (.double d8), .second, .val (.int p9), .val (.long q10), .second, .val (.double d11), .second] [(.long q10), (.long q2)]))
        refine own_go (fun _ => XS.lcmp X0.here hx rfl (hb hby d8_58) rfl) ?_
        show own_Go p.tables e below _ (s₁.setTop (mkF m 59 #[.val (.double d1), .second, .val (.long q2), .second, .val (.int p3), .val (.long q4), .second, .val (.double d5), .second, .val (.int p6), .val (.long q7), .second, .val (.double d8), .second, .val (.int p9), .val (.long q10), .second, .val (.double d11), .second] [(.int (lcmpW q2 q10))]))
        by_cases hc16_59 : (lcmpW q2 q10) = (0 : Int32)
        · skip
          refine own_go (fun _ => XS.ifNo X0.here hx rfl (hb hby d8_59) rfl ((if0 _ _).trans (teq hc16_59).2)) ?_
          show own_Go p.tables e below _ (s₁.setTop (mkF m 62 #[.val (.double d1), .second, .val (.long q2), .second, .val (.int p3), .val (.long q4), .second, .val (.double d5), .second, .val (.int p6), .val (.long q7), .second, .val (.double d8), .second, .val (.int p9), .val (.long q10), .second, .val (.double d11), .second] []))
          refine own_go (fun _ => XS.dloadN X0.here hx rfl (hb hby d8_62) rfl) ?_
          show own_Go p.tables e below _ (s₁.setTop (mkF m 63 #[.val (.double d1), .second, .val (.long q2), .second, .val (.int p3), .val (.long q4), .second, .val (.double d5), .second, .val (.int p6), .val (.long q7), .second, .val (.double d8), .second, .val (.int p9), .val (.long q10), .second, .val (.double d11), .second] [(.double d1)]))
          refine own_go (fun _ => XS.dload X0.here hx rfl (hb hby d8_63) rfl) ?_
          show own_Go p.tables e below _ (s₁.setTop (mkF m 65 #[.val (.double d1), .second, .val (.long q2), .second, .val (.int p3), .val (.long q4), .second, .val (.double d5), .second, .val (.int p6), .val (.long q7), .second, .val (.double d8), .second, .val (.int p9), .val (.long q10), .second, .val (.double d11), .second] [(.double d11), (.double d1)]))
          refine own_go (fun _ => XS.dcmpS X0.here hx rfl (hb hby d8_65) rfl rfl) ?_
          show own_Go p.tables e below _ (s₁.setTop (mkF m 66 #[.val (.double d1), .second, .val (.long q2), .second, .val (.int p3), .val (.long q4), .second, .val (.double d5), .second, .val (.int p6), .val (.long q7), .second, .val (.double d8), .second, .val (.int p9), .val (.long q10), .second, .val (.double d11), .second] [(.int (cmpValue (FP.dcmp d1 d11) .l))]))
          by_cases hc17_66 : (cmpValue (FP.dcmp d1 d11) .l) = (0 : Int32)
          · skip
            refine own_go (fun _ => XS.ifNo X0.here hx rfl (hb hby d8_66) rfl ((if0 _ _).trans (teq hc17_66).2)) ?_
            show own_Go p.tables e below _ (s₁.setTop (mkF m 69 #[.val (.double d1), .second, .val (.long q2), .second, .val (.int p3), .val (.long q4), .second, .val (.double d5), .second, .val (.int p6), .val (.long q7), .second, .val (.double d8), .second, .val (.int p9), .val (.long q10), .second, .val (.double d11), .second] []))
            refine own_go (fun _ => XS.iconst X0.here hx rfl (hb hby d8_69)) ?_
            show own_Go p.tables e below _ (s₁.setTop (mkF m 70 #[.val (.double d1), .second, .val (.long q2), .second, .val (.int p3), .val (.long q4), .second, .val (.double d5), .second, .val (.int p6), .val (.long q7), .second, .val (.double d8), .second, .val (.int p9), .val (.long q10), .second, .val (.double d11), .second] [(.int (1 : Int32))]))
            refine own_go (fun _ => XS.goto X0.here hx rfl (pc0 := 70) (pc' := 74) rfl (hb hby d8_70) (by decide) (by decide)) ?_
            show own_Go p.tables e below _ (s₁.setTop (mkF m 74 #[.val (.double d1), .second, .val (.long q2), .second, .val (.int p3), .val (.long q4), .second, .val (.double d5), .second, .val (.int p6), .val (.long q7), .second, .val (.double d8), .second, .val (.int p9), .val (.long q10), .second, .val (.double d11), .second] [(.int (1 : Int32))]))
            refine own_retN X0 Bd.notSynchronized hx (t := .boolean) Bd.returns (by simp) (hb hby d8_74) (show Q8 Z d1 q2 p3 q4 d5 p6 q7 d8 p9 q10 d11 h0 n0 _ s₁.heap _ from by rw [e0]; exact ⟨(own_val ((if_pos hc12_2).trans ((if_pos hc13_27).trans ((if_neg hc14_52).trans ((if_pos hc16_59).trans ((if_pos hc17_66).trans rfl)))))), N0, rfl⟩) (by decide) (by decide)
          · skip
            refine own_go (fun _ => XS.ifYes X0.here hx rfl (pc0 := 66) (pc' := 73) rfl (hb hby d8_66) rfl ((if0 _ _).trans (feq hc17_66).2) (by decide) (by decide)) ?_
            show own_Go p.tables e below _ (s₁.setTop (mkF m 73 #[.val (.double d1), .second, .val (.long q2), .second, .val (.int p3), .val (.long q4), .second, .val (.double d5), .second, .val (.int p6), .val (.long q7), .second, .val (.double d8), .second, .val (.int p9), .val (.long q10), .second, .val (.double d11), .second] []))
            refine own_go (fun _ => XS.iconst X0.here hx rfl (hb hby d8_73)) ?_
            show own_Go p.tables e below _ (s₁.setTop (mkF m 74 #[.val (.double d1), .second, .val (.long q2), .second, .val (.int p3), .val (.long q4), .second, .val (.double d5), .second, .val (.int p6), .val (.long q7), .second, .val (.double d8), .second, .val (.int p9), .val (.long q10), .second, .val (.double d11), .second] [(.int (0 : Int32))]))
            refine own_retN X0 Bd.notSynchronized hx (t := .boolean) Bd.returns (by simp) (hb hby d8_74) (show Q8 Z d1 q2 p3 q4 d5 p6 q7 d8 p9 q10 d11 h0 n0 _ s₁.heap _ from by rw [e0]; exact ⟨(own_val ((if_pos hc12_2).trans ((if_pos hc13_27).trans ((if_neg hc14_52).trans ((if_pos hc16_59).trans ((if_neg hc17_66).trans rfl)))))), N0, rfl⟩) (by decide) (by decide)
        · skip
          refine own_go (fun _ => XS.ifYes X0.here hx rfl (pc0 := 59) (pc' := 75) rfl (hb hby d8_59) rfl ((if0 _ _).trans (feq hc16_59).2) (by decide) (by decide)) ?_
          show own_Go p.tables e below _ (s₁.setTop (mkF m 75 #[.val (.double d1), .second, .val (.long q2), .second, .val (.int p3), .val (.long q4), .second, .val (.double d5), .second, .val (.int p6), .val (.long q7), .second, .val (.double d8), .second, .val (.int p9), .val (.long q10), .second, .val (.double d11), .second] []))
          refine own_go (fun _ => XS.dloadN X0.here hx rfl (hb hby d8_75) rfl) ?_
          show own_Go p.tables e below _ (s₁.setTop (mkF m 76 #[.val (.double d1), .second, .val (.long q2), .second, .val (.int p3), .val (.long q4), .second, .val (.double d5), .second, .val (.int p6), .val (.long q7), .second, .val (.double d8), .second, .val (.int p9), .val (.long q10), .second, .val (.double d11), .second] [(.double d1)]))
          refine own_go (fun _ => XS.dloadN X0.here hx rfl (hb hby d8_76) rfl) ?_
          show own_Go p.tables e below _ (s₁.setTop (mkF m 77 #[.val (.double d1), .second, .val (.long q2), .second, .val (.int p3), .val (.long q4), .second, .val (.double d5), .second, .val (.int p6), .val (.long q7), .second, .val (.double d8), .second, .val (.int p9), .val (.long q10), .second, .val (.double d11), .second] [(.double d1), (.double d1)]))
          refine own_go (fun _ => XS.dcmpS X0.here hx rfl (hb hby d8_77) rfl rfl) ?_
          show own_Go p.tables e below _ (s₁.setTop (mkF m 78 #[.val (.double d1), .second, .val (.long q2), .second, .val (.int p3), .val (.long q4), .second, .val (.double d5), .second, .val (.int p6), .val (.long q7), .second, .val (.double d8), .second, .val (.int p9), .val (.long q10), .second, .val (.double d11), .second] [(.int (cmpValue (FP.dcmp d1 d1) .l))]))
          by_cases hc18_78 : (cmpValue (FP.dcmp d1 d1) .l) = (0 : Int32)
          · skip
            refine own_go (fun _ => XS.ifYes X0.here hx rfl (pc0 := 78) (pc' := 85) rfl (hb hby d8_78) rfl ((if0 _ _).trans (teq hc18_78).1) (by decide) (by decide)) ?_
            show own_Go p.tables e below _ (s₁.setTop (mkF m 85 #[.val (.double d1), .second, .val (.long q2), .second, .val (.int p3), .val (.long q4), .second, .val (.double d5), .second, .val (.int p6), .val (.long q7), .second, .val (.double d8), .second, .val (.int p9), .val (.long q10), .second, .val (.double d11), .second] []))
            refine own_go (fun _ => XS.iconst X0.here hx rfl (hb hby d8_85)) ?_
            show own_Go p.tables e below _ (s₁.setTop (mkF m 86 #[.val (.double d1), .second, .val (.long q2), .second, .val (.int p3), .val (.long q4), .second, .val (.double d5), .second, .val (.int p6), .val (.long q7), .second, .val (.double d8), .second, .val (.int p9), .val (.long q10), .second, .val (.double d11), .second] [(.int (0 : Int32))]))
            refine own_retN X0 Bd.notSynchronized hx (t := .boolean) Bd.returns (by simp) (hb hby d8_86) (show Q8 Z d1 q2 p3 q4 d5 p6 q7 d8 p9 q10 d11 h0 n0 _ s₁.heap _ from by rw [e0]; exact ⟨(own_val ((if_pos hc12_2).trans ((if_pos hc13_27).trans ((if_neg hc14_52).trans ((if_neg hc16_59).trans ((if_pos hc18_78).trans rfl)))))), N0, rfl⟩) (by decide) (by decide)
          · skip
            refine own_go (fun _ => XS.ifNo X0.here hx rfl (hb hby d8_78) rfl ((if0 _ _).trans (feq hc18_78).1)) ?_
            show own_Go p.tables e below _ (s₁.setTop (mkF m 81 #[.val (.double d1), .second, .val (.long q2), .second, .val (.int p3), .val (.long q4), .second, .val (.double d5), .second, .val (.int p6), .val (.long q7), .second, .val (.double d8), .second, .val (.int p9), .val (.long q10), .second, .val (.double d11), .second] []))
            refine own_go (fun _ => XS.iconst X0.here hx rfl (hb hby d8_81)) ?_
            show own_Go p.tables e below _ (s₁.setTop (mkF m 82 #[.val (.double d1), .second, .val (.long q2), .second, .val (.int p3), .val (.long q4), .second, .val (.double d5), .second, .val (.int p6), .val (.long q7), .second, .val (.double d8), .second, .val (.int p9), .val (.long q10), .second, .val (.double d11), .second] [(.int (1 : Int32))]))
            refine own_go (fun _ => XS.goto X0.here hx rfl (pc0 := 82) (pc' := 86) rfl (hb hby d8_82) (by decide) (by decide)) ?_
            show own_Go p.tables e below _ (s₁.setTop (mkF m 86 #[.val (.double d1), .second, .val (.long q2), .second, .val (.int p3), .val (.long q4), .second, .val (.double d5), .second, .val (.int p6), .val (.long q7), .second, .val (.double d8), .second, .val (.int p9), .val (.long q10), .second, .val (.double d11), .second] [(.int (1 : Int32))]))
            refine own_retN X0 Bd.notSynchronized hx (t := .boolean) Bd.returns (by simp) (hb hby d8_86) (show Q8 Z d1 q2 p3 q4 d5 p6 q7 d8 p9 q10 d11 h0 n0 _ s₁.heap _ from by rw [e0]; exact ⟨(own_val ((if_pos hc12_2).trans ((if_pos hc13_27).trans ((if_neg hc14_52).trans ((if_neg hc16_59).trans ((if_neg hc18_78).trans rfl)))))), N0, rfl⟩) (by decide) (by decide)
    · skip
      refine own_go (fun _ => XS.ifNo X0.here hx rfl (hb hby d8_27) rfl ((if0 _ _).trans (feq hc13_27).1)) ?_
      show own_Go p.tables e below _ (s₁.setTop (mkF m 30 #[.val (.double d1), .second, .val (.long q2), .second, .val (.int p3), .val (.long q4), .second, .val (.double d5), .second, .val (.int p6), .val (.long q7), .second, .val (.double d8), .second, .val (.int p9), .val (.long q10), .second, .val (.double d11), .second] []))
      refine own_go (fun _ => XS.lloadN X0.here hx rfl (hb hby d8_30) rfl) ?_
      show own_Go p.tables e below _ (s₁.setTop (mkF m 31 #[.val (.double d1), .second, .val (.long q2), .second, .val (.int p3), .val (.long q4), .second, .val (.double d5), .second, .val (.int p6), .val (.long q7), .second, .val (.double d8), .second, .val (.int p9), .val (.long q10), .second, .val (.double d11), .second] [(.long q2)]))
      refine own_go (fun _ => XS.lload X0.here hx rfl (hb hby d8_31) rfl) ?_
      show own_Go p.tables e below _ (s₁.setTop (mkF m 33 #[.val (.double d1), .second, .val (.long q2), .second, .val (.int p3), .val (.long q4), .second, .val (.double d5), .second, .val (.int p6), .val (.long q7), .second, .val (.double d8), .second, .val (.int p9), .val (.long q10), .second, .val (.double d11), .second] [(.long q7), (.long q2)]))
      refine own_go (fun _ => XS.lcmp X0.here hx rfl (hb hby d8_33) rfl) ?_
      show own_Go p.tables e below _ (s₁.setTop (mkF m 34 #[.val (.double d1), .second, .val (.long q2), .second, .val (.int p3), .val (.long q4), .second, .val (.double d5), .second, .val (.int p6), .val (.long q7), .second, .val (.double d8), .second, .val (.int p9), .val (.long q10), .second, .val (.double d11), .second] [(.int (lcmpW q2 q7))]))
      by_cases hc19_34 : (lcmpW q2 q7) = (0 : Int32)
      · skip
        refine own_go (fun _ => XS.ifNo X0.here hx rfl (hb hby d8_34) rfl ((if0 _ _).trans (teq hc19_34).2)) ?_
        show own_Go p.tables e below _ (s₁.setTop (mkF m 37 #[.val (.double d1), .second, .val (.long q2), .second, .val (.int p3), .val (.long q4), .second, .val (.double d5), .second, .val (.int p6), .val (.long q7), .second, .val (.double d8), .second, .val (.int p9), .val (.long q10), .second, .val (.double d11), .second] []))
        refine own_go (fun _ => XS.dloadN X0.here hx rfl (hb hby d8_37) rfl) ?_
        show own_Go p.tables e below _ (s₁.setTop (mkF m 38 #[.val (.double d1), .second, .val (.long q2), .second, .val (.int p3), .val (.long q4), .second, .val (.double d5), .second, .val (.int p6), .val (.long q7), .second, .val (.double d8), .second, .val (.int p9), .val (.long q10), .second, .val (.double d11), .second] [(.double d1)]))
        refine own_go (fun _ => XS.dload X0.here hx rfl (hb hby d8_38) rfl) ?_
        show own_Go p.tables e below _ (s₁.setTop (mkF m 40 #[.val (.double d1), .second, .val (.long q2), .second, .val (.int p3), .val (.long q4), .second, .val (.double d5), .second, .val (.int p6), .val (.long q7), .second, .val (.double d8), .second, .val (.int p9), .val (.long q10), .second, .val (.double d11), .second] [(.double d8), (.double d1)]))
        refine own_go (fun _ => XS.dcmpS X0.here hx rfl (hb hby d8_40) rfl rfl) ?_
        show own_Go p.tables e below _ (s₁.setTop (mkF m 41 #[.val (.double d1), .second, .val (.long q2), .second, .val (.int p3), .val (.long q4), .second, .val (.double d5), .second, .val (.int p6), .val (.long q7), .second, .val (.double d8), .second, .val (.int p9), .val (.long q10), .second, .val (.double d11), .second] [(.int (cmpValue (FP.dcmp d1 d8) .l))]))
        by_cases hc20_41 : (cmpValue (FP.dcmp d1 d8) .l) = (0 : Int32)
        · skip
          refine own_go (fun _ => XS.ifNo X0.here hx rfl (hb hby d8_41) rfl ((if0 _ _).trans (teq hc20_41).2)) ?_
          show own_Go p.tables e below _ (s₁.setTop (mkF m 44 #[.val (.double d1), .second, .val (.long q2), .second, .val (.int p3), .val (.long q4), .second, .val (.double d5), .second, .val (.int p6), .val (.long q7), .second, .val (.double d8), .second, .val (.int p9), .val (.long q10), .second, .val (.double d11), .second] []))
          refine own_go (fun _ => XS.iconst X0.here hx rfl (hb hby d8_44)) ?_
          show own_Go p.tables e below _ (s₁.setTop (mkF m 45 #[.val (.double d1), .second, .val (.long q2), .second, .val (.int p3), .val (.long q4), .second, .val (.double d5), .second, .val (.int p6), .val (.long q7), .second, .val (.double d8), .second, .val (.int p9), .val (.long q10), .second, .val (.double d11), .second] [(.int (1 : Int32))]))
          refine own_go (fun _ => XS.goto X0.here hx rfl (pc0 := 45) (pc' := 49) rfl (hb hby d8_45) (by decide) (by decide)) ?_
          show own_Go p.tables e below _ (s₁.setTop (mkF m 49 #[.val (.double d1), .second, .val (.long q2), .second, .val (.int p3), .val (.long q4), .second, .val (.double d5), .second, .val (.int p6), .val (.long q7), .second, .val (.double d8), .second, .val (.int p9), .val (.long q10), .second, .val (.double d11), .second] [(.int (1 : Int32))]))
          refine own_retN X0 Bd.notSynchronized hx (t := .boolean) Bd.returns (by simp) (hb hby d8_49) (show Q8 Z d1 q2 p3 q4 d5 p6 q7 d8 p9 q10 d11 h0 n0 _ s₁.heap _ from by rw [e0]; exact ⟨(own_val ((if_pos hc12_2).trans ((if_neg hc13_27).trans ((if_pos hc19_34).trans ((if_pos hc20_41).trans rfl))))), N0, rfl⟩) (by decide) (by decide)
        · skip
          refine own_go (fun _ => XS.ifYes X0.here hx rfl (pc0 := 41) (pc' := 48) rfl (hb hby d8_41) rfl ((if0 _ _).trans (feq hc20_41).2) (by decide) (by decide)) ?_
          show own_Go p.tables e below _ (s₁.setTop (mkF m 48 #[.val (.double d1), .second, .val (.long q2), .second, .val (.int p3), .val (.long q4), .second, .val (.double d5), .second, .val (.int p6), .val (.long q7), .second, .val (.double d8), .second, .val (.int p9), .val (.long q10), .second, .val (.double d11), .second] []))
          refine own_go (fun _ => XS.iconst X0.here hx rfl (hb hby d8_48)) ?_
          show own_Go p.tables e below _ (s₁.setTop (mkF m 49 #[.val (.double d1), .second, .val (.long q2), .second, .val (.int p3), .val (.long q4), .second, .val (.double d5), .second, .val (.int p6), .val (.long q7), .second, .val (.double d8), .second, .val (.int p9), .val (.long q10), .second, .val (.double d11), .second] [(.int (0 : Int32))]))
          refine own_retN X0 Bd.notSynchronized hx (t := .boolean) Bd.returns (by simp) (hb hby d8_49) (show Q8 Z d1 q2 p3 q4 d5 p6 q7 d8 p9 q10 d11 h0 n0 _ s₁.heap _ from by rw [e0]; exact ⟨(own_val ((if_pos hc12_2).trans ((if_neg hc13_27).trans ((if_pos hc19_34).trans ((if_neg hc20_41).trans rfl))))), N0, rfl⟩) (by decide) (by decide)
      · skip
        refine own_go (fun _ => XS.ifYes X0.here hx rfl (pc0 := 34) (pc' := 50) rfl (hb hby d8_34) rfl ((if0 _ _).trans (feq hc19_34).2) (by decide) (by decide)) ?_
        show own_Go p.tables e below _ (s₁.setTop (mkF m 50 #[.val (.double d1), .second, .val (.long q2), .second, .val (.int p3), .val (.long q4), .second, .val (.double d5), .second, .val (.int p6), .val (.long q7), .second, .val (.double d8), .second, .val (.int p9), .val (.long q10), .second, .val (.double d11), .second] []))
        refine own_go (fun _ => XS.iload X0.here hx rfl (hb hby d8_50) rfl) ?_
        show own_Go p.tables e below _ (s₁.setTop (mkF m 52 #[.val (.double d1), .second, .val (.long q2), .second, .val (.int p3), .val (.long q4), .second, .val (.double d5), .second, .val (.int p6), .val (.long q7), .second, .val (.double d8), .second, .val (.int p9), .val (.long q10), .second, .val (.double d11), .second] [(.int p9)]))
        by_cases hc21_52 : p9 = (0 : Int32)
        · skip
          refine own_go (fun _ => XS.ifYes X0.here hx rfl (pc0 := 52) (pc' := 75) rfl (hb hby d8_52) rfl ((if0 _ _).trans (teq hc21_52).1) (by decide) (by decide)) ?_
          show own_Go p.tables e below _ (s₁.setTop (mkF m 75 #[.val (.double d1), .second, .val (.long q2), .second, .val (.int p3), .val (.long q4), .second, .val (.double d5), .second, .val (.int p6), .val (.long q7), .second, .val (.double d8), .second, .val (.int p9), .val (.long q10), .second, .val (.double d11), .second] []))
          refine own_go (fun _ => XS.dloadN X0.here hx rfl (hb hby d8_75) rfl) ?_
          show own_Go p.tables e below _ (s₁.setTop (mkF m 76 #[.val (.double d1), .second, .val (.long q2), .second, .val (.int p3), .val (.long q4), .second, .val (.double d5), .second, .val (.int p6), .val (.long q7), .second, .val (.double d8), .second, .val (.int p9), .val (.long q10), .second, .val (.double d11), .second] [(.double d1)]))
          refine own_go (fun _ => XS.dloadN X0.here hx rfl (hb hby d8_76) rfl) ?_
          show own_Go p.tables e below _ (s₁.setTop (mkF m 77 #[.val (.double d1), .second, .val (.long q2), .second, .val (.int p3), .val (.long q4), .second, .val (.double d5), .second, .val (.int p6), .val (.long q7), .second, .val (.double d8), .second, .val (.int p9), .val (.long q10), .second, .val (.double d11), .second] [(.double d1), (.double d1)]))
          refine own_go (fun _ => XS.dcmpS X0.here hx rfl (hb hby d8_77) rfl rfl) ?_
          show own_Go p.tables e below _ (s₁.setTop (mkF m 78 #[.val (.double d1), .second, .val (.long q2), .second, .val (.int p3), .val (.long q4), .second, .val (.double d5), .second, .val (.int p6), .val (.long q7), .second, .val (.double d8), .second, .val (.int p9), .val (.long q10), .second, .val (.double d11), .second] [(.int (cmpValue (FP.dcmp d1 d1) .l))]))
          by_cases hc22_78 : (cmpValue (FP.dcmp d1 d1) .l) = (0 : Int32)
          · skip
            refine own_go (fun _ => XS.ifYes X0.here hx rfl (pc0 := 78) (pc' := 85) rfl (hb hby d8_78) rfl ((if0 _ _).trans (teq hc22_78).1) (by decide) (by decide)) ?_
            show own_Go p.tables e below _ (s₁.setTop (mkF m 85 #[.val (.double d1), .second, .val (.long q2), .second, .val (.int p3), .val (.long q4), .second, .val (.double d5), .second, .val (.int p6), .val (.long q7), .second, .val (.double d8), .second, .val (.int p9), .val (.long q10), .second, .val (.double d11), .second] []))
            refine own_go (fun _ => XS.iconst X0.here hx rfl (hb hby d8_85)) ?_
            show own_Go p.tables e below _ (s₁.setTop (mkF m 86 #[.val (.double d1), .second, .val (.long q2), .second, .val (.int p3), .val (.long q4), .second, .val (.double d5), .second, .val (.int p6), .val (.long q7), .second, .val (.double d8), .second, .val (.int p9), .val (.long q10), .second, .val (.double d11), .second] [(.int (0 : Int32))]))
            refine own_retN X0 Bd.notSynchronized hx (t := .boolean) Bd.returns (by simp) (hb hby d8_86) (show Q8 Z d1 q2 p3 q4 d5 p6 q7 d8 p9 q10 d11 h0 n0 _ s₁.heap _ from by rw [e0]; exact ⟨(own_val ((if_pos hc12_2).trans ((if_neg hc13_27).trans ((if_neg hc19_34).trans ((if_pos hc21_52).trans ((if_pos hc22_78).trans rfl)))))), N0, rfl⟩) (by decide) (by decide)
          · skip
            refine own_go (fun _ => XS.ifNo X0.here hx rfl (hb hby d8_78) rfl ((if0 _ _).trans (feq hc22_78).1)) ?_
            show own_Go p.tables e below _ (s₁.setTop (mkF m 81 #[.val (.double d1), .second, .val (.long q2), .second, .val (.int p3), .val (.long q4), .second, .val (.double d5), .second, .val (.int p6), .val (.long q7), .second, .val (.double d8), .second, .val (.int p9), .val (.long q10), .second, .val (.double d11), .second] []))
            refine own_go (fun _ => XS.iconst X0.here hx rfl (hb hby d8_81)) ?_
            show own_Go p.tables e below _ (s₁.setTop (mkF m 82 #[.val (.double d1), .second, .val (.long q2), .second, .val (.int p3), .val (.long q4), .second, .val (.double d5), .second, .val (.int p6), .val (.long q7), .second, .val (.double d8), .second, .val (.int p9), .val (.long q10), .second, .val (.double d11), .second] [(.int (1 : Int32))]))
            refine own_go (fun _ => XS.goto X0.here hx rfl (pc0 := 82) (pc' := 86) rfl (hb hby d8_82) (by decide) (by decide)) ?_
            show own_Go p.tables e below _ (s₁.setTop (mkF m 86 #[.val (.double d1), .second, .val (.long q2), .second, .val (.int p3), .val (.long q4), .second, .val (.double d5), .second, .val (.int p6), .val (.long q7), .second, .val (.double d8), .second, .val (.int p9), .val (.long q10), .second, .val (.double d11), .second] [(.int (1 : Int32))]))
            refine own_retN X0 Bd.notSynchronized hx (t := .boolean) Bd.returns (by simp) (hb hby d8_86) (show Q8 Z d1 q2 p3 q4 d5 p6 q7 d8 p9 q10 d11 h0 n0 _ s₁.heap _ from by rw [e0]; exact ⟨(own_val ((if_pos hc12_2).trans ((if_neg hc13_27).trans ((if_neg hc19_34).trans ((if_pos hc21_52).trans ((if_neg hc22_78).trans rfl)))))), N0, rfl⟩) (by decide) (by decide)
        · skip
          refine own_go (fun _ => XS.ifNo X0.here hx rfl (hb hby d8_52) rfl ((if0 _ _).trans (feq hc21_52).1)) ?_
          show own_Go p.tables e below _ (s₁.setTop (mkF m 55 #[.val (.double d1), .second, .val (.long q2), .second, .val (.int p3), .val (.long q4), .second, .val (.double d5), .second, .val (.int p6), .val (.long q7), .second, .val (.double d8), .second, .val (.int p9), .val (.long q10), .second, .val (.double d11), .second] []))
          refine own_go (fun _ => XS.lloadN X0.here hx rfl (hb hby d8_55) rfl) ?_
          show own_Go p.tables e below _ (s₁.setTop (mkF m 56 #[.val (.double d1), .second, .val (.long q2), .second, .val (.int p3), .val (.long q4), .second, .val (.double d5), .second, .val (.int p6), .val (.long q7), .second, .val (.double d8), .second, .val (.int p9), .val (.long q10), .second, .val (.double d11), .second] [(.long q2)]))
          refine own_go (fun _ => XS.lload X0.here hx rfl (hb hby d8_56) rfl) ?_
          show own_Go p.tables e below _ (s₁.setTop (mkF m 58 #[.val (.double d1), .second, .val (.long q2), .second, .val (.int p3), .val (.long q4), .second, .val (.double d5), .second, .val (.int p6), .val (.long q7), .second, .val (.double d8), .second, .val (.int p9), .val (.long q10), .second, .val (.double d11), .second] [(.long q10), (.long q2)]))
          refine own_go (fun _ => XS.lcmp X0.here hx rfl (hb hby d8_58) rfl) ?_
          show own_Go p.tables e below _ (s₁.setTop (mkF m 59 #[.val (.double d1), .second, .val (.long q2), .second, .val (.int p3), .val (.long q4), .second, .val (.double d5), .second, .val (.int p6), .val (.long q7), .second, .val (.double d8), .second, .val (.int p9), .val (.long q10), .second, .val (.double d11), .second] [(.int (lcmpW q2 q10))]))
          by_cases hc23_59 : (lcmpW q2 q10) = (0 : Int32)
          · skip
            refine own_go (fun _ => XS.ifNo X0.here hx rfl (hb hby d8_59) rfl ((if0 _ _).trans (teq hc23_59).2)) ?_
            show own_Go p.tables e below _ (s₁.setTop (mkF m 62 #[.val (.double d1), .second, .val (.long q2), .second, .val (.int p3), .val (.long q4), .second, .val (.double d5), .second, .val (.int p6), .val (.long q7), .second, .val (.double d8), .second, .val (.int p9), .val (.long q10), .second, .val (.double d11), .second] []))
            refine own_go (fun _ => XS.dloadN X0.here hx rfl (hb hby d8_62) rfl) ?_
            show own_Go p.tables e below _ (s₁.setTop (mkF m 63 #[.val (.double d1), .second, .val (.long q2), .second, .val (.int p3), .val (.long q4), .second, .val (.double d5), .second, .val (.int p6), .val (.long q7), .second, .val (.double d8), .second, .val (.int p9), .val (.long q10), .second, .val (.double d11), .second] [(.double d1)]))
            refine own_go (fun _ => XS.dload X0.here hx rfl (hb hby d8_63) rfl) ?_
            show own_Go p.tables e below _ (s₁.setTop (mkF m 65 #[.val (.double d1), .second, .val (.long q2), .second, .val (.int p3), .val (.long q4), .second, .val (.double d5), .second, .val (.int p6), .val (.long q7), .second, .val (.double d8), .second, .val (.int p9), .val (.long q10), .second, .val (.double d11), .second] [(.double d11), (.double d1)]))
            refine own_go (fun _ => XS.dcmpS X0.here hx rfl (hb hby d8_65) rfl rfl) ?_
            show own_Go p.tables e below _ (s₁.setTop (mkF m 66 #[.val (.double d1), .second, .val (.long q2), .second, .val (.int p3), .val (.long q4), .second, .val (.double d5), .second, .val (.int p6), .val (.long q7), .second, .val (.double d8), .second, .val (.int p9), .val (.long q10), .second, .val (.double d11), .second] [(.int (cmpValue (FP.dcmp d1 d11) .l))]))
            by_cases hc24_66 : (cmpValue (FP.dcmp d1 d11) .l) = (0 : Int32)
            · skip
              refine own_go (fun _ => XS.ifNo X0.here hx rfl (hb hby d8_66) rfl ((if0 _ _).trans (teq hc24_66).2)) ?_
              show own_Go p.tables e below _ (s₁.setTop (mkF m 69 #[.val (.double d1), .second, .val (.long q2), .second, .val (.int p3), .val (.long q4), .second, .val (.double d5), .second, .val (.int p6), .val (.long q7), .second, .val (.double d8), .second, .val (.int p9), .val (.long q10), .second, .val (.double d11), .second] []))
              refine own_go (fun _ => XS.iconst X0.here hx rfl (hb hby d8_69)) ?_
              show own_Go p.tables e below _ (s₁.setTop (mkF m 70 #[.val (.double d1), .second, .val (.long q2), .second, .val (.int p3), .val (.long q4), .second, .val (.double d5), .second, .val (.int p6), .val (.long q7), .second, .val (.double d8), .second, .val (.int p9), .val (.long q10), .second, .val (.double d11), .second] [(.int (1 : Int32))]))
              refine own_go (fun _ => XS.goto X0.here hx rfl (pc0 := 70) (pc' := 74) rfl (hb hby d8_70) (by decide) (by decide)) ?_
              show own_Go p.tables e below _ (s₁.setTop (mkF m 74 #[.val (.double d1), .second, .val (.long q2), .second, .val (.int p3), .val (.long q4), .second, .val (.double d5), .second, .val (.int p6), .val (.long q7), .second, .val (.double d8), .second, .val (.int p9), .val (.long q10), .second, .val (.double d11), .second] [(.int (1 : Int32))]))
              refine own_retN X0 Bd.notSynchronized hx (t := .boolean) Bd.returns (by simp) (hb hby d8_74) (show Q8 Z d1 q2 p3 q4 d5 p6 q7 d8 p9 q10 d11 h0 n0 _ s₁.heap _ from by rw [e0]; exact ⟨(own_val ((if_pos hc12_2).trans ((if_neg hc13_27).trans ((if_neg hc19_34).trans ((if_neg hc21_52).trans ((if_pos hc23_59).trans ((if_pos hc24_66).trans rfl))))))), N0, rfl⟩) (by decide) (by decide)
            · skip
              refine own_go (fun _ => XS.ifYes X0.here hx rfl (pc0 := 66) (pc' := 73) rfl (hb hby d8_66) rfl ((if0 _ _).trans (feq hc24_66).2) (by decide) (by decide)) ?_
              show own_Go p.tables e below _ (s₁.setTop (mkF m 73 #[.val (.double d1), .second, .val (.long q2), .second, .val (.int p3), .val (.long q4), .second, .val (.double d5), .second, .val (.int p6), .val (.long q7), .second, .val (.double d8), .second, .val (.int p9), .val (.long q10), .second, .val (.double d11), .second] []))
              refine own_go (fun _ => XS.iconst X0.here hx rfl (hb hby d8_73)) ?_
              show own_Go p.tables e below _ (s₁.setTop (mkF m 74 #[.val (.double d1), .second, .val (.long q2), .second, .val (.int p3), .val (.long q4), .second, .val (.double d5), .second, .val (.int p6), .val (.long q7), .second, .val (.double d8), .second, .val (.int p9), .val (.long q10), .second, .val (.double d11), .second] [(.int (0 : Int32))]))
              refine own_retN X0 Bd.notSynchronized hx (t := .boolean) Bd.returns (by simp) (hb hby d8_74) (show Q8 Z d1 q2 p3 q4 d5 p6 q7 d8 p9 q10 d11 h0 n0 _ s₁.heap _ from by rw [e0]; exact ⟨(own_val ((if_pos hc12_2).trans ((if_neg hc13_27).trans ((if_neg hc19_34).trans ((if_neg hc21_52).trans ((if_pos hc23_59).trans ((if_neg hc24_66).trans rfl))))))), N0, rfl⟩) (by decide) (by decide)
          · skip
            refine own_go (fun _ => XS.ifYes X0.here hx rfl (pc0 := 59) (pc' := 75) rfl (hb hby d8_59) rfl ((if0 _ _).trans (feq hc23_59).2) (by decide) (by decide)) ?_
            show own_Go p.tables e below _ (s₁.setTop (mkF m 75 #[.val (.double d1), .second, .val (.long q2), .second, .val (.int p3), .val (.long q4), .second, .val (.double d5), .second, .val (.int p6), .val (.long q7), .second, .val (.double d8), .second, .val (.int p9), .val (.long q10), .second, .val (.double d11), .second] []))
            refine own_go (fun _ => XS.dloadN X0.here hx rfl (hb hby d8_75) rfl) ?_
            show own_Go p.tables e below _ (s₁.setTop (mkF m 76 #[.val (.double d1), .second, .val (.long q2), .second, .val (.int p3), .val (.long q4), .second, .val (.double d5), .second, .val (.int p6), .val (.long q7), .second, .val (.double d8), .second, .val (.int p9), .val (.long q10), .second, .val (.double d11), .second] [(.double d1)]))
            refine own_go (fun _ => XS.dloadN X0.here hx rfl (hb hby d8_76) rfl) ?_
            show own_Go p.tables e below _ (s₁.setTop (mkF m 77 #[.val (.double d1), .second, .val (.long q2), .second, .val (.int p3), .val (.long q4), .second, .val (.double d5), .second, .val (.int p6), .val (.long q7), .second, .val (.double d8), .second, .val (.int p9), .val (.long q10), .second, .val (.double d11), .second] [(.double d1), (.double d1)]))
            refine own_go (fun _ => XS.dcmpS X0.here hx rfl (hb hby d8_77) rfl rfl) ?_
            show own_Go p.tables e below _ (s₁.setTop (mkF m 78 #[.val (.double d1), .second, .val (.long q2), .second, .val (.int p3), .val (.long q4), .second, .val (.double d5), .second, .val (.int p6), .val (.long q7), .second, .val (.double d8), .second, .val (.int p9), .val (.long q10), .second, .val (.double d11), .second] [(.int (cmpValue (FP.dcmp d1 d1) .l))]))
            by_cases hc25_78 : (cmpValue (FP.dcmp d1 d1) .l) = (0 : Int32)
            · skip
              refine own_go (fun _ => XS.ifYes X0.here hx rfl (pc0 := 78) (pc' := 85) rfl (hb hby d8_78) rfl ((if0 _ _).trans (teq hc25_78).1) (by decide) (by decide)) ?_
              show own_Go p.tables e below _ (s₁.setTop (mkF m 85 #[.val (.double d1), .second, .val (.long q2), .second, .val (.int p3), .val (.long q4), .second, .val (.double d5), .second, .val (.int p6), .val (.long q7), .second, .val (.double d8), .second, .val (.int p9), .val (.long q10), .second, .val (.double d11), .second] []))
              refine own_go (fun _ => XS.iconst X0.here hx rfl (hb hby d8_85)) ?_
              show own_Go p.tables e below _ (s₁.setTop (mkF m 86 #[.val (.double d1), .second, .val (.long q2), .second, .val (.int p3), .val (.long q4), .second, .val (.double d5), .second, .val (.int p6), .val (.long q7), .second, .val (.double d8), .second, .val (.int p9), .val (.long q10), .second, .val (.double d11), .second] [(.int (0 : Int32))]))
              refine own_retN X0 Bd.notSynchronized hx (t := .boolean) Bd.returns (by simp) (hb hby d8_86) (show Q8 Z d1 q2 p3 q4 d5 p6 q7 d8 p9 q10 d11 h0 n0 _ s₁.heap _ from by rw [e0]; exact ⟨(own_val ((if_pos hc12_2).trans ((if_neg hc13_27).trans ((if_neg hc19_34).trans ((if_neg hc21_52).trans ((if_neg hc23_59).trans ((if_pos hc25_78).trans rfl))))))), N0, rfl⟩) (by decide) (by decide)
            · skip
              refine own_go (fun _ => XS.ifNo X0.here hx rfl (hb hby d8_78) rfl ((if0 _ _).trans (feq hc25_78).1)) ?_
              show own_Go p.tables e below _ (s₁.setTop (mkF m 81 #[.val (.double d1), .second, .val (.long q2), .second, .val (.int p3), .val (.long q4), .second, .val (.double d5), .second, .val (.int p6), .val (.long q7), .second, .val (.double d8), .second, .val (.int p9), .val (.long q10), .second, .val (.double d11), .second] []))
              refine own_go (fun _ => XS.iconst X0.here hx rfl (hb hby d8_81)) ?_
              show own_Go p.tables e below _ (s₁.setTop (mkF m 82 #[.val (.double d1), .second, .val (.long q2), .second, .val (.int p3), .val (.long q4), .second, .val (.double d5), .second, .val (.int p6), .val (.long q7), .second, .val (.double d8), .second, .val (.int p9), .val (.long q10), .second, .val (.double d11), .second] [(.int (1 : Int32))]))
              refine own_go (fun _ => XS.goto X0.here hx rfl (pc0 := 82) (pc' := 86) rfl (hb hby d8_82) (by decide) (by decide)) ?_
              show own_Go p.tables e below _ (s₁.setTop (mkF m 86 #[.val (.double d1), .second, .val (.long q2), .second, .val (.int p3), .val (.long q4), .second, .val (.double d5), .second, .val (.int p6), .val (.long q7), .second, .val (.double d8), .second, .val (.int p9), .val (.long q10), .second, .val (.double d11), .second] [(.int (1 : Int32))]))
              refine own_retN X0 Bd.notSynchronized hx (t := .boolean) Bd.returns (by simp) (hb hby d8_86) (show Q8 Z d1 q2 p3 q4 d5 p6 q7 d8 p9 q10 d11 h0 n0 _ s₁.heap _ from by rw [e0]; exact ⟨(own_val ((if_pos hc12_2).trans ((if_neg hc13_27).trans ((if_neg hc19_34).trans ((if_neg hc21_52).trans ((if_neg hc23_59).trans ((if_neg hc25_78).trans rfl))))))), N0, rfl⟩) (by decide) (by decide)
  · skip
    refine own_go (fun _ => XS.ifNo X0.here hx rfl (hb hby d8_2) rfl ((if0 _ _).trans (feq hc12_2).1)) ?_
    show own_Go p.tables e below _ (s₁.setTop (mkF m 5 #[.val (.double d1), .second, .val (.long q2), .second, .val (.int p3), .val (.long q4), .second, .val (.double d5), .second, .val (.int p6), .val (.long q7), .second, .val (.double d8), .second, .val (.int p9), .val (.long q10), .second, .val (.double d11), .second] []))
    refine own_go (fun _ => XS.lloadN X0.here hx rfl (hb hby d8_5) rfl) ?_
    show own_Go p.tables e below _ (s₁.setTop (mkF m 6 #[.val (.double d1), .second, .val (.long q2), .second, .val (.int p3), .val (.long q4), .second, .val (.double d5), .second, .val (.int p6), .val (.long q7), .second, .val (.double d8), .second, .val (.int p9), .val (.long q10), .second, .val (.double d11), .second] [(.long q2)]))
    refine own_go (fun _ => XS.lload X0.here hx rfl (hb hby d8_6) rfl) ?_
    show own_Go p.tables e below _ (s₁.setTop (mkF m 8 #[.val (.double d1), .second, .val (.long q2), .second, .val (.int p3), .val (.long q4), .second, .val (.double d5), .second, .val (.int p6), .val (.long q7), .second, .val (.double d8), .second, .val (.int p9), .val (.long q10), .second, .val (.double d11), .second] [(.long q4), (.long q2)]))
    refine own_go (fun _ => XS.lcmp X0.here hx rfl (hb hby d8_8) rfl) ?_
    show own_Go p.tables e below _ (s₁.setTop (mkF m 9 #[.val (.double d1), .second, .val (.long q2), .second, .val (.int p3), .val (.long q4), .second, .val (.double d5), .second, .val (.int p6), .val (.long q7), .second, .val (.double d8), .second, .val (.int p9), .val (.long q10), .second, .val (.double d11), .second] [(.int (lcmpW q2 q4))]))
    by_cases hc26_9 : (lcmpW q2 q4) = (0 : Int32)
    · skip
      refine own_go (fun _ => XS.ifNo X0.here hx rfl (hb hby d8_9) rfl ((if0 _ _).trans (teq hc26_9).2)) ?_
      show own_Go p.tables e below _ (s₁.setTop (mkF m 12 #[.val (.double d1), .second, .val (.long q2), .second, .val (.int p3), .val (.long q4), .second, .val (.double d5), .second, .val (.int p6), .val (.long q7), .second, .val (.double d8), .second, .val (.int p9), .val (.long q10), .second, .val (.double d11), .second] []))
      refine own_go (fun _ => XS.dloadN X0.here hx rfl (hb hby d8_12) rfl) ?_
      show own_Go p.tables e below _ (s₁.setTop (mkF m 13 #[.val (.double d1), .second, .val (.long q2), .second, .val (.int p3), .val (.long q4), .second, .val (.double d5), .second, .val (.int p6), .val (.long q7), .second, .val (.double d8), .second, .val (.int p9), .val (.long q10), .second, .val (.double d11), .second] [(.double d1)]))
      refine own_go (fun _ => XS.dload X0.here hx rfl (hb hby d8_13) rfl) ?_
      show own_Go p.tables e below _ (s₁.setTop (mkF m 15 #[.val (.double d1), .second, .val (.long q2), .second, .val (.int p3), .val (.long q4), .second, .val (.double d5), .second, .val (.int p6), .val (.long q7), .second, .val (.double d8), .second, .val (.int p9), .val (.long q10), .second, .val (.double d11), .second] [(.double d5), (.double d1)]))
      refine own_go (fun _ => XS.dcmpS X0.here hx rfl (hb hby d8_15) rfl rfl) ?_
      show own_Go p.tables e below _ (s₁.setTop (mkF m 16 #[.val (.double d1), .second, .val (.long q2), .second, .val (.int p3), .val (.long q4), .second, .val (.double d5), .second, .val (.int p6), .val (.long q7), .second, .val (.double d8), .second, .val (.int p9), .val (.long q10), .second, .val (.double d11), .second] [(.int (cmpValue (FP.dcmp d1 d5) .l))]))
      by_cases hc27_16 : (cmpValue (FP.dcmp d1 d5) .l) = (0 : Int32)
      · skip
        refine own_go (fun _ => XS.ifNo X0.here hx rfl (hb hby d8_16) rfl ((if0 _ _).trans (teq hc27_16).2)) ?_
        show own_Go p.tables e below _ (s₁.setTop (mkF m 19 #[.val (.double d1), .second, .val (.long q2), .second, .val (.int p3), .val (.long q4), .second, .val (.double d5), .second, .val (.int p6), .val (.long q7), .second, .val (.double d8), .second, .val (.int p9), .val (.long q10), .second, .val (.double d11), .second] []))
        refine own_go (fun _ => XS.iconst X0.here hx rfl (hb hby d8_19)) ?_
        show own_Go p.tables e below _ (s₁.setTop (mkF m 20 #[.val (.double d1), .second, .val (.long q2), .second, .val (.int p3), .val (.long q4), .second, .val (.double d5), .second, .val (.int p6), .val (.long q7), .second, .val (.double d8), .second, .val (.int p9), .val (.long q10), .second, .val (.double d11), .second] [(.int (1 : Int32))]))
        refine own_go (fun _ => XS.goto X0.here hx rfl (pc0 := 20) (pc' := 24) rfl (hb hby d8_20) (by decide) (by decide)) ?_
        show own_Go p.tables e below _ (s₁.setTop (mkF m 24 #[.val (.double d1), .second, .val (.long q2), .second, .val (.int p3), .val (.long q4), .second, .val (.double d5), .second, .val (.int p6), .val (.long q7), .second, .val (.double d8), .second, .val (.int p9), .val (.long q10), .second, .val (.double d11), .second] [(.int (1 : Int32))]))
        refine own_retN X0 Bd.notSynchronized hx (t := .boolean) Bd.returns (by simp) (hb hby d8_24) (show Q8 Z d1 q2 p3 q4 d5 p6 q7 d8 p9 q10 d11 h0 n0 _ s₁.heap _ from by rw [e0]; exact ⟨(own_val ((if_neg hc12_2).trans ((if_pos hc26_9).trans ((if_pos hc27_16).trans rfl)))), N0, rfl⟩) (by decide) (by decide)
      · skip
        refine own_go (fun _ => XS.ifYes X0.here hx rfl (pc0 := 16) (pc' := 23) rfl (hb hby d8_16) rfl ((if0 _ _).trans (feq hc27_16).2) (by decide) (by decide)) ?_
        show own_Go p.tables e below _ (s₁.setTop (mkF m 23 #[.val (.double d1), .second, .val (.long q2), .second, .val (.int p3), .val (.long q4), .second, .val (.double d5), .second, .val (.int p6), .val (.long q7), .second, .val (.double d8), .second, .val (.int p9), .val (.long q10), .second, .val (.double d11), .second] []))
        refine own_go (fun _ => XS.iconst X0.here hx rfl (hb hby d8_23)) ?_
        show own_Go p.tables e below _ (s₁.setTop (mkF m 24 #[.val (.double d1), .second, .val (.long q2), .second, .val (.int p3), .val (.long q4), .second, .val (.double d5), .second, .val (.int p6), .val (.long q7), .second, .val (.double d8), .second, .val (.int p9), .val (.long q10), .second, .val (.double d11), .second] [(.int (0 : Int32))]))
        refine own_retN X0 Bd.notSynchronized hx (t := .boolean) Bd.returns (by simp) (hb hby d8_24) (show Q8 Z d1 q2 p3 q4 d5 p6 q7 d8 p9 q10 d11 h0 n0 _ s₁.heap _ from by rw [e0]; exact ⟨(own_val ((if_neg hc12_2).trans ((if_pos hc26_9).trans ((if_neg hc27_16).trans rfl)))), N0, rfl⟩) (by decide) (by decide)
    · skip
      refine own_go (fun _ => XS.ifYes X0.here hx rfl (pc0 := 9) (pc' := 25) rfl (hb hby d8_9) rfl ((if0 _ _).trans (feq hc26_9).2) (by decide) (by decide)) ?_
      show own_Go p.tables e below _ (s₁.setTop (mkF m 25 #[.val (.double d1), .second, .val (.long q2), .second, .val (.int p3), .val (.long q4), .second, .val (.double d5), .second, .val (.int p6), .val (.long q7), .second, .val (.double d8), .second, .val (.int p9), .val (.long q10), .second, .val (.double d11), .second] []))
      refine own_go (fun _ => XS.iload X0.here hx rfl (hb hby d8_25) rfl) ?_
      show own_Go p.tables e below _ (s₁.setTop (mkF m 27 #[.val (.double d1), .second, .val (.long q2), .second, .val (.int p3), .val (.long q4), .second, .val (.double d5), .second, .val (.int p6), .val (.long q7), .second, .val (.double d8), .second, .val (.int p9), .val (.long q10), .second, .val (.double d11), .second] [(.int p6)]))
      by_cases hc28_27 : p6 = (0 : Int32)
      · skip
        refine own_go (fun _ => XS.ifYes X0.here hx rfl (pc0 := 27) (pc' := 50) rfl (hb hby d8_27) rfl ((if0 _ _).trans (teq hc28_27).1) (by decide) (by decide)) ?_
        show own_Go p.tables e below _ (s₁.setTop (mkF m 50 #[.val (.double d1), .second, .val (.long q2), .second, .val (.int p3), .val (.long q4), .second, .val (.double d5), .second, .val (.int p6), .val (.long q7), .second, .val (.double d8), .second, .val (.int p9), .val (.long q10), .second, .val (.double d11), .second] []))
        refine own_go (fun _ => XS.iload X0.here hx rfl (hb hby d8_50) rfl) ?_
        show own_Go p.tables e below _ (s₁.setTop (mkF m 52 #[.val (.double d1), .second, .val (.long q2), .second, .val (.int p3), .val (.long q4), .second, .val (.double d5), .second, .val (.int p6), .val (.long q7), .second, .val (.double d8), .second, .val (.int p9), .val (.long q10), .second, .val (.double d11), .second] [(.int p9)]))
        by_cases hc29_52 : p9 = (0 : Int32)
        · skip
          refine own_go (fun _ => XS.ifYes X0.here hx rfl (pc0 := 52) (pc' := 75) rfl (hb hby d8_52) rfl ((if0 _ _).trans (teq hc29_52).1) (by decide) (by decide)) ?_
          show own_Go p.tables e below _ (s₁.setTop (mkF m 75 #[.val (.double d1), .second, .val (.long q2), .second, .val (.int p3), .val (.long q4), .second, .val (.double d5), .second, .val (.int p6), .val (.long q7), .second, .val (.double d8), .second, .val (.int p9), .val (.long q10), .second, .val (.double d11), .second] []))
          refine own_go (fun _ => XS.dloadN X0.here hx rfl (hb hby d8_75) rfl) ?_
          show own_Go p.tables e below _ (s₁.setTop (mkF m 76 #[.val (.double d1), .second, .val (.long q2), .second, .val (.int p3), .val (.long q4), .second, .val (.double d5), .second, .val (.int p6), .val (.long q7), .second, .val (.double d8), .second, .val (.int p9), .val (.long q10), .second, .val (.double d11), .second] [(.double d1)]))
          refine own_go (fun _ => XS.dloadN X0.here hx rfl (hb hby d8_76) rfl) ?_
          show own_Go p.tables e below _ (s₁.setTop (mkF m 77 #[.val (.double d1), .second, .val (.long q2), .second, .val (.int p3), .val (.long q4), .second, .val (.double d5), .second, .val (.int p6), .val (.long q7), .second, .val (.double d8), .second, .val (.int p9), .val (.long q10), .second, .val (.double d11), .second] [(.double d1), (.double d1)]))
          refine own_go (fun _ => XS.dcmpS X0.here hx rfl (hb hby d8_77) rfl rfl) ?_
          show own_Go p.tables e below _ (s₁.setTop (mkF m 78 #[.val (.double d1), .second, .val (.long q2), .second, .val (.int p3), .val (.long q4), .second, .val (.double d5), .second, .val (.int p6), .val (.long q7), .second, .val (.double d8), .second, .val (.int p9), .val (.long q10), .second, .val (.double d11), .second] [(.int (cmpValue (FP.dcmp d1 d1) .l))]))
          by_cases hc30_78 : (cmpValue (FP.dcmp d1 d1) .l) = (0 : Int32)
          · skip
            refine own_go (fun _ => XS.ifYes X0.here hx rfl (pc0 := 78) (pc' := 85) rfl (hb hby d8_78) rfl ((if0 _ _).trans (teq hc30_78).1) (by decide) (by decide)) ?_
            show own_Go p.tables e below _ (s₁.setTop (mkF m 85 #[.val (.double d1), .second, .val (.long q2), .second, .val (.int p3), .val (.long q4), .second, .val (.double d5), .second, .val (.int p6), .val (.long q7), .second, .val (.double d8), .second, .val (.int p9), .val (.long q10), .second, .val (.double d11), .second] []))
            refine own_go (fun _ => XS.iconst X0.here hx rfl (hb hby d8_85)) ?_
            show own_Go p.tables e below _ (s₁.setTop (mkF m 86 #[.val (.double d1), .second, .val (.long q2), .second, .val (.int p3), .val (.long q4), .second, .val (.double d5), .second, .val (.int p6), .val (.long q7), .second, .val (.double d8), .second, .val (.int p9), .val (.long q10), .second, .val (.double d11), .second] [(.int (0 : Int32))]))
            refine own_retN X0 Bd.notSynchronized hx (t := .boolean) Bd.returns (by simp) (hb hby d8_86) (show Q8 Z d1 q2 p3 q4 d5 p6 q7 d8 p9 q10 d11 h0 n0 _ s₁.heap _ from by rw [e0]; exact ⟨(own_val ((if_neg hc12_2).trans ((if_neg hc26_9).trans ((if_pos hc28_27).trans ((if_pos hc29_52).trans ((if_pos hc30_78).trans rfl)))))), N0, rfl⟩) (by decide) (by decide)
          · skip
            refine own_go (fun _ => XS.ifNo X0.here hx rfl (hb hby d8_78) rfl ((if0 _ _).trans (feq hc30_78).1)) ?_
            show own_Go p.tables e below _ (s₁.setTop (mkF m 81 #[.val (.double d1), .second, .val (.long q2), .second, .val (.int p3), .val (.long q4), .second, .val (.double d5), .second, .val (.int p6), .val (.long q7), .second, .val (.double d8), .second, .val (.int p9), .val (.long q10), .second, .val (.double d11), .second] []))
            refine own_go (fun _ => XS.iconst X0.here hx rfl (hb hby d8_81)) ?_
            show own_Go p.tables e below _ (s₁.setTop (mkF m 82 #[.val (.double d1), .second, .val (.long q2), .second, .val (.int p3), .val (.long q4), .second, .val (.double d5), .second, .val (.int p6), .val (.long q7), .second, .val (.double d8), .second, .val (.int p9), .val (.long q10), .second, .val (.double d11), .second] [(.int (1 : Int32))]))
            refine own_go (fun _ => XS.goto X0.here hx rfl (pc0 := 82) (pc' := 86) rfl (hb hby d8_82) (by decide) (by decide)) ?_
            show own_Go p.tables e below _ (s₁.setTop (mkF m 86 #[.val (.double d1), .second, .val (.long q2), .second, .val (.int p3), .val (.long q4), .second, .val (.double d5), .second, .val (.int p6), .val (.long q7), .second, .val (.double d8), .second, .val (.int p9), .val (.long q10), .second, .val (.double d11), .second] [(.int (1 : Int32))]))
            refine own_retN X0 Bd.notSynchronized hx (t := .boolean) Bd.returns (by simp) (hb hby d8_86) (show Q8 Z d1 q2 p3 q4 d5 p6 q7 d8 p9 q10 d11 h0 n0 _ s₁.heap _ from by rw [e0]; exact ⟨(own_val ((if_neg hc12_2).trans ((if_neg hc26_9).trans ((if_pos hc28_27).trans ((if_pos hc29_52).trans ((if_neg hc30_78).trans rfl)))))), N0, rfl⟩) (by decide) (by decide)
        · skip
          refine own_go (fun _ => XS.ifNo X0.here hx rfl (hb hby d8_52) rfl ((if0 _ _).trans (feq hc29_52).1)) ?_
          show own_Go p.tables e below _ (s₁.setTop (mkF m 55 #[.val (.double d1), .second, .val (.long q2), .second, .val (.int p3), .val (.long q4), .second, .val (.double d5), .second, .val (.int p6), .val (.long q7), .second, .val (.double d8), .second, .val (.int p9), .val (.long q10), .second, .val (.double d11), .second] []))
          refine own_go (fun _ => XS.lloadN X0.here hx rfl (hb hby d8_55) rfl) ?_
          show own_Go p.tables e below _ (s₁.setTop (mkF m 56 #[.val (.double d1), .second, .val (.long q2), .second, .val (.int p3), .val (.long q4), .second, .val (.double d5), .second, .val (.int p6), .val (.long q7), .second, .val (.double d8), .second, .val (.int p9), .val (.long q10), .second, .val (.double d11), .second] [(.long q2)]))
          refine own_go (fun _ => XS.lload X0.here hx rfl (hb hby d8_56) rfl) ?_
          show own_Go p.tables e below _ (s₁.setTop (mkF m 58 #[.val (.double d1), .second, .val (.long q2), .second, .val (.int p3), .val (.long q4), .second, .val (.double d5), .second, .val (.int p6), .val (.long q7), .second, .val (.double d8), .second, .val (.int p9), .val (.long q10), .second, .val (.double d11), .second] [(.long q10), (.long q2)]))
          refine own_go (fun _ => XS.lcmp X0.here hx rfl (hb hby d8_58) rfl) ?_
          show own_Go p.tables e below _ (s₁.setTop (mkF m 59 #[.val (.double d1), .second, .val (.long q2), .second, .val (.int p3), .val (.long q4), .second, .val (.double d5), .second, .val (.int p6), .val (.long q7), .second, .val (.double d8), .second, .val (.int p9), .val (.long q10), .second, .val (.double d11), .second] [(.int (lcmpW q2 q10))]))
          by_cases hc31_59 : (lcmpW q2 q10) = (0 : Int32)
          · skip
            refine own_go (fun _ => XS.ifNo X0.here hx rfl (hb hby d8_59) rfl ((if0 _ _).trans (teq hc31_59).2)) ?_
            show own_Go p.tables e below _ (s₁.setTop (mkF m 62 #[.val (.double d1), .second, .val (.long q2), .second, .val (.int p3), .val (.long q4), .second, .val (.double d5), .second, .val (.int p6), .val (.long q7), .second, .val (.double d8), .second, .val (.int p9), .val (.long q10), .second, .val (.double d11), .second] []))
            refine own_go (fun _ => XS.dloadN X0.here hx rfl (hb hby d8_62) rfl) ?_
            show own_Go p.tables e below _ (s₁.setTop (mkF m 63 #[.val (.double d1), .second, .val (.long q2), .second, .val (.int p3), .val (.long q4), .second, .val (.double d5), .second, .val (.int p6), .val (.long q7), .second, .val (.double d8), .second, .val (.int p9), .val (.long q10), .second, .val (.double d11), .second] [(.double d1)]))
            refine own_go (fun _ => XS.dload X0.here hx rfl (hb hby d8_63) rfl) ?_
            show own_Go p.tables e below _ (s₁.setTop (mkF m 65 #[.val (.double d1), .second, .val (.long q2), .second, .val (.int p3), .val (.long q4), .second, .val (.double d5), .second, .val (.int p6), .val (.long q7), .second, .val (.double d8), .second, .val (.int p9), .val (.long q10), .second, .val (.double d11), .second] [(.double d11), (.double d1)]))
            refine own_go (fun _ => XS.dcmpS X0.here hx rfl (hb hby d8_65) rfl rfl) ?_
            show own_Go p.tables e below _ (s₁.setTop (mkF m 66 #[.val (.double d1), .second, .val (.long q2), .second, .val (.int p3), .val (.long q4), .second, .val (.double d5), .second, .val (.int p6), .val (.long q7), .second, .val (.double d8), .second, .val (.int p9), .val (.long q10), .second, .val (.double d11), .second] [(.int (cmpValue (FP.dcmp d1 d11) .l))]))
            by_cases hc32_66 : (cmpValue (FP.dcmp d1 d11) .l) = (0 : Int32)
            · skip
              refine own_go (fun _ => XS.ifNo X0.here hx rfl (hb hby d8_66) rfl ((if0 _ _).trans (teq hc32_66).2)) ?_
              show own_Go p.tables e below _ (s₁.setTop (mkF m 69 #[.val (.double d1), .second, .val (.long q2), .second, .val (.int p3), .val (.long q4), .second, .val (.double d5), .second, .val (.int p6), .val (.long q7), .second, .val (.double d8), .second, .val (.int p9), .val (.long q10), .second, .val (.double d11), .second] []))
              refine own_go (fun _ => XS.iconst X0.here hx rfl (hb hby d8_69)) ?_
              show own_Go p.tables e below _ (s₁.setTop (mkF m 70 #[.val (.double d1), .second, .val (.long q2), .second, .val (.int p3), .val (.long q4), .second, .val (.double d5), .second, .val (.int p6), .val (.long q7), .second, .val (.double d8), .second, .val (.int p9), .val (.long q10), .second, .val (.double d11), .second] [(.int (1 : Int32))]))
              refine own_go (fun _ => XS.goto X0.here hx rfl (pc0 := 70) (pc' := 74) rfl (hb hby d8_70) (by decide) (by decide)) ?_
              show own_Go p.tables e below _ (s₁.setTop (mkF m 74 #[.val (.double d1), .second, .val (.long q2), .second, .val (.int p3), .val (.long q4), .second, .val (.double d5), .second, .val (.int p6), .val (.long q7), .second, .val (.double d8), .second, .val (.int p9), .val (.long q10), .second, .val (.double d11), .second] [(.int (1 : Int32))]))
              refine own_retN X0 Bd.notSynchronized hx (t := .boolean) Bd.returns (by simp) (hb hby d8_74) (show Q8 Z d1 q2 p3 q4 d5 p6 q7 d8 p9 q10 d11 h0 n0 _ s₁.heap _ from by rw [e0]; exact ⟨(own_val ((if_neg hc12_2).trans ((if_neg hc26_9).trans ((if_pos hc28_27).trans ((if_neg hc29_52).trans ((if_pos hc31_59).trans ((if_pos hc32_66).trans rfl))))))), N0, rfl⟩) (by decide) (by decide)
            · skip
              refine own_go (fun _ => XS.ifYes X0.here hx rfl (pc0 := 66) (pc' := 73) rfl (hb hby d8_66) rfl ((if0 _ _).trans (feq hc32_66).2) (by decide) (by decide)) ?_
              show own_Go p.tables e below _ (s₁.setTop (mkF m 73 #[.val (.double d1), .second, .val (.long q2), .second, .val (.int p3), .val (.long q4), .second, .val (.double d5), .second, .val (.int p6), .val (.long q7), .second, .val (.double d8), .second, .val (.int p9), .val (.long q10), .second, .val (.double d11), .second] []))
              refine own_go (fun _ => XS.iconst X0.here hx rfl (hb hby d8_73)) ?_
              show own_Go p.tables e below _ (s₁.setTop (mkF m 74 #[.val (.double d1), .second, .val (.long q2), .second, .val (.int p3), .val (.long q4), .second, .val (.double d5), .second, .val (.int p6), .val (.long q7), .second, .val (.double d8), .second, .val (.int p9), .val (.long q10), .second, .val (.double d11), .second] [(.int (0 : Int32))]))
              refine own_retN X0 Bd.notSynchronized hx (t := .boolean) Bd.returns (by simp) (hb hby d8_74) (show Q8 Z d1 q2 p3 q4 d5 p6 q7 d8 p9 q10 d11 h0 n0 _ s₁.heap _ from by rw [e0]; exact ⟨(own_val ((if_neg hc12_2).trans ((if_neg hc26_9).trans ((if_pos hc28_27).trans ((if_neg hc29_52).trans ((if_pos hc31_59).trans ((if_neg hc32_66).trans rfl))))))), N0, rfl⟩) (by decide) (by decide)
          · skip
            refine own_go (fun _ => XS.ifYes X0.here hx rfl (pc0 := 59) (pc' := 75) rfl (hb hby d8_59) rfl ((if0 _ _).trans (feq hc31_59).2) (by decide) (by decide)) ?_
            show own_Go p.tables e below _ (s₁.setTop (mkF m 75 #[.val (.double d1), .second, .val (.long q2), .second, .val (.int p3), .val (.long q4), .second, .val (.double d5), .second, .val (.int p6), .val (.long q7), .second, .val (.double d8), .second, .val (.int p9), .val (.long q10), .second, .val (.double d11), .second] []))
            refine own_go (fun _ => XS.dloadN X0.here hx rfl (hb hby d8_75) rfl) ?_
            show own_Go p.tables e below _ (s₁.setTop (mkF m 76 #[.val (.double d1), .second, .val (.long q2), .second, .val (.int p3), .val (.long q4), .second, .val (.double d5), .second, .val (.int p6), .val (.long q7), .second, .val (.double d8), .second, .val (.int p9), .val (.long q10), .second, .val (.double d11), .second] [(.double d1)]))
            refine own_go (fun _ => XS.dloadN X0.here hx rfl (hb hby d8_76) rfl) ?_
            show own_Go p.tables e below _ (s₁.setTop (mkF m 77 #[.val (.double d1), .second, .val (.long q2), .second, .val (.int p3), .val (.long q4), .second, .val (.double d5), .second, .val (.int p6), .val (.long q7), .second, .val (.double d8), .second, .val (.int p9), .val (.long q10), .second, .val (.double d11), .second] [(.double d1), (.double d1)]))
            refine own_go (fun _ => XS.dcmpS X0.here hx rfl (hb hby d8_77) rfl rfl) ?_
            show own_Go p.tables e below _ (s₁.setTop (mkF m 78 #[.val (.double d1), .second, .val (.long q2), .second, .val (.int p3), .val (.long q4), .second, .val (.double d5), .second, .val (.int p6), .val (.long q7), .second, .val (.double d8), .second, .val (.int p9), .val (.long q10), .second, .val (.double d11), .second] [(.int (cmpValue (FP.dcmp d1 d1) .l))]))
            by_cases hc33_78 : (cmpValue (FP.dcmp d1 d1) .l) = (0 : Int32)
            · skip
              refine own_go (fun _ => XS.ifYes X0.here hx rfl (pc0 := 78) (pc' := 85) rfl (hb hby d8_78) rfl ((if0 _ _).trans (teq hc33_78).1) (by decide) (by decide)) ?_
              show own_Go p.tables e below _ (s₁.setTop (mkF m 85 #[.val (.double d1), .second, .val (.long q2), .second, .val (.int p3), .val (.long q4), .second, .val (.double d5), .second, .val (.int p6), .val (.long q7), .second, .val (.double d8), .second, .val (.int p9), .val (.long q10), .second, .val (.double d11), .second] []))
              refine own_go (fun _ => XS.iconst X0.here hx rfl (hb hby d8_85)) ?_
              show own_Go p.tables e below _ (s₁.setTop (mkF m 86 #[.val (.double d1), .second, .val (.long q2), .second, .val (.int p3), .val (.long q4), .second, .val (.double d5), .second, .val (.int p6), .val (.long q7), .second, .val (.double d8), .second, .val (.int p9), .val (.long q10), .second, .val (.double d11), .second] [(.int (0 : Int32))]))
              refine own_retN X0 Bd.notSynchronized hx (t := .boolean) Bd.returns (by simp) (hb hby d8_86) (show Q8 Z d1 q2 p3 q4 d5 p6 q7 d8 p9 q10 d11 h0 n0 _ s₁.heap _ from by rw [e0]; exact ⟨(own_val ((if_neg hc12_2).trans ((if_neg hc26_9).trans ((if_pos hc28_27).trans ((if_neg hc29_52).trans ((if_neg hc31_59).trans ((if_pos hc33_78).trans rfl))))))), N0, rfl⟩) (by decide) (by decide)
            · skip
              refine own_go (fun _ => XS.ifNo X0.here hx rfl (hb hby d8_78) rfl ((if0 _ _).trans (feq hc33_78).1)) ?_
              show own_Go p.tables e below _ (s₁.setTop (mkF m 81 #[.val (.double d1), .second, .val (.long q2), .second, .val (.int p3), .val (.long q4), .second, .val (.double d5), .second, .val (.int p6), .val (.long q7), .second, .val (.double d8), .second, .val (.int p9), .val (.long q10), .second, .val (.double d11), .second] []))
              refine own_go (fun _ => XS.iconst X0.here hx rfl (hb hby d8_81)) ?_
              show own_Go p.tables e below _ (s₁.setTop (mkF m 82 #[.val (.double d1), .second, .val (.long q2), .second, .val (.int p3), .val (.long q4), .second, .val (.double d5), .second, .val (.int p6), .val (.long q7), .second, .val (.double d8), .second, .val (.int p9), .val (.long q10), .second, .val (.double d11), .second] [(.int (1 : Int32))]))
              refine own_go (fun _ => XS.goto X0.here hx rfl (pc0 := 82) (pc' := 86) rfl (hb hby d8_82) (by decide) (by decide)) ?_
              show own_Go p.tables e below _ (s₁.setTop (mkF m 86 #[.val (.double d1), .second, .val (.long q2), .second, .val (.int p3), .val (.long q4), .second, .val (.double d5), .second, .val (.int p6), .val (.long q7), .second, .val (.double d8), .second, .val (.int p9), .val (.long q10), .second, .val (.double d11), .second] [(.int (1 : Int32))]))
              refine own_retN X0 Bd.notSynchronized hx (t := .boolean) Bd.returns (by simp) (hb hby d8_86) (show Q8 Z d1 q2 p3 q4 d5 p6 q7 d8 p9 q10 d11 h0 n0 _ s₁.heap _ from by rw [e0]; exact ⟨(own_val ((if_neg hc12_2).trans ((if_neg hc26_9).trans ((if_pos hc28_27).trans ((if_neg hc29_52).trans ((if_neg hc31_59).trans ((if_neg hc33_78).trans rfl))))))), N0, rfl⟩) (by decide) (by decide)
      · skip
        refine own_go (fun _ => XS.ifNo X0.here hx rfl (hb hby d8_27) rfl ((if0 _ _).trans (feq hc28_27).1)) ?_
        show own_Go p.tables e below _ (s₁.setTop (mkF m 30 #[.val (.double d1), .second, .val (.long q2), .second, .val (.int p3), .val (.long q4), .second, .val (.double d5), .second, .val (.int p6), .val (.long q7), .second, .val (.double d8), .second, .val (.int p9), .val (.long q10), .second, .val (.double d11), .second] []))
        refine own_go (fun _ => XS.lloadN X0.here hx rfl (hb hby d8_30) rfl) ?_
        show own_Go p.tables e below _ (s₁.setTop (mkF m 31 #[.val (.double d1), .second, .val (.long q2), .second, .val (.int p3), .val (.long q4), .second, .val (.double d5), .second, .val (.int p6), .val (.long q7), .second, .val (.double d8), .second, .val (.int p9), .val (.long q10), .second, .val (.double d11), .second] [(.long q2)]))
        refine own_go (fun _ => XS.lload X0.here hx rfl (hb hby d8_31) rfl) ?_
        show own_Go p.tables e below _ (s₁.setTop (mkF m 33 #[.val (.double d1), .second, .val (.long q2), .second, .val (.int p3), .val (.long q4), .second, .val (.double d5), .second, .val (.int p6), .val (.long q7), .second, .val (.double d8), .second, .val (.int p9), .val (.long q10), .second, .val (.double d11), .second] [(.long q7), (.long q2)]))
        refine own_go (fun _ => XS.lcmp X0.here hx rfl (hb hby d8_33) rfl) ?_
        show own_Go p.tables e below _ (s₁.setTop (mkF m 34 #[.val (.double d1), .second, .val (.long q2), .second, .val (.int p3), .val (.long q4), .second, .val (.double d5), .second, .val (.int p6), .val (.long q7), .second, .val (.double d8), .second, .val (.int p9), .val (.long q10), .second, .val (.double d11), .second] [(.int (lcmpW q2 q7))]))
        by_cases hc34_34 : (lcmpW q2 q7) = (0 : Int32)
        · skip
          refine own_go (fun _ => XS.ifNo X0.here hx rfl (hb hby d8_34) rfl ((if0 _ _).trans (teq hc34_34).2)) ?_
          show own_Go p.tables e below _ (s₁.setTop (mkF m 37 #[.val (.double d1), .second, .val (.long q2), .second, .val (.int p3), .val (.long q4), .second, .val (.double d5), .second, .val (.int p6), .val (.long q7), .second, .val (.double d8), .second, .val (.int p9), .val (.long q10), .second, .val (.double d11), .second] []))
          refine own_go (fun _ => XS.dloadN X0.here hx rfl (hb hby d8_37) rfl) ?_
          show own_Go p.tables e below _ (s₁.setTop (mkF m 38 #[.val (.double d1), .second, .val (.long q2), .second, .val (.int p3), .val (.long q4), .second, .val (.double d5), .second, .val (.int p6), .val (.long q7), .second, .val (.double d8), .second, .val (.int p9), .val (.long q10), .second, .val (.double d11), .second] [(.double d1)]))
          refine own_go (fun _ => XS.dload X0.here hx rfl (hb hby d8_38) rfl) ?_
          show own_Go p.tables e below _ (s₁.setTop (mkF m 40 #[.val (.double d1), .second, .val (.long q2), .second, .val (.int p3), .val (.long q4), .second, .val (.double d5), .second, .val (.int p6), .val (.long q7), .second, .val (.double d8), .second, .val (.int p9), .val (.long q10), .second, .val (.double d11), .second] [(.double d8), (.double d1)]))
          refine own_go (fun _ => XS.dcmpS X0.here hx rfl (hb hby d8_40) rfl rfl) ?_
          show own_Go p.tables e below _ (s₁.setTop (mkF m 41 #[.val (.double d1), .second, .val (.long q2), .second, .val (.int p3), .val (.long q4), .second, .val (.double d5), .second, .val (.int p6), .val (.long q7), .second, .val (.double d8), .second, .val (.int p9), .val (.long q10), .second, .val (.double d11), .second] [(.int (cmpValue (FP.dcmp d1 d8) .l))]))
          by_cases hc35_41 : (cmpValue (FP.dcmp d1 d8) .l) = (0 : Int32)
          · skip
            refine own_go (fun _ => XS.ifNo X0.here hx rfl (hb hby d8_41) rfl ((if0 _ _).trans (teq hc35_41).2)) ?_
            show own_Go p.tables e below _ (s₁.setTop (mkF m 44 #[.val (.double d1), .second, .val (.long q2), .second, .val (.int p3), .val (.long q4), .second, .val (.double d5), .second, .val (.int p6), .val (.long q7), .second, .val (.double d8), .second, .val (.int p9), .val (.long q10), .second, .val (.double d11), .second] []))
            refine own_go (fun _ => XS.iconst X0.here hx rfl (hb hby d8_44)) ?_
            show own_Go p.tables e below _ (s₁.setTop (mkF m 45 #[.val (.double d1), .second, .val (.long q2), .second, .val (.int p3), .val (.long q4), .second, .val (.double d5), .second, .val (.int p6), .val (.long q7), .second, .val (.double d8), .second, .val (.int p9), .val (.long q10), .second, .val (.double d11), .second] [(.int (1 : Int32))]))
            refine own_go (fun _ => XS.goto X0.here hx rfl (pc0 := 45) (pc' := 49) rfl (hb hby d8_45) (by decide) (by decide)) ?_
            show own_Go p.tables e below _ (s₁.setTop (mkF m 49 #[.val (.double d1), .second, .val (.long q2), .second, .val (.int p3), .val (.long q4), .second, .val (.double d5), .second, .val (.int p6), .val (.long q7), .second, .val (.double d8), .second, .val (.int p9), .val (.long q10), .second, .val (.double d11), .second] [(.int (1 : Int32))]))
            refine own_retN X0 Bd.notSynchronized hx (t := .boolean) Bd.returns (by simp) (hb hby d8_49) (show Q8 Z d1 q2 p3 q4 d5 p6 q7 d8 p9 q10 d11 h0 n0 _ s₁.heap _ from by rw [e0]; exact ⟨(own_val ((if_neg hc12_2).trans ((if_neg hc26_9).trans ((if_neg hc28_27).trans ((if_pos hc34_34).trans ((if_pos hc35_41).trans rfl)))))), N0, rfl⟩) (by decide) (by decide)
          · skip
            refine own_go (fun _ => XS.ifYes X0.here hx rfl (pc0 := 41) (pc' := 48) rfl (hb hby d8_41) rfl ((if0 _ _).trans (feq hc35_41).2) (by decide) (by decide)) ?_
            show own_Go p.tables e below _ (s₁.setTop (mkF m 48 #[.val (.double d1), .second, .val (.long q2), .second, .val (.int p3), .val (.long q4), .second, .val (.double d5), .second, .val (.int p6), .val (.long q7), .second, .val (.double d8), .second, .val (.int p9), .val (.long q10), .second, .val (.double d11), .second] []))
            refine own_go (fun _ => XS.iconst X0.here hx rfl (hb hby d8_48)) ?_
            show own_Go p.tables e below _ (s₁.setTop (mkF m 49 #[.val (.double d1), .second, .val (.long q2), .second, .val (.int p3), .val (.long q4), .second, .val (.double d5), .second, .val (.int p6), .val (.long q7), .second, .val (.double d8), .second, .val (.int p9), .val (.long q10), .second, .val (.double d11), .second] [(.int (0 : Int32))]))
            refine own_retN X0 Bd.notSynchronized hx (t := .boolean) Bd.returns (by simp) (hb hby d8_49) (show Q8 Z d1 q2 p3 q4 d5 p6 q7 d8 p9 q10 d11 h0 n0 _ s₁.heap _ from by rw [e0]; exact ⟨(own_val ((if_neg hc12_2).trans ((if_neg hc26_9).trans ((if_neg hc28_27).trans ((if_pos hc34_34).trans ((if_neg hc35_41).trans rfl)))))), N0, rfl⟩) (by decide) (by decide)
        · skip
          refine own_go (fun _ => XS.ifYes X0.here hx rfl (pc0 := 34) (pc' := 50) rfl (hb hby d8_34) rfl ((if0 _ _).trans (feq hc34_34).2) (by decide) (by decide)) ?_
          show own_Go p.tables e below _ (s₁.setTop (mkF m 50 #[.val (.double d1), .second, .val (.long q2), .second, .val (.int p3), .val (.long q4), .second, .val (.double d5), .second, .val (.int p6), .val (.long q7), .second, .val (.double d8), .second, .val (.int p9), .val (.long q10), .second, .val (.double d11), .second] []))
          refine own_go (fun _ => XS.iload X0.here hx rfl (hb hby d8_50) rfl) ?_
          show own_Go p.tables e below _ (s₁.setTop (mkF m 52 #[.val (.double d1), .second, .val (.long q2), .second, .val (.int p3), .val (.long q4), .second, .val (.double d5), .second, .val (.int p6), .val (.long q7), .second, .val (.double d8), .second, .val (.int p9), .val (.long q10), .second, .val (.double d11), .second] [(.int p9)]))
          by_cases hc36_52 : p9 = (0 : Int32)
          · skip
            refine own_go (fun _ => XS.ifYes X0.here hx rfl (pc0 := 52) (pc' := 75) rfl (hb hby d8_52) rfl ((if0 _ _).trans (teq hc36_52).1) (by decide) (by decide)) ?_
            show own_Go p.tables e below _ (s₁.setTop (mkF m 75 #[.val (.double d1), .second, .val (.long q2), .second, .val (.int p3), .val (.long q4), .second, .val (.double d5), .second, .val (.int p6), .val (.long q7), .second, .val (.double d8), .second, .val (.int p9), .val (.long q10), .second, .val (.double d11), .second] []))
            refine own_go (fun _ => XS.dloadN X0.here hx rfl (hb hby d8_75) rfl) ?_
            show own_Go p.tables e below _ (s₁.setTop (mkF m 76 #[.val (.double d1), .second, .val (.long q2), .second, .val (.int p3), .val (.long q4), .second, .val (.double d5), .second, .val (.int p6), .val (.long q7), .second, .val (.double d8), .second, .val (.int p9), .val (.long q10), .second, .val (.double d11), .second] [(.double d1)]))
            refine own_go (fun _ => XS.dloadN X0.here hx rfl (hb hby d8_76) rfl) ?_
            show own_Go p.tables e below _ (s₁.setTop (mkF m 77 #[.val (.double d1), .second, .val (.long q2), .second, .val (.int p3), .val (.long q4), .second, .val (.double d5), .second, .val (.int p6), .val (.long q7), .second, .val (.double d8), .second, .val (.int p9), .val (.long q10), .second, .val (.double d11), .second] [(.double d1), (.double d1)]))
            refine own_go (fun _ => XS.dcmpS X0.here hx rfl (hb hby d8_77) rfl rfl) ?_
            show own_Go p.tables e below _ (s₁.setTop (mkF m 78 #[.val (.double d1), .second, .val (.long q2), .second, .val (.int p3), .val (.long q4), .second, .val (.double d5), .second, .val (.int p6), .val (.long q7), .second, .val (.double d8), .second, .val (.int p9), .val (.long q10), .second, .val (.double d11), .second] [(.int (cmpValue (FP.dcmp d1 d1) .l))]))
            by_cases hc37_78 : (cmpValue (FP.dcmp d1 d1) .l) = (0 : Int32)
            · skip
              refine own_go (fun _ => XS.ifYes X0.here hx rfl (pc0 := 78) (pc' := 85) rfl (hb hby d8_78) rfl ((if0 _ _).trans (teq hc37_78).1) (by decide) (by decide)) ?_
              show own_Go p.tables e below _ (s₁.setTop (mkF m 85 #[.val (.double d1), .second, .val (.long q2), .second, .val (.int p3), .val (.long q4), .second, .val (.double d5), .second, .val (.int p6), .val (.long q7), .second, .val (.double d8), .second, .val (.int p9), .val (.long q10), .second, .val (.double d11), .second] []))
              refine own_go (fun _ => XS.iconst X0.here hx rfl (hb hby d8_85)) ?_
              show own_Go p.tables e below _ (s₁.setTop (mkF m 86 #[.val (.double d1), .second, .val (.long q2), .second, .val (.int p3), .val (.long q4), .second, .val (.double d5), .second, .val (.int p6), .val (.long q7), .second, .val (.double d8), .second, .val (.int p9), .val (.long q10), .second, .val (.double d11), .second] [(.int (0 : Int32))]))
              refine own_retN X0 Bd.notSynchronized hx (t := .boolean) Bd.returns (by simp) (hb hby d8_86) (show Q8 Z d1 q2 p3 q4 d5 p6 q7 d8 p9 q10 d11 h0 n0 _ s₁.heap _ from by rw [e0]; exact ⟨(own_val ((if_neg hc12_2).trans ((if_neg hc26_9).trans ((if_neg hc28_27).trans ((if_neg hc34_34).trans ((if_pos hc36_52).trans ((if_pos hc37_78).trans rfl))))))), N0, rfl⟩) (by decide) (by decide)
            · skip
              refine own_go (fun _ => XS.ifNo X0.here hx rfl (hb hby d8_78) rfl ((if0 _ _).trans (feq hc37_78).1)) ?_
              show own_Go p.tables e below _ (s₁.setTop (mkF m 81 #[.val (.double d1), .second, .val (.long q2), .second, .val (.int p3), .val (.long q4), .second, .val (.double d5), .second, .val (.int p6), .val (.long q7), .second, .val (.double d8), .second, .val (.int p9), .val (.long q10), .second, .val (.double d11), .second] []))
              refine own_go (fun _ => XS.iconst X0.here hx rfl (hb hby d8_81)) ?_
              show own_Go p.tables e below _ (s₁.setTop (mkF m 82 #[.val (.double d1), .second, .val (.long q2), .second, .val (.int p3), .val (.long q4), .second, .val (.double d5), .second, .val (.int p6), .val (.long q7), .second, .val (.double d8), .second, .val (.int p9), .val (.long q10), .second, .val (.double d11), .second] [(.int (1 : Int32))]))
              refine own_go (fun _ => XS.goto X0.here hx rfl (pc0 := 82) (pc' := 86) rfl (hb hby d8_82) (by decide) (by decide)) ?_
              show own_Go p.tables e below _ (s₁.setTop (mkF m 86 #[.val (.double d1), .second, .val (.long q2), .second, .val (.int p3), .val (.long q4), .second, .val (.double d5), .second, .val (.int p6), .val (.long q7), .second, .val (.double d8), .second, .val (.int p9), .val (.long q10), .second, .val (.double d11), .second] [(.int (1 : Int32))]))
              refine own_retN X0 Bd.notSynchronized hx (t := .boolean) Bd.returns (by simp) (hb hby d8_86) (show Q8 Z d1 q2 p3 q4 d5 p6 q7 d8 p9 q10 d11 h0 n0 _ s₁.heap _ from by rw [e0]; exact ⟨(own_val ((if_neg hc12_2).trans ((if_neg hc26_9).trans ((if_neg hc28_27).trans ((if_neg hc34_34).trans ((if_pos hc36_52).trans ((if_neg hc37_78).trans rfl))))))), N0, rfl⟩) (by decide) (by decide)
          · skip
            refine own_go (fun _ => XS.ifNo X0.here hx rfl (hb hby d8_52) rfl ((if0 _ _).trans (feq hc36_52).1)) ?_
            show own_Go p.tables e below _ (s₁.setTop (mkF m 55 #[.val (.double d1), .second, .val (.long q2), .second, .val (.int p3), .val (.long q4), .second, .val (.double d5), .second, .val (.int p6), .val (.long q7), .second, .val (.double d8), .second, .val (.int p9), .val (.long q10), .second, .val (.double d11), .second] []))
            refine own_go (fun _ => XS.lloadN X0.here hx rfl (hb hby d8_55) rfl) ?_
            show own_Go p.tables e below _ (s₁.setTop (mkF m 56 #[.val (.double d1), .second, .val (.long q2), .second, .val (.int p3), .val (.long q4), .second, .val (.double d5), .second, .val (.int p6), .val (.long q7), .second, .val (.double d8), .second, .val (.int p9), .val (.long q10), .second, .val (.double d11), .second] [(.long q2)]))
            refine own_go (fun _ => XS.lload X0.here hx rfl (hb hby d8_56) rfl) ?_
            show own_Go p.tables e below _ (s₁.setTop (mkF m 58 #[.val (.double d1), .second, .val (.long q2), .second, .val (.int p3), .val (.long q4), .second, .val (.double d5), .second, .val (.int p6), .val (.long q7), .second, .val (.double d8), .second, .val (.int p9), .val (.long q10), .second, .val (.double d11), .second] [(.long q10), (.long q2)]))
            refine own_go (fun _ => XS.lcmp X0.here hx rfl (hb hby d8_58) rfl) ?_
            show own_Go p.tables e below _ (s₁.setTop (mkF m 59 #[.val (.double d1), .second, .val (.long q2), .second, .val (.int p3), .val (.long q4), .second, .val (.double d5), .second, .val (.int p6), .val (.long q7), .second, .val (.double d8), .second, .val (.int p9), .val (.long q10), .second, .val (.double d11), .second] [(.int (lcmpW q2 q10))]))
            by_cases hc38_59 : (lcmpW q2 q10) = (0 : Int32)
            · skip
              refine own_go (fun _ => XS.ifNo X0.here hx rfl (hb hby d8_59) rfl ((if0 _ _).trans (teq hc38_59).2)) ?_
              show own_Go p.tables e below _ (s₁.setTop (mkF m 62 #[.val (.double d1), .second, .val (.long q2), .second, .val (.int p3), .val (.long q4), .second, .val (.double d5), .second, .val (.int p6), .val (.long q7), .second, .val (.double d8), .second, .val (.int p9), .val (.long q10), .second, .val (.double d11), .second] []))
              refine own_go (fun _ => XS.dloadN X0.here hx rfl (hb hby d8_62) rfl) ?_
              show own_Go p.tables e below _ (s₁.setTop (mkF m 63 #[.val (.double d1), .second, .val (.long q2), .second, .val (.int p3), .val (.long q4), .second, .val (.double d5), .second, .val (.int p6), .val (.long q7), .second, .val (.double d8), .second, .val (.int p9), .val (.long q10), .second, .val (.double d11), .second] [(.double d1)]))
              refine own_go (fun _ => XS.dload X0.here hx rfl (hb hby d8_63) rfl) ?_
              show own_Go p.tables e below _ (s₁.setTop (mkF m 65 #[.val (.double d1), .second, .val (.long q2), .second, .val (.int p3), .val (.long q4), .second, .val (.double d5), .second, .val (.int p6), .val (.long q7), .second, .val (.double d8), .second, .val (.int p9), .val (.long q10), .second, .val (.double d11), .second] [(.double d11), (.double d1)]))
              refine own_go (fun _ => XS.dcmpS X0.here hx rfl (hb hby d8_65) rfl rfl) ?_
              show own_Go p.tables e below _ (s₁.setTop (mkF m 66 #[.val (.double d1), .second, .val (.long q2), .second, .val (.int p3), .val (.long q4), .second, .val (.double d5), .second, .val (.int p6), .val (.long q7), .second, .val (.double d8), .second, .val (.int p9), .val (.long q10), .second, .val (.double d11), .second] [(.int (cmpValue (FP.dcmp d1 d11) .l))]))
              by_cases hc39_66 : (cmpValue (FP.dcmp d1 d11) .l) = (0 : Int32)
              · skip
                refine own_go (fun _ => XS.ifNo X0.here hx rfl (hb hby d8_66) rfl ((if0 _ _).trans (teq hc39_66).2)) ?_
                show own_Go p.tables e below _ (s₁.setTop (mkF m 69 #[.val (.double d1), .second, .val (.long q2), .second, .val (.int p3), .val (.long q4), .second, .val (.double d5), .second, .val (.int p6), .val (.long q7), .second, .val (.double d8), .second, .val (.int p9), .val (.long q10), .second, .val (.double d11), .second] []))
                refine own_go (fun _ => XS.iconst X0.here hx rfl (hb hby d8_69)) ?_
                show own_Go p.tables e below _ (s₁.setTop (mkF m 70 #[.val (.double d1), .second, .val (.long q2), .second, .val (.int p3), .val (.long q4), .second, .val (.double d5), .second, .val (.int p6), .val (.long q7), .second, .val (.double d8), .second, .val (.int p9), .val (.long q10), .second, .val (.double d11), .second] [(.int (1 : Int32))]))
                refine own_go (fun _ => XS.goto X0.here hx rfl (pc0 := 70) (pc' := 74) rfl (hb hby d8_70) (by decide) (by decide)) ?_
                show own_Go p.tables e below _ (s₁.setTop (mkF m 74 #[.val (.double d1), .second, .val (.long q2), .second, .val (.int p3), .val (.long q4), .second, .val (.double d5), .second, .val (.int p6), .val (.long q7), .second, .val (.double d8), .second, .val (.int p9), .val (.long q10), .second, .val (.double d11), .second] [(.int (1 : Int32))]))
                refine own_retN X0 Bd.notSynchronized hx (t := .boolean) Bd.returns (by simp) (hb hby d8_74) (show Q8 Z d1 q2 p3 q4 d5 p6 q7 d8 p9 q10 d11 h0 n0 _ s₁.heap _ from by rw [e0]; exact ⟨(own_val ((if_neg hc12_2).trans ((if_neg hc26_9).trans ((if_neg hc28_27).trans ((if_neg hc34_34).trans ((if_neg hc36_52).trans ((if_pos hc38_59).trans ((if_pos hc39_66).trans rfl)))))))), N0, rfl⟩) (by decide) (by decide)
              · skip
                refine own_go (fun _ => XS.ifYes X0.here hx rfl (pc0 := 66) (pc' := 73) rfl (hb hby d8_66) rfl ((if0 _ _).trans (feq hc39_66).2) (by decide) (by decide)) ?_
                show own_Go p.tables e below _ (s₁.setTop (mkF m 73 #[.val (.double d1), .second, .val (.long q2), .second, .val (.int p3), .val (.long q4), .second, .val (.double d5), .second, .val (.int p6), .val (.long q7), .second, .val (.double d8), .second, .val (.int p9), .val (.long q10), .second, .val (.double d11), .second] []))
                refine own_go (fun _ => XS.iconst X0.here hx rfl (hb hby d8_73)) ?_
                show own_Go p.tables e below _ (s₁.setTop (mkF m 74 #[.val (.double d1), .second, .val (.long q2), .second, .val (.int p3), .val (.long q4), .second, .val (.double d5), .second, .val (.int p6), .val (.long q7), .second, .val (.double d8), .second, .val (.int p9), .val (.long q10), .second, .val (.double d11), .second] [(.int (0 : Int32))]))
                refine own_retN X0 Bd.notSynchronized hx (t := .boolean) Bd.returns (by simp) (hb hby d8_74) (show Q8 Z d1 q2 p3 q4 d5 p6 q7 d8 p9 q10 d11 h0 n0 _ s₁.heap _ from by rw [e0]; exact ⟨(own_val ((if_neg hc12_2).trans ((if_neg hc26_9).trans ((if_neg hc28_27).trans ((if_neg hc34_34).trans ((if_neg hc36_52).trans ((if_pos hc38_59).trans ((if_neg hc39_66).trans rfl)))))))), N0, rfl⟩) (by decide) (by decide)
            · skip
              refine own_go (fun _ => XS.ifYes X0.here hx rfl (pc0 := 59) (pc' := 75) rfl (hb hby d8_59) rfl ((if0 _ _).trans (feq hc38_59).2) (by decide) (by decide)) ?_
              show own_Go p.tables e below _ (s₁.setTop (mkF m 75 #[.val (.double d1), .second, .val (.long q2), .second, .val (.int p3), .val (.long q4), .second, .val (.double d5), .second, .val (.int p6), .val (.long q7), .second, .val (.double d8), .second, .val (.int p9), .val (.long q10), .second, .val (.double d11), .second] []))
              refine own_go (fun _ => XS.dloadN X0.here hx rfl (hb hby d8_75) rfl) ?_
              show own_Go p.tables e below _ (s₁.setTop (mkF m 76 #[.val (.double d1), .second, .val (.long q2), .second, .val (.int p3), .val (.long q4), .second, .val (.double d5), .second, .val (.int p6), .val (.long q7), .second, .val (.double d8), .second, .val (.int p9), .val (.long q10), .second, .val (.double d11), .second] [(.double d1)]))
              refine own_go (fun _ => XS.dloadN X0.here hx rfl (hb hby d8_76) rfl) ?_
              show own_Go p.tables e below _ (s₁.setTop (mkF m 77 #[.val (.double d1), .second, .val (.long q2), .second, .val (.int p3), .val (.long q4), .second, .val (.double d5), .second, .val (.int p6), .val (.long q7), .second, .val (.double d8), .second, .val (.int p9), .val (.long q10), .second, .val (.double d11), .second] [(.double d1), (.double d1)]))
              refine own_go (fun _ => XS.dcmpS X0.here hx rfl (hb hby d8_77) rfl rfl) ?_
              show own_Go p.tables e below _ (s₁.setTop (mkF m 78 #[.val (.double d1), .second, .val (.long q2), .second, .val (.int p3), .val (.long q4), .second, .val (.double d5), .second, .val (.int p6), .val (.long q7), .second, .val (.double d8), .second, .val (.int p9), .val (.long q10), .second, .val (.double d11), .second] [(.int (cmpValue (FP.dcmp d1 d1) .l))]))
              by_cases hc40_78 : (cmpValue (FP.dcmp d1 d1) .l) = (0 : Int32)
              · skip
                refine own_go (fun _ => XS.ifYes X0.here hx rfl (pc0 := 78) (pc' := 85) rfl (hb hby d8_78) rfl ((if0 _ _).trans (teq hc40_78).1) (by decide) (by decide)) ?_
                show own_Go p.tables e below _ (s₁.setTop (mkF m 85 #[.val (.double d1), .second, .val (.long q2), .second, .val (.int p3), .val (.long q4), .second, .val (.double d5), .second, .val (.int p6), .val (.long q7), .second, .val (.double d8), .second, .val (.int p9), .val (.long q10), .second, .val (.double d11), .second] []))
                refine own_go (fun _ => XS.iconst X0.here hx rfl (hb hby d8_85)) ?_
                show own_Go p.tables e below _ (s₁.setTop (mkF m 86 #[.val (.double d1), .second, .val (.long q2), .second, .val (.int p3), .val (.long q4), .second, .val (.double d5), .second, .val (.int p6), .val (.long q7), .second, .val (.double d8), .second, .val (.int p9), .val (.long q10), .second, .val (.double d11), .second] [(.int (0 : Int32))]))
                refine own_retN X0 Bd.notSynchronized hx (t := .boolean) Bd.returns (by simp) (hb hby d8_86) (show Q8 Z d1 q2 p3 q4 d5 p6 q7 d8 p9 q10 d11 h0 n0 _ s₁.heap _ from by rw [e0]; exact ⟨(own_val ((if_neg hc12_2).trans ((if_neg hc26_9).trans ((if_neg hc28_27).trans ((if_neg hc34_34).trans ((if_neg hc36_52).trans ((if_neg hc38_59).trans ((if_pos hc40_78).trans rfl)))))))), N0, rfl⟩) (by decide) (by decide)
              · skip
                refine own_go (fun _ => XS.ifNo X0.here hx rfl (hb hby d8_78) rfl ((if0 _ _).trans (feq hc40_78).1)) ?_
                show own_Go p.tables e below _ (s₁.setTop (mkF m 81 #[.val (.double d1), .second, .val (.long q2), .second, .val (.int p3), .val (.long q4), .second, .val (.double d5), .second, .val (.int p6), .val (.long q7), .second, .val (.double d8), .second, .val (.int p9), .val (.long q10), .second, .val (.double d11), .second] []))
                refine own_go (fun _ => XS.iconst X0.here hx rfl (hb hby d8_81)) ?_
                show own_Go p.tables e below _ (s₁.setTop (mkF m 82 #[.val (.double d1), .second, .val (.long q2), .second, .val (.int p3), .val (.long q4), .second, .val (.double d5), .second, .val (.int p6), .val (.long q7), .second, .val (.double d8), .second, .val (.int p9), .val (.long q10), .second, .val (.double d11), .second] [(.int (1 : Int32))]))
                refine own_go (fun _ => XS.goto X0.here hx rfl (pc0 := 82) (pc' := 86) rfl (hb hby d8_82) (by decide) (by decide)) ?_
                show own_Go p.tables e below _ (s₁.setTop (mkF m 86 #[.val (.double d1), .second, .val (.long q2), .second, .val (.int p3), .val (.long q4), .second, .val (.double d5), .second, .val (.int p6), .val (.long q7), .second, .val (.double d8), .second, .val (.int p9), .val (.long q10), .second, .val (.double d11), .second] [(.int (1 : Int32))]))
                refine own_retN X0 Bd.notSynchronized hx (t := .boolean) Bd.returns (by simp) (hb hby d8_86) (show Q8 Z d1 q2 p3 q4 d5 p6 q7 d8 p9 q10 d11 h0 n0 _ s₁.heap _ from by rw [e0]; exact ⟨(own_val ((if_neg hc12_2).trans ((if_neg hc26_9).trans ((if_neg hc28_27).trans ((if_neg hc34_34).trans ((if_neg hc36_52).trans ((if_neg hc38_59).trans ((if_neg hc40_78).trans rfl)))))))), N0, rfl⟩) (by decide) (by decide)
theorem d9_0 : decode prog_2_method_3_code 0 = .ok (.aload_n 0, 1) := by decide +kernel
theorem d9_1 : decode prog_2_method_3_code 1 = .ok (.getfield 33, 3) := by decide +kernel
theorem d9_4 : decode prog_2_method_3_code 4 = .ok (.aload_n 0, 1) := by decide +kernel
theorem d9_5 : decode prog_2_method_3_code 5 = .ok (.getfield 7, 3) := by decide +kernel
theorem d9_8 : decode prog_2_method_3_code 8 = .ok (.if_icmp .ne 21, 3) := by decide +kernel
theorem d9_11 : decode prog_2_method_3_code 11 = .ok (.aload_n 0, 1) := by decide +kernel
theorem d9_12 : decode prog_2_method_3_code 12 = .ok (.getfield 21, 3) := by decide +kernel
theorem d9_15 : decode prog_2_method_3_code 15 = .ok (.ldc2_w 36, 3) := by decide +kernel
theorem d9_18 : decode prog_2_method_3_code 18 = .ok (.invokestatic 38, 3) := by decide +kernel
theorem d9_21 : decode prog_2_method_3_code 21 = .ok (.aload_n 0, 1) := by decide +kernel
theorem d9_22 : decode prog_2_method_3_code 22 = .ok (.iconst 0, 1) := by decide +kernel
theorem d9_23 : decode prog_2_method_3_code 23 = .ok (.putfield 33, 3) := by decide +kernel
theorem d9_26 : decode prog_2_method_3_code 26 = .ok (.goto 87, 3) := by decide +kernel
theorem d9_29 : decode prog_2_method_3_code 29 = .ok (.iconst 4, 1) := by decide +kernel
theorem d9_30 : decode prog_2_method_3_code 30 = .ok (.aload_n 0, 1) := by decide +kernel
theorem d9_31 : decode prog_2_method_3_code 31 = .ok (.getfield 33, 3) := by decide +kernel
theorem d9_34 : decode prog_2_method_3_code 34 = .ok (.iconst 1, 1) := by decide +kernel
theorem d9_35 : decode prog_2_method_3_code 35 = .ok (.iadd, 1) := by decide +kernel
theorem d9_36 : decode prog_2_method_3_code 36 = .ok (.imul, 1) := by decide +kernel
theorem d9_37 : decode prog_2_method_3_code 37 = .ok (.iconst 3, 1) := by decide +kernel
theorem d9_38 : decode prog_2_method_3_code 38 = .ok (.aload_n 0, 1) := by decide +kernel
theorem d9_39 : decode prog_2_method_3_code 39 = .ok (.getfield 21, 3) := by decide +kernel
theorem d9_42 : decode prog_2_method_3_code 42 = .ok (.arraylength, 1) := by decide +kernel
theorem d9_43 : decode prog_2_method_3_code 43 = .ok (.imul, 1) := by decide +kernel
theorem d9_44 : decode prog_2_method_3_code 44 = .ok (.if_icmp .le 69, 3) := by decide +kernel
theorem d9_113 : decode prog_2_method_3_code 113 = .ok (.aload_n 0, 1) := by decide +kernel
theorem d9_114 : decode prog_2_method_3_code 114 = .ok (.lload_n 1, 1) := by decide +kernel
theorem d9_115 : decode prog_2_method_3_code 115 = .ok (.dload_n 3, 1) := by decide +kernel
theorem d9_116 : decode prog_2_method_3_code 116 = .ok (.invokevirtual 44, 3) := by decide +kernel
theorem d9_119 : decode prog_2_method_3_code 119 = .ok (.aload_n 0, 1) := by decide +kernel
theorem d9_120 : decode prog_2_method_3_code 120 = .ok (.dup, 1) := by decide +kernel
theorem d9_121 : decode prog_2_method_3_code 121 = .ok (.getfield 33, 3) := by decide +kernel
theorem d9_124 : decode prog_2_method_3_code 124 = .ok (.iconst 1, 1) := by decide +kernel
theorem d9_125 : decode prog_2_method_3_code 125 = .ok (.iadd, 1) := by decide +kernel
theorem d9_126 : decode prog_2_method_3_code 126 = .ok (.putfield 33, 3) := by decide +kernel
theorem d9_129 : decode prog_2_method_3_code 129 = .ok (.return_, 1) := by decide +kernel
theorem pn_9 : plainName "com/example/outis/outis/clustering/KeptCharges" = true := by first | (simp [plainName, overriddenIn]; done) | decide +kernel
theorem pd_7 : parseMethodDescriptor "(JD)V" = some ⟨[.long, .double], none⟩ := by decide +kernel
theorem ef_9 (m : MethodId) (a1 : Addr) (q2 : Int64) (d3 : UInt64) : entryFrame m #[(.ref a1), (.long q2), (.double d3)] 8 = mkF m 0 #[.val (.ref a1), .val (.long q2), .second, .val (.double d3), .second, .unset, .unset, .unset] [] := by first | (simp [entryFrame, mkF, argsToLocals, Value.category]; done) | rfl
def Q9 (Z : State) (a1 : Addr) (q2 : Int64) (d3 : UInt64) (zs : Int32) (zm : Int32) (K : Addr) (D : Addr) (f : Nat → Int64) (g : Nat → UInt64) (kc : ClassId) (kd : ClassId) (h0 : Heap) (n0 : Nat) (v : Option Value) (h : Heap) (L : List Loc) : Prop := v = none ∧ Fr n0 L ∧ Keep h0 h [K, a1, D] ∧ Exa Z h a1 "com/example/outis/outis/clustering/KeptCharges" ∧ Fld Z h a1 "com/example/outis/outis/clustering/KeptCharges" "size" "I" (.int (own_sz zs zm)) ∧ Fld Z h a1 "com/example/outis/outis/clustering/KeptCharges" "most" "I" (.int zm) ∧ Fld Z h a1 "com/example/outis/outis/clustering/KeptCharges" "bits" "I" (.int (4 : Int32)) ∧ Fld Z h a1 "com/example/outis/outis/clustering/KeptCharges" "keys" "[J" (.ref K) ∧ Fld Z h a1 "com/example/outis/outis/clustering/KeptCharges" "charges" "[D" (.ref D) ∧ Arv Z h K kc .long (16 : Int32) (own_L (own_nk zs zm f q2)) (.long (0 : Int64)) ∧ Arv Z h D kd .double (16 : Int32) (own_M (own_nd zs zm f g q2 d3)) (.double 0)
set_option maxRecDepth 65536 in
set_option maxHeartbeats 40000000 in
theorem rm9 (l : Launch) (Z : State) (a0 : Array Value) (hw : ∀ d ∈ tables_1, d.before a0 Z = true) (ws : List Jvm.Cond) (a1 : Addr) (q2 : Int64) (d3 : UInt64) (zs : Int32) (zm : Int32) (K : Addr) (D : Addr) (f : Nat → Int64) (g : Nat → UInt64) (kc : ClassId) (kd : ClassId) (h0 : Heap) (n0 : Nat) (Z0 : n0 ≤ h0.size) (F_size_a1 : Fld Z h0 a1 "com/example/outis/outis/clustering/KeptCharges" "size" "I" (.int zs)) (F_most_a1 : Fld Z h0 a1 "com/example/outis/outis/clustering/KeptCharges" "most" "I" (.int zm)) (F_bits_a1 : Fld Z h0 a1 "com/example/outis/outis/clustering/KeptCharges" "bits" "I" (.int (4 : Int32))) (F_keys_a1 : Fld Z h0 a1 "com/example/outis/outis/clustering/KeptCharges" "keys" "[J" (.ref K)) (F_charges_a1 : Fld Z h0 a1 "com/example/outis/outis/clustering/KeptCharges" "charges" "[D" (.ref D)) (E_a1 : Exa Z h0 a1 "com/example/outis/outis/clustering/KeptCharges") (V_K : Arv Z h0 K kc .long (16 : Int32) (own_L f) (.long (0 : Int64))) (V_D : Arv Z h0 D kd .double (16 : Int32) (own_M g) (.double 0)) (nKD : K ≠ D) (hlt : ¬ (48 : Int32) < (4 : Int32) * (zs + (1 : Int32))) (hs : ¬ zs = zm → own_fin f q2) (g_a1 : n0 ≤ a1) (g_K : n0 ≤ K) (g_D : n0 ≤ D) :
    MetFree l (⟨"com/example/outis/outis/clustering/KeptCharges", "put", "(JD)V"⟩ : MethodName) (head1 (Jvm.Cond.code (⟨"com/example/outis/outis/clustering/KeptCharges", "put", "(JD)V"⟩ : MethodName) prog_2_method_3_code 8 none :: ws) ({ frames := 2, cells := 0, slots := 0, locals := 32 } : Room)) (fun a U => a = #[(.ref a1), (.long q2), (.double d3)] ∧ Z.Warmed39 U.vm ∧ U.heap = h0) (fun _ _ _ _ _ => True) (fun _ U o U' => ∃ v L, o = .returned v ∧ Q9 Z a1 q2 d3 zs zm K D f g kc kd h0 n0 v U'.heap L ∧ FrameEnd U o U' L ({ frames := 2, cells := 0, slots := 0, locals := 32 } : Room).cells ({ frames := 2, cells := 0, slots := 0, locals := 32 } : Room).slots) := by
  refine MetFree.of_bodySF (plainFor_of_name pn_9) hisR ?_
  intro p e s m args below meth c s₁ Bd hml0 hP hK
  obtain ⟨rfl, hZ, hh⟩ := hP
  have hx := Bd.exec
  have hby := Bd.bytes
  have hml : c.maxLocals = 8 := hml0
  have hown : s.vm.findClass "com/example/outis/outis/clustering/KeptCharges" = some m.cls := findClass_of_methodNamed Bd.named
  have hnm := (name_of_methodNamed Bd.named Bd.method).1
  have X0 : Stand p l e ({ frames := 2, cells := 0, slots := 0, locals := 32 } : Room) s m #[(.ref a1), (.long q2), (.double d3)] below meth c s₁ [] 0 0 := Stand.of_body Bd
  have e0 : s₁.heap = h0 := by rw [← hh, Bd.state]; rfl
  have N0 := Fr.nil n0
  show own_Go p.tables e below (own_Fin below s (Q9 Z a1 q2 d3 zs zm K D f g kc kd h0 n0) ({ frames := 2, cells := 0, slots := 0, locals := 32 } : Room).cells ({ frames := 2, cells := 0, slots := 0, locals := 32 } : Room).slots) (s₁.setTop (entryFrame m #[(.ref a1), (.long q2), (.double d3)] 8))
  refine own_go (S' := s₁.setTop (mkF m 0 #[.val (.ref a1), .val (.long q2), .second, .val (.double d3), .second, .unset, .unset, .unset] [])) (fun t k => castTop (ef_9 m a1 q2 d3) k) ?_
  show own_Go p.tables e below _ (s₁.setTop (mkF m 0 #[.val (.ref a1), .val (.long q2), .second, .val (.double d3), .second, .unset, .unset, .unset] []))
  refine own_go (fun _ => XS.aloadN X0.here hx rfl (hb hby d9_0) rfl rfl) ?_
  show own_Go p.tables e below _ (s₁.setTop (mkF m 1 #[.val (.ref a1), .val (.long q2), .second, .val (.double d3), .second, .unset, .unset, .unset] [(.ref a1)]))
  obtain ⟨T4, X4, e4, st4⟩ := getF X0 hx hZ hown (host := "") (Or.inl (hw _ (List.mem_of_getElem? (i := 54) rfl))) Via.refl e0 F_size_a1 (g := (mkF m 1 #[.val (.ref a1), .val (.long q2), .second, .val (.double d3), .second, .unset, .unset, .unset] [(.ref a1)])) rfl rfl (hb hby d9_1)
  refine own_go st4 ?_
  show own_Go p.tables e below _ (T4.setTop (mkF m 4 #[.val (.ref a1), .val (.long q2), .second, .val (.double d3), .second, .unset, .unset, .unset] [(.int zs)]))
  refine own_go (fun _ => XS.aloadN X4.here hx rfl (hb hby d9_4) rfl rfl) ?_
  show own_Go p.tables e below _ (T4.setTop (mkF m 5 #[.val (.ref a1), .val (.long q2), .second, .val (.double d3), .second, .unset, .unset, .unset] [(.ref a1), (.int zs)]))
  obtain ⟨T5, X5, e5, st5⟩ := getF X4 hx hZ hown (host := "") (Or.inl (hw _ (List.mem_of_getElem? (i := 10) rfl))) Via.refl e4 F_most_a1 (g := (mkF m 5 #[.val (.ref a1), .val (.long q2), .second, .val (.double d3), .second, .unset, .unset, .unset] [(.ref a1), (.int zs)])) rfl rfl (hb hby d9_5)
  refine own_go st5 ?_
  show own_Go p.tables e below _ (T5.setTop (mkF m 8 #[.val (.ref a1), .val (.long q2), .second, .val (.double d3), .second, .unset, .unset, .unset] [(.int zm), (.int zs)]))
  by_cases hc6_8 : zs = zm
  · skip
    refine own_go (fun _ => XS.icmpNo X5.here hx rfl (hb hby d9_8) rfl (teq hc6_8).2) ?_
    show own_Go p.tables e below _ (T5.setTop (mkF m 11 #[.val (.ref a1), .val (.long q2), .second, .val (.double d3), .second, .unset, .unset, .unset] []))
    refine own_go (fun _ => XS.aloadN X5.here hx rfl (hb hby d9_11) rfl rfl) ?_
    show own_Go p.tables e below _ (T5.setTop (mkF m 12 #[.val (.ref a1), .val (.long q2), .second, .val (.double d3), .second, .unset, .unset, .unset] [(.ref a1)]))
    obtain ⟨T7, X7, e7, st7⟩ := getF X5 hx hZ hown (host := "") (Or.inl (hw _ (List.mem_of_getElem? (i := 17) rfl))) Via.refl e5 F_keys_a1 (g := (mkF m 12 #[.val (.ref a1), .val (.long q2), .second, .val (.double d3), .second, .unset, .unset, .unset] [(.ref a1)])) rfl rfl (hb hby d9_12)
    refine own_go st7 ?_
    show own_Go p.tables e below _ (T7.setTop (mkF m 15 #[.val (.ref a1), .val (.long q2), .second, .val (.double d3), .second, .unset, .unset, .unset] [(.ref K)]))
    refine own_go (X7.ldc2Long hx hown (mvT hZ (hw _ (List.mem_of_getElem? (i := 19) rfl))) (g := (mkF m 15 #[.val (.ref a1), .val (.long q2), .second, .val (.double d3), .second, .unset, .unset, .unset] [(.ref K)])) rfl (hb hby d9_15)) ?_
    show own_Go p.tables e below _ (T7.setTop (mkF m 18 #[.val (.ref a1), .val (.long q2), .second, .val (.double d3), .second, .unset, .unset, .unset] [(.long (-1 : Int64)), (.ref K)]))
    obtain ⟨v8, T8, L8, X8, hQ8, st8⟩ := own_tidyS X7 (Jvm.LawKit.callS X7 hx (y := (⟨"java/util/Arrays", "fill", "([JJ)V"⟩ : MethodName)) hown (mvT hZ (hw _ (List.mem_of_getElem? (i := 20) rfl))) (mvT hZ (hw _ (List.mem_of_getElem? (i := 21) rfl))) (mvT hZ (hw _ (List.mem_of_getElem? (i := 22) rfl))) (mvT hZ (hw _ (List.mem_of_getElem? (i := 23) rfl))) (by decide) (backOf (W := 0) (rm4 l Z a0 hw [] K (-1 : Int64) f kc h0 n0 Z0 V_K g_K) hZ (hw _ (List.mem_of_getElem? (i := 23) rfl)) (hw _ (List.mem_of_getElem? (i := 22) rfl)) (by decide) (by decide)) (g := (mkF m 18 #[.val (.ref a1), .val (.long q2), .second, .val (.double d3), .second, .unset, .unset, .unset] [(.long (-1 : Int64)), (.ref K)])) rfl (by rw [hml]; rfl) (argsL := [(.ref K), (.long (-1 : Int64))]) (rest := []) (lenOf pd_2 rfl) rfl (by show 2 * 0 + _ ≤ _; exact Nat.le_of_eq rfl) (hb hby d9_18) (fun _ _ => ⟨rfl, e7, (by decide : 0 + 0 ≤ _), (by decide : 0 + 0 ≤ _)⟩)) (c' := 0) (n' := 0) rfl rfl
    obtain ⟨rfl, N8q, Kc8, F8_0⟩ := hQ8
    have N8 := Fr.app N0 N8q
    refine own_go st8 ?_
    have K8 : Keep h0 T8.heap [K, a1, D] := (Keep.refl h0 [K, a1, D]).trans Kc8 (allS (Or.inl (List.mem_of_getElem? (i := 0) rfl)) all0)
    show own_Go p.tables e below _ (T8.setTop (mkF m 21 #[.val (.ref a1), .val (.long q2), .second, .val (.double d3), .second, .unset, .unset, .unset] []))
    refine own_go (fun _ => XS.aloadN X8.here hx rfl (hb hby d9_21) rfl rfl) ?_
    show own_Go p.tables e below _ (T8.setTop (mkF m 22 #[.val (.ref a1), .val (.long q2), .second, .val (.double d3), .second, .unset, .unset, .unset] [(.ref a1)]))
    refine own_go (fun _ => XS.iconst X8.here hx rfl (hb hby d9_22)) ?_
    show own_Go p.tables e below _ (T8.setTop (mkF m 23 #[.val (.ref a1), .val (.long q2), .second, .val (.double d3), .second, .unset, .unset, .unset] [(.int (0 : Int32)), (.ref a1)]))
    obtain ⟨T9, h9, X9, e9, W9, st9⟩ := putF X8 hx hZ hown (host := "") (Or.inl (hw _ (List.mem_of_getElem? (i := 54) rfl))) Via.refl rfl (F_size_a1.keep Kc8 (ninS (E_a1.neArv V_K (hw _ (List.mem_of_getElem? (i := 2) rfl))) nin0)) (E_a1.keep Kc8) (Or.inl (hw _ (List.mem_of_getElem? (i := 55) rfl))) (hw _ (List.mem_of_getElem? (i := 2) rfl)) (ty := .int) (by decide) rfl rfl (g := (mkF m 23 #[.val (.ref a1), .val (.long q2), .second, .val (.double d3), .second, .unset, .unset, .unset] [(.int (0 : Int32)), (.ref a1)])) rfl rfl (hb hby d9_23)
    refine own_go st9 ?_
    have Fw9 := (F_size_a1.keep Kc8 (ninS (E_a1.neArv V_K (hw _ (List.mem_of_getElem? (i := 2) rfl))) nin0)).same W9
    have K9 : Keep h0 h9 [K, a1, D] := K8.wr W9 (Or.inl (List.mem_of_getElem? (i := 1) rfl))
    have N9 := Fr.snoc X9 N8 g_a1
    show own_Go p.tables e below _ (T9.setTop (mkF m 26 #[.val (.ref a1), .val (.long q2), .second, .val (.double d3), .second, .unset, .unset, .unset] []))
    refine own_go (fun _ => XS.goto X9.here hx rfl (pc0 := 26) (pc' := 113) rfl (hb hby d9_26) (by decide) (by decide)) ?_
    show own_Go p.tables e below _ (T9.setTop (mkF m 113 #[.val (.ref a1), .val (.long q2), .second, .val (.double d3), .second, .unset, .unset, .unset] []))
    refine own_go (fun _ => XS.aloadN X9.here hx rfl (hb hby d9_113) rfl rfl) ?_
    show own_Go p.tables e below _ (T9.setTop (mkF m 114 #[.val (.ref a1), .val (.long q2), .second, .val (.double d3), .second, .unset, .unset, .unset] [(.ref a1)]))
    refine own_go (fun _ => XS.lloadN X9.here hx rfl (hb hby d9_114) rfl) ?_
    show own_Go p.tables e below _ (T9.setTop (mkF m 115 #[.val (.ref a1), .val (.long q2), .second, .val (.double d3), .second, .unset, .unset, .unset] [(.long q2), (.ref a1)]))
    refine own_go (fun _ => XS.dloadN X9.here hx rfl (hb hby d9_115) rfl) ?_
    show own_Go p.tables e below _ (T9.setTop (mkF m 116 #[.val (.ref a1), .val (.long q2), .second, .val (.double d3), .second, .unset, .unset, .unset] [(.double d3), (.long q2), (.ref a1)]))
    obtain ⟨cq10, q10, q10'⟩ := ((E_a1.keep Kc8).wr W9).cell
    obtain ⟨v10, T10, L10, X10, hQ10, st10⟩ := own_tidyV X9 (X9.privateBack hx (y := (⟨"com/example/outis/outis/clustering/KeptCharges", "keep", "(JD)V"⟩ : MethodName)) hown (mvT hZ (hw _ (List.mem_of_getElem? (i := 56) rfl))) (mvT hZ (hw _ (List.mem_of_getElem? (i := 57) rfl))) (own_selP (z := (⟨"com/example/outis/outis/clustering/KeptCharges", "get", "(J)D"⟩ : MethodName)) rfl (mvT hZ (hw _ (List.mem_of_getElem? (i := 37) rfl))) (Cond.privateMethod_at (mvP hZ (hw _ (List.mem_of_getElem? (i := 58) rfl)) (args := #[]))) (mvT hZ (hw _ (List.mem_of_getElem? (i := 57) rfl))) (by decide)) (Cond.privateMethod_at (mvP hZ (hw _ (List.mem_of_getElem? (i := 58) rfl)) (args := #[]))) (mvT hZ (hw _ (List.mem_of_getElem? (i := 59) rfl))) (by decide) (backOf (W := 0) (rm10 l Z a0 hw [] a1 q2 d3 K D (fun _ => (-1 : Int64)) g kc kd h9 n0 (Nat.le_trans (Nat.le_trans Z0 Kc8.1) (Keep.of_wr W9).1) ((F_bits_a1.keep Kc8 (ninS (E_a1.neArv V_K (hw _ (List.mem_of_getElem? (i := 2) rfl))) nin0)).other W9 (Or.inr (slot_ne (Or.inl (hw _ (List.mem_of_getElem? (i := 33) rfl))) (Or.inl (hw _ (List.mem_of_getElem? (i := 55) rfl))) (by decide) (t := .int) (t' := .int) (by decide) (by decide)))) ((F_keys_a1.keep Kc8 (ninS (E_a1.neArv V_K (hw _ (List.mem_of_getElem? (i := 2) rfl))) nin0)).other W9 (Or.inr (slot_ne (Or.inl (hw _ (List.mem_of_getElem? (i := 18) rfl))) (Or.inl (hw _ (List.mem_of_getElem? (i := 55) rfl))) (by decide) (t := (.array .long)) (t' := .int) (by decide) (by decide)))) ((F_charges_a1.keep Kc8 (ninS (E_a1.neArv V_K (hw _ (List.mem_of_getElem? (i := 2) rfl))) nin0)).other W9 (Or.inr (slot_ne (Or.inl (hw _ (List.mem_of_getElem? (i := 26) rfl))) (Or.inl (hw _ (List.mem_of_getElem? (i := 55) rfl))) (by decide) (t := (.array .double)) (t' := .int) (by decide) (by decide)))) ((E_a1.keep Kc8).wr W9) (F8_0.other W9 (Ne.symm (E_a1.neArv V_K (hw _ (List.mem_of_getElem? (i := 2) rfl))))) ((V_D.keep Kc8 (ninS (Ne.symm nKD) nin0)).other W9 (Ne.symm (E_a1.neArv V_D (hw _ (List.mem_of_getElem? (i := 2) rfl))))) nKD (own_finN _) g_K g_D) hZ (hw _ (List.mem_of_getElem? (i := 59) rfl)) (hw _ (List.mem_of_getElem? (i := 3) rfl)) (by decide) (by decide)) (g := (mkF m 116 #[.val (.ref a1), .val (.long q2), .second, .val (.double d3), .second, .unset, .unset, .unset] [(.double d3), (.long q2), (.ref a1)])) rfl (by rw [hml]; rfl) (Steps.refl _) (a := a1) (by rw [e9]; exact q10) q10' (argsL := [(.long q2), (.double d3)]) (rest := []) (lenOf pd_7 rfl) rfl (by show 2 * 0 + _ ≤ _; exact Nat.le_of_eq rfl) (hb hby d9_116) (fun _ _ => ⟨rfl, e9, (by decide : 0 + 0 ≤ _), (by decide : 0 + 0 ≤ _)⟩)) (c' := 0) (n' := 0) rfl rfl
    obtain ⟨rfl, N10q, Kc10, F10_0, F10_1⟩ := hQ10
    have N10 := Fr.app N9 N10q
    refine own_via st10 ?_
    have K10 : Keep h0 T10.heap [K, a1, D] := K9.trans Kc10 (allS (Or.inl (List.mem_of_getElem? (i := 0) rfl)) (allS (Or.inl (List.mem_of_getElem? (i := 2) rfl)) all0))
    show own_Go p.tables e below _ (T10.setTop (mkF m 119 #[.val (.ref a1), .val (.long q2), .second, .val (.double d3), .second, .unset, .unset, .unset] []))
    refine own_go (fun _ => XS.aloadN X10.here hx rfl (hb hby d9_119) rfl rfl) ?_
    show own_Go p.tables e below _ (T10.setTop (mkF m 120 #[.val (.ref a1), .val (.long q2), .second, .val (.double d3), .second, .unset, .unset, .unset] [(.ref a1)]))
    refine own_go (fun _ => XS.dup X10.here hx rfl (hb hby d9_120) rfl rfl) ?_
    show own_Go p.tables e below _ (T10.setTop (mkF m 121 #[.val (.ref a1), .val (.long q2), .second, .val (.double d3), .second, .unset, .unset, .unset] [(.ref a1), (.ref a1)]))
    obtain ⟨T11, X11, e11, st11⟩ := getF X10 hx hZ hown (host := "") (Or.inl (hw _ (List.mem_of_getElem? (i := 54) rfl))) Via.refl rfl (Fw9.keep Kc10 (ninS (E_a1.neArv V_K (hw _ (List.mem_of_getElem? (i := 2) rfl))) (ninS (E_a1.neArv V_D (hw _ (List.mem_of_getElem? (i := 2) rfl))) nin0))) (g := (mkF m 121 #[.val (.ref a1), .val (.long q2), .second, .val (.double d3), .second, .unset, .unset, .unset] [(.ref a1), (.ref a1)])) rfl rfl (hb hby d9_121)
    refine own_go st11 ?_
    show own_Go p.tables e below _ (T11.setTop (mkF m 124 #[.val (.ref a1), .val (.long q2), .second, .val (.double d3), .second, .unset, .unset, .unset] [(.int (0 : Int32)), (.ref a1)]))
    refine own_go (fun _ => XS.iconst X11.here hx rfl (hb hby d9_124)) ?_
    show own_Go p.tables e below _ (T11.setTop (mkF m 125 #[.val (.ref a1), .val (.long q2), .second, .val (.double d3), .second, .unset, .unset, .unset] [(.int (1 : Int32)), (.int (0 : Int32)), (.ref a1)]))
    refine own_go (fun _ => XS.iadd X11.here hx rfl (hb hby d9_125) rfl) ?_
    show own_Go p.tables e below _ (T11.setTop (mkF m 126 #[.val (.ref a1), .val (.long q2), .second, .val (.double d3), .second, .unset, .unset, .unset] [(.int ((0 : Int32) + (1 : Int32))), (.ref a1)]))
    rw [show ((0 : Int32) + (1 : Int32)) = (1 : Int32) from by decide]
    show own_Go p.tables e below _ (T11.setTop (mkF m 126 #[.val (.ref a1), .val (.long q2), .second, .val (.double d3), .second, .unset, .unset, .unset] [(.int (1 : Int32)), (.ref a1)]))
    obtain ⟨T12, h12, X12, e12, W12, st12⟩ := putF X11 hx hZ hown (host := "") (Or.inl (hw _ (List.mem_of_getElem? (i := 54) rfl))) Via.refl e11 (Fw9.keep Kc10 (ninS (E_a1.neArv V_K (hw _ (List.mem_of_getElem? (i := 2) rfl))) (ninS (E_a1.neArv V_D (hw _ (List.mem_of_getElem? (i := 2) rfl))) nin0))) (((E_a1.keep Kc8).wr W9).keep Kc10) (Or.inl (hw _ (List.mem_of_getElem? (i := 55) rfl))) (hw _ (List.mem_of_getElem? (i := 2) rfl)) (ty := .int) (by decide) rfl rfl (g := (mkF m 126 #[.val (.ref a1), .val (.long q2), .second, .val (.double d3), .second, .unset, .unset, .unset] [(.int (1 : Int32)), (.ref a1)])) rfl rfl (hb hby d9_126)
    refine own_go st12 ?_
    have Fw12 := (Fw9.keep Kc10 (ninS (E_a1.neArv V_K (hw _ (List.mem_of_getElem? (i := 2) rfl))) (ninS (E_a1.neArv V_D (hw _ (List.mem_of_getElem? (i := 2) rfl))) nin0))).same W12
    have K12 : Keep h0 h12 [K, a1, D] := K10.wr W12 (Or.inl (List.mem_of_getElem? (i := 1) rfl))
    have N12 := Fr.snoc X12 N10 g_a1
    show own_Go p.tables e below _ (T12.setTop (mkF m 129 #[.val (.ref a1), .val (.long q2), .second, .val (.double d3), .second, .unset, .unset, .unset] []))
    refine own_ret0 X12 Bd.notSynchronized hx Bd.returns (hb hby d9_129) (show Q9 Z a1 q2 d3 zs zm K D f g kc kd h0 n0 _ T12.heap _ from by rw [e12]; exact ⟨rfl, N12, K12, ((((E_a1.keep Kc8).wr W9).keep Kc10).wr W12), (by rw [own_szY hc6_8]; exact Fw12), ((((F_most_a1.keep Kc8 (ninS (E_a1.neArv V_K (hw _ (List.mem_of_getElem? (i := 2) rfl))) nin0)).other W9 (Or.inr (slot_ne (Or.inr (hw _ (List.mem_of_getElem? (i := 11) rfl))) (Or.inl (hw _ (List.mem_of_getElem? (i := 55) rfl))) (by decide) (t := .int) (t' := .int) (by decide) (by decide)))).keep Kc10 (ninS (E_a1.neArv V_K (hw _ (List.mem_of_getElem? (i := 2) rfl))) (ninS (E_a1.neArv V_D (hw _ (List.mem_of_getElem? (i := 2) rfl))) nin0))).other W12 (Or.inr (slot_ne (Or.inr (hw _ (List.mem_of_getElem? (i := 11) rfl))) (Or.inl (hw _ (List.mem_of_getElem? (i := 55) rfl))) (by decide) (t := .int) (t' := .int) (by decide) (by decide)))), ((((F_bits_a1.keep Kc8 (ninS (E_a1.neArv V_K (hw _ (List.mem_of_getElem? (i := 2) rfl))) nin0)).other W9 (Or.inr (slot_ne (Or.inl (hw _ (List.mem_of_getElem? (i := 33) rfl))) (Or.inl (hw _ (List.mem_of_getElem? (i := 55) rfl))) (by decide) (t := .int) (t' := .int) (by decide) (by decide)))).keep Kc10 (ninS (E_a1.neArv V_K (hw _ (List.mem_of_getElem? (i := 2) rfl))) (ninS (E_a1.neArv V_D (hw _ (List.mem_of_getElem? (i := 2) rfl))) nin0))).other W12 (Or.inr (slot_ne (Or.inl (hw _ (List.mem_of_getElem? (i := 33) rfl))) (Or.inl (hw _ (List.mem_of_getElem? (i := 55) rfl))) (by decide) (t := .int) (t' := .int) (by decide) (by decide)))), ((((F_keys_a1.keep Kc8 (ninS (E_a1.neArv V_K (hw _ (List.mem_of_getElem? (i := 2) rfl))) nin0)).other W9 (Or.inr (slot_ne (Or.inl (hw _ (List.mem_of_getElem? (i := 18) rfl))) (Or.inl (hw _ (List.mem_of_getElem? (i := 55) rfl))) (by decide) (t := (.array .long)) (t' := .int) (by decide) (by decide)))).keep Kc10 (ninS (E_a1.neArv V_K (hw _ (List.mem_of_getElem? (i := 2) rfl))) (ninS (E_a1.neArv V_D (hw _ (List.mem_of_getElem? (i := 2) rfl))) nin0))).other W12 (Or.inr (slot_ne (Or.inl (hw _ (List.mem_of_getElem? (i := 18) rfl))) (Or.inl (hw _ (List.mem_of_getElem? (i := 55) rfl))) (by decide) (t := (.array .long)) (t' := .int) (by decide) (by decide)))), ((((F_charges_a1.keep Kc8 (ninS (E_a1.neArv V_K (hw _ (List.mem_of_getElem? (i := 2) rfl))) nin0)).other W9 (Or.inr (slot_ne (Or.inl (hw _ (List.mem_of_getElem? (i := 26) rfl))) (Or.inl (hw _ (List.mem_of_getElem? (i := 55) rfl))) (by decide) (t := (.array .double)) (t' := .int) (by decide) (by decide)))).keep Kc10 (ninS (E_a1.neArv V_K (hw _ (List.mem_of_getElem? (i := 2) rfl))) (ninS (E_a1.neArv V_D (hw _ (List.mem_of_getElem? (i := 2) rfl))) nin0))).other W12 (Or.inr (slot_ne (Or.inl (hw _ (List.mem_of_getElem? (i := 26) rfl))) (Or.inl (hw _ (List.mem_of_getElem? (i := 55) rfl))) (by decide) (t := (.array .double)) (t' := .int) (by decide) (by decide)))), (by unfold own_nk; rw [own_clY f hc6_8]; exact (F10_0.other W12 (Ne.symm (E_a1.neArv V_K (hw _ (List.mem_of_getElem? (i := 2) rfl)))))), (by unfold own_nd; rw [own_clY f hc6_8]; exact (F10_1.other W12 (Ne.symm (E_a1.neArv V_D (hw _ (List.mem_of_getElem? (i := 2) rfl))))))⟩) (by decide) (by decide)
  · skip
    refine own_go (fun _ => XS.icmpYes X5.here hx rfl (pc0 := 8) (pc' := 29) rfl (hb hby d9_8) rfl (feq hc6_8).2 (by decide) (by decide)) ?_
    show own_Go p.tables e below _ (T5.setTop (mkF m 29 #[.val (.ref a1), .val (.long q2), .second, .val (.double d3), .second, .unset, .unset, .unset] []))
    refine own_go (fun _ => XS.iconst X5.here hx rfl (hb hby d9_29)) ?_
    show own_Go p.tables e below _ (T5.setTop (mkF m 30 #[.val (.ref a1), .val (.long q2), .second, .val (.double d3), .second, .unset, .unset, .unset] [(.int (4 : Int32))]))
    refine own_go (fun _ => XS.aloadN X5.here hx rfl (hb hby d9_30) rfl rfl) ?_
    show own_Go p.tables e below _ (T5.setTop (mkF m 31 #[.val (.ref a1), .val (.long q2), .second, .val (.double d3), .second, .unset, .unset, .unset] [(.ref a1), (.int (4 : Int32))]))
    obtain ⟨T13, X13, e13, st13⟩ := getF X5 hx hZ hown (host := "") (Or.inl (hw _ (List.mem_of_getElem? (i := 54) rfl))) Via.refl e5 F_size_a1 (g := (mkF m 31 #[.val (.ref a1), .val (.long q2), .second, .val (.double d3), .second, .unset, .unset, .unset] [(.ref a1), (.int (4 : Int32))])) rfl rfl (hb hby d9_31)
    refine own_go st13 ?_
    show own_Go p.tables e below _ (T13.setTop (mkF m 34 #[.val (.ref a1), .val (.long q2), .second, .val (.double d3), .second, .unset, .unset, .unset] [(.int zs), (.int (4 : Int32))]))
    refine own_go (fun _ => XS.iconst X13.here hx rfl (hb hby d9_34)) ?_
    show own_Go p.tables e below _ (T13.setTop (mkF m 35 #[.val (.ref a1), .val (.long q2), .second, .val (.double d3), .second, .unset, .unset, .unset] [(.int (1 : Int32)), (.int zs), (.int (4 : Int32))]))
    refine own_go (fun _ => XS.iadd X13.here hx rfl (hb hby d9_35) rfl) ?_
    show own_Go p.tables e below _ (T13.setTop (mkF m 36 #[.val (.ref a1), .val (.long q2), .second, .val (.double d3), .second, .unset, .unset, .unset] [(.int (zs + (1 : Int32))), (.int (4 : Int32))]))
    refine own_go (fun _ => XS.imul X13.here hx rfl (hb hby d9_36) rfl) ?_
    show own_Go p.tables e below _ (T13.setTop (mkF m 37 #[.val (.ref a1), .val (.long q2), .second, .val (.double d3), .second, .unset, .unset, .unset] [(.int ((4 : Int32) * (zs + (1 : Int32))))]))
    refine own_go (fun _ => XS.iconst X13.here hx rfl (hb hby d9_37)) ?_
    show own_Go p.tables e below _ (T13.setTop (mkF m 38 #[.val (.ref a1), .val (.long q2), .second, .val (.double d3), .second, .unset, .unset, .unset] [(.int (3 : Int32)), (.int ((4 : Int32) * (zs + (1 : Int32))))]))
    refine own_go (fun _ => XS.aloadN X13.here hx rfl (hb hby d9_38) rfl rfl) ?_
    show own_Go p.tables e below _ (T13.setTop (mkF m 39 #[.val (.ref a1), .val (.long q2), .second, .val (.double d3), .second, .unset, .unset, .unset] [(.ref a1), (.int (3 : Int32)), (.int ((4 : Int32) * (zs + (1 : Int32))))]))
    obtain ⟨T14, X14, e14, st14⟩ := getF X13 hx hZ hown (host := "") (Or.inl (hw _ (List.mem_of_getElem? (i := 17) rfl))) Via.refl e13 F_keys_a1 (g := (mkF m 39 #[.val (.ref a1), .val (.long q2), .second, .val (.double d3), .second, .unset, .unset, .unset] [(.ref a1), (.int (3 : Int32)), (.int ((4 : Int32) * (zs + (1 : Int32))))])) rfl rfl (hb hby d9_39)
    refine own_go st14 ?_
    show own_Go p.tables e below _ (T14.setTop (mkF m 42 #[.val (.ref a1), .val (.long q2), .second, .val (.double d3), .second, .unset, .unset, .unset] [(.ref K), (.int (3 : Int32)), (.int ((4 : Int32) * (zs + (1 : Int32))))]))
    obtain ⟨cl15, Ar15, -, S15, M15, -, -⟩ := id V_K
    have st15 := X14.arraylength hx (cell := cl15) (by rw [e14]; exact Ar15.1) (State.isArrayOf_alike hZ.alike Ar15.2.1) (g := (mkF m 42 #[.val (.ref a1), .val (.long q2), .second, .val (.double d3), .second, .unset, .unset, .unset] [(.ref K), (.int (3 : Int32)), (.int ((4 : Int32) * (zs + (1 : Int32))))])) rfl (rest := [(.int (3 : Int32)), (.int ((4 : Int32) * (zs + (1 : Int32))))]) rfl (hb hby d9_42)
    rw [len_of S15 M15] at st15
    refine own_go st15 ?_
    show own_Go p.tables e below _ (T14.setTop (mkF m 43 #[.val (.ref a1), .val (.long q2), .second, .val (.double d3), .second, .unset, .unset, .unset] [(.int (16 : Int32)), (.int (3 : Int32)), (.int ((4 : Int32) * (zs + (1 : Int32))))]))
    refine own_go (fun _ => XS.imul X14.here hx rfl (hb hby d9_43) rfl) ?_
    show own_Go p.tables e below _ (T14.setTop (mkF m 44 #[.val (.ref a1), .val (.long q2), .second, .val (.double d3), .second, .unset, .unset, .unset] [(.int ((3 : Int32) * (16 : Int32))), (.int ((4 : Int32) * (zs + (1 : Int32))))]))
    rw [show ((3 : Int32) * (16 : Int32)) = (48 : Int32) from by decide]
    show own_Go p.tables e below _ (T14.setTop (mkF m 44 #[.val (.ref a1), .val (.long q2), .second, .val (.double d3), .second, .unset, .unset, .unset] [(.int (48 : Int32)), (.int ((4 : Int32) * (zs + (1 : Int32))))]))
    refine own_go (fun _ => XS.icmpYes X14.here hx rfl (pc0 := 44) (pc' := 113) rfl (hb hby d9_44) rfl (flt hlt).2.2.2 (by decide) (by decide)) ?_
    show own_Go p.tables e below _ (T14.setTop (mkF m 113 #[.val (.ref a1), .val (.long q2), .second, .val (.double d3), .second, .unset, .unset, .unset] []))
    refine own_go (fun _ => XS.aloadN X14.here hx rfl (hb hby d9_113) rfl rfl) ?_
    show own_Go p.tables e below _ (T14.setTop (mkF m 114 #[.val (.ref a1), .val (.long q2), .second, .val (.double d3), .second, .unset, .unset, .unset] [(.ref a1)]))
    refine own_go (fun _ => XS.lloadN X14.here hx rfl (hb hby d9_114) rfl) ?_
    show own_Go p.tables e below _ (T14.setTop (mkF m 115 #[.val (.ref a1), .val (.long q2), .second, .val (.double d3), .second, .unset, .unset, .unset] [(.long q2), (.ref a1)]))
    refine own_go (fun _ => XS.dloadN X14.here hx rfl (hb hby d9_115) rfl) ?_
    show own_Go p.tables e below _ (T14.setTop (mkF m 116 #[.val (.ref a1), .val (.long q2), .second, .val (.double d3), .second, .unset, .unset, .unset] [(.double d3), (.long q2), (.ref a1)]))
    obtain ⟨cq16, q16, q16'⟩ := E_a1.cell
    obtain ⟨v16, T16, L16, X16, hQ16, st16⟩ := own_tidyV X14 (X14.privateBack hx (y := (⟨"com/example/outis/outis/clustering/KeptCharges", "keep", "(JD)V"⟩ : MethodName)) hown (mvT hZ (hw _ (List.mem_of_getElem? (i := 56) rfl))) (mvT hZ (hw _ (List.mem_of_getElem? (i := 57) rfl))) (own_selP (z := (⟨"com/example/outis/outis/clustering/KeptCharges", "get", "(J)D"⟩ : MethodName)) rfl (mvT hZ (hw _ (List.mem_of_getElem? (i := 37) rfl))) (Cond.privateMethod_at (mvP hZ (hw _ (List.mem_of_getElem? (i := 58) rfl)) (args := #[]))) (mvT hZ (hw _ (List.mem_of_getElem? (i := 57) rfl))) (by decide)) (Cond.privateMethod_at (mvP hZ (hw _ (List.mem_of_getElem? (i := 58) rfl)) (args := #[]))) (mvT hZ (hw _ (List.mem_of_getElem? (i := 59) rfl))) (by decide) (backOf (W := 0) (rm10 l Z a0 hw [] a1 q2 d3 K D f g kc kd h0 n0 Z0 F_bits_a1 F_keys_a1 F_charges_a1 E_a1 V_K V_D nKD (hs hc6_8) g_K g_D) hZ (hw _ (List.mem_of_getElem? (i := 59) rfl)) (hw _ (List.mem_of_getElem? (i := 3) rfl)) (by decide) (by decide)) (g := (mkF m 116 #[.val (.ref a1), .val (.long q2), .second, .val (.double d3), .second, .unset, .unset, .unset] [(.double d3), (.long q2), (.ref a1)])) rfl (by rw [hml]; rfl) (Steps.refl _) (a := a1) (by rw [e14]; exact q16) q16' (argsL := [(.long q2), (.double d3)]) (rest := []) (lenOf pd_7 rfl) rfl (by show 2 * 0 + _ ≤ _; exact Nat.le_of_eq rfl) (hb hby d9_116) (fun _ _ => ⟨rfl, e14, (by decide : 0 + 0 ≤ _), (by decide : 0 + 0 ≤ _)⟩)) (c' := 0) (n' := 0) rfl rfl
    obtain ⟨rfl, N16q, Kc16, F16_0, F16_1⟩ := hQ16
    have N16 := Fr.app N0 N16q
    refine own_via st16 ?_
    have K16 : Keep h0 T16.heap [K, a1, D] := (Keep.refl h0 [K, a1, D]).trans Kc16 (allS (Or.inl (List.mem_of_getElem? (i := 0) rfl)) (allS (Or.inl (List.mem_of_getElem? (i := 2) rfl)) all0))
    show own_Go p.tables e below _ (T16.setTop (mkF m 119 #[.val (.ref a1), .val (.long q2), .second, .val (.double d3), .second, .unset, .unset, .unset] []))
    refine own_go (fun _ => XS.aloadN X16.here hx rfl (hb hby d9_119) rfl rfl) ?_
    show own_Go p.tables e below _ (T16.setTop (mkF m 120 #[.val (.ref a1), .val (.long q2), .second, .val (.double d3), .second, .unset, .unset, .unset] [(.ref a1)]))
    refine own_go (fun _ => XS.dup X16.here hx rfl (hb hby d9_120) rfl rfl) ?_
    show own_Go p.tables e below _ (T16.setTop (mkF m 121 #[.val (.ref a1), .val (.long q2), .second, .val (.double d3), .second, .unset, .unset, .unset] [(.ref a1), (.ref a1)]))
    obtain ⟨T17, X17, e17, st17⟩ := getF X16 hx hZ hown (host := "") (Or.inl (hw _ (List.mem_of_getElem? (i := 54) rfl))) Via.refl rfl (F_size_a1.keep Kc16 (ninS (E_a1.neArv V_K (hw _ (List.mem_of_getElem? (i := 2) rfl))) (ninS (E_a1.neArv V_D (hw _ (List.mem_of_getElem? (i := 2) rfl))) nin0))) (g := (mkF m 121 #[.val (.ref a1), .val (.long q2), .second, .val (.double d3), .second, .unset, .unset, .unset] [(.ref a1), (.ref a1)])) rfl rfl (hb hby d9_121)
    refine own_go st17 ?_
    show own_Go p.tables e below _ (T17.setTop (mkF m 124 #[.val (.ref a1), .val (.long q2), .second, .val (.double d3), .second, .unset, .unset, .unset] [(.int zs), (.ref a1)]))
    refine own_go (fun _ => XS.iconst X17.here hx rfl (hb hby d9_124)) ?_
    show own_Go p.tables e below _ (T17.setTop (mkF m 125 #[.val (.ref a1), .val (.long q2), .second, .val (.double d3), .second, .unset, .unset, .unset] [(.int (1 : Int32)), (.int zs), (.ref a1)]))
    refine own_go (fun _ => XS.iadd X17.here hx rfl (hb hby d9_125) rfl) ?_
    show own_Go p.tables e below _ (T17.setTop (mkF m 126 #[.val (.ref a1), .val (.long q2), .second, .val (.double d3), .second, .unset, .unset, .unset] [(.int (zs + (1 : Int32))), (.ref a1)]))
    obtain ⟨T18, h18, X18, e18, W18, st18⟩ := putF X17 hx hZ hown (host := "") (Or.inl (hw _ (List.mem_of_getElem? (i := 54) rfl))) Via.refl e17 (F_size_a1.keep Kc16 (ninS (E_a1.neArv V_K (hw _ (List.mem_of_getElem? (i := 2) rfl))) (ninS (E_a1.neArv V_D (hw _ (List.mem_of_getElem? (i := 2) rfl))) nin0))) (E_a1.keep Kc16) (Or.inl (hw _ (List.mem_of_getElem? (i := 55) rfl))) (hw _ (List.mem_of_getElem? (i := 2) rfl)) (ty := .int) (by decide) rfl rfl (g := (mkF m 126 #[.val (.ref a1), .val (.long q2), .second, .val (.double d3), .second, .unset, .unset, .unset] [(.int (zs + (1 : Int32))), (.ref a1)])) rfl rfl (hb hby d9_126)
    refine own_go st18 ?_
    have Fw18 := (F_size_a1.keep Kc16 (ninS (E_a1.neArv V_K (hw _ (List.mem_of_getElem? (i := 2) rfl))) (ninS (E_a1.neArv V_D (hw _ (List.mem_of_getElem? (i := 2) rfl))) nin0))).same W18
    have K18 : Keep h0 h18 [K, a1, D] := K16.wr W18 (Or.inl (List.mem_of_getElem? (i := 1) rfl))
    have N18 := Fr.snoc X18 N16 g_a1
    show own_Go p.tables e below _ (T18.setTop (mkF m 129 #[.val (.ref a1), .val (.long q2), .second, .val (.double d3), .second, .unset, .unset, .unset] []))
    refine own_ret0 X18 Bd.notSynchronized hx Bd.returns (hb hby d9_129) (show Q9 Z a1 q2 d3 zs zm K D f g kc kd h0 n0 _ T18.heap _ from by rw [e18]; exact ⟨rfl, N18, K18, ((E_a1.keep Kc16).wr W18), (by rw [own_szN hc6_8]; exact Fw18), ((F_most_a1.keep Kc16 (ninS (E_a1.neArv V_K (hw _ (List.mem_of_getElem? (i := 2) rfl))) (ninS (E_a1.neArv V_D (hw _ (List.mem_of_getElem? (i := 2) rfl))) nin0))).other W18 (Or.inr (slot_ne (Or.inr (hw _ (List.mem_of_getElem? (i := 11) rfl))) (Or.inl (hw _ (List.mem_of_getElem? (i := 55) rfl))) (by decide) (t := .int) (t' := .int) (by decide) (by decide)))), ((F_bits_a1.keep Kc16 (ninS (E_a1.neArv V_K (hw _ (List.mem_of_getElem? (i := 2) rfl))) (ninS (E_a1.neArv V_D (hw _ (List.mem_of_getElem? (i := 2) rfl))) nin0))).other W18 (Or.inr (slot_ne (Or.inl (hw _ (List.mem_of_getElem? (i := 33) rfl))) (Or.inl (hw _ (List.mem_of_getElem? (i := 55) rfl))) (by decide) (t := .int) (t' := .int) (by decide) (by decide)))), ((F_keys_a1.keep Kc16 (ninS (E_a1.neArv V_K (hw _ (List.mem_of_getElem? (i := 2) rfl))) (ninS (E_a1.neArv V_D (hw _ (List.mem_of_getElem? (i := 2) rfl))) nin0))).other W18 (Or.inr (slot_ne (Or.inl (hw _ (List.mem_of_getElem? (i := 18) rfl))) (Or.inl (hw _ (List.mem_of_getElem? (i := 55) rfl))) (by decide) (t := (.array .long)) (t' := .int) (by decide) (by decide)))), ((F_charges_a1.keep Kc16 (ninS (E_a1.neArv V_K (hw _ (List.mem_of_getElem? (i := 2) rfl))) (ninS (E_a1.neArv V_D (hw _ (List.mem_of_getElem? (i := 2) rfl))) nin0))).other W18 (Or.inr (slot_ne (Or.inl (hw _ (List.mem_of_getElem? (i := 26) rfl))) (Or.inl (hw _ (List.mem_of_getElem? (i := 55) rfl))) (by decide) (t := (.array .double)) (t' := .int) (by decide) (by decide)))), (by unfold own_nk; rw [own_clN f hc6_8]; exact (F16_0.other W18 (Ne.symm (E_a1.neArv V_K (hw _ (List.mem_of_getElem? (i := 2) rfl)))))), (by unfold own_nd; rw [own_clN f hc6_8]; exact (F16_1.other W18 (Ne.symm (E_a1.neArv V_D (hw _ (List.mem_of_getElem? (i := 2) rfl))))))⟩) (by decide) (by decide)
theorem own_peq {f f' : Nat → Int64} {q : Int64} (h : ∀ i, ¬ f i = -1 → ¬ f i = q → f' i = f i) (h2 : f' (own_p f q) = -1 ∨ f' (own_p f q) = q) : own_p f' q = own_p f q := by
  unfold own_p at h2 ⊢
  by_cases a0 : f (own_ix q 0) = -1 ∨ f (own_ix q 0) = q
  · rw [if_pos a0] at h2 ⊢
    rw [if_pos h2]
  · rw [if_neg a0] at h2 ⊢
    rw [h _ (fun z => a0 (Or.inl z)) (fun z => a0 (Or.inr z)), if_neg a0]
    by_cases a1 : f (own_ix q 1) = -1 ∨ f (own_ix q 1) = q
    · rw [if_pos a1] at h2 ⊢
      rw [if_pos h2]
    · rw [if_neg a1] at h2 ⊢
      rw [h _ (fun z => a1 (Or.inl z)) (fun z => a1 (Or.inr z)), if_neg a1]
      by_cases a2 : f (own_ix q 2) = -1 ∨ f (own_ix q 2) = q
      · rw [if_pos a2] at h2 ⊢
        rw [if_pos h2]
      · rw [if_neg a2] at h2 ⊢
        rw [h _ (fun z => a2 (Or.inl z)) (fun z => a2 (Or.inr z)), if_neg a2]
theorem own_pspec {f : Nat → Int64} {q : Int64} (hs : own_fin f q) : f (own_p f q) = -1 ∨ f (own_p f q) = q := by
  unfold own_fin at hs
  simp only [lw_eq] at hs
  unfold own_p
  by_cases a0 : f (own_ix q 0) = -1 ∨ f (own_ix q 0) = q
  · rw [if_pos a0]; exact a0
  · rw [if_neg a0]
    by_cases a1 : f (own_ix q 1) = -1 ∨ f (own_ix q 1) = q
    · rw [if_pos a1]; exact a1
    · rw [if_neg a1]
      by_cases a2 : f (own_ix q 2) = -1 ∨ f (own_ix q 2) = q
      · rw [if_pos a2]; exact a2
      · rw [if_neg a2]
        rcases hs with h | h | h | h
        · exact absurd h a0
        · exact absurd h a1
        · exact absurd h a2
        · exact h
/-- the store keeps the pairs of l -/
def own_J (l : List (Int64 × UInt64)) (f : Nat → Int64) (g : Nat → UInt64) : Prop := (∀ i, f i = -1 ∨ ∃ z ∈ l, f i = z.1) ∧ (∀ z ∈ l, f (own_p f z.1) = z.1 ∧ g (own_p f z.1) = z.2) ∧ (∀ z ∈ l, ¬ z.1 = -1) ∧ ∃ ps : List Nat, ps.length = l.length ∧ ∀ i, ¬ f i = -1 → i ∈ ps
theorem own_J.keys {l : List (Int64 × UInt64)} {f : Nat → Int64} {g : Nat → UInt64} (J : own_J l f g) : ∀ i, f i = -1 ∨ ∃ z ∈ l, f i = z.1 := J.1
theorem own_J.sits {l : List (Int64 × UInt64)} {f : Nat → Int64} {g : Nat → UInt64} (J : own_J l f g) : ∀ z ∈ l, f (own_p f z.1) = z.1 ∧ g (own_p f z.1) = z.2 := J.2.1
theorem own_J.neg {l : List (Int64 × UInt64)} {f : Nat → Int64} {g : Nat → UInt64} (J : own_J l f g) : ∀ z ∈ l, ¬ z.1 = -1 := J.2.2.1
theorem own_J.cov {l : List (Int64 × UInt64)} {f : Nat → Int64} {g : Nat → UInt64} (J : own_J l f g) : ∃ ps : List Nat, ps.length = l.length ∧ ∀ i, ¬ f i = -1 → i ∈ ps := J.2.2.2
theorem own_J0 (g : Nat → UInt64) : own_J [] (fun _ => (-1 : Int64)) g := ⟨fun _ => Or.inl rfl, fun _ h => absurd h (by simp), fun _ h => absurd h (by simp), [], rfl, fun _ h => absurd rfl h⟩
theorem own_pig {x0 x1 x2 x3 a b c : Nat} (e01 : x0 ≠ x1) (e02 : x0 ≠ x2) (e03 : x0 ≠ x3) (e12 : x1 ≠ x2) (e13 : x1 ≠ x3) (e23 : x2 ≠ x3) (m0 : x0 = a ∨ x0 = b ∨ x0 = c) (m1 : x1 = a ∨ x1 = b ∨ x1 = c) (m2 : x2 = a ∨ x2 = b ∨ x2 = c) (m3 : x3 = a ∨ x3 = b ∨ x3 = c) : False := by
  rcases m0 with h0 | h0 | h0 <;> rcases m1 with h1 | h1 | h1 <;> (try omega) <;> rcases m2 with h2 | h2 | h2 <;> (try omega) <;> rcases m3 with h3 | h3 | h3 <;> omega
theorem own_J.fin {l : List (Int64 × UInt64)} {f : Nat → Int64} {g : Nat → UInt64} (J : own_J l f g) (hl : l.length ≤ 3) (q : Int64) : own_fin f q := by
  obtain ⟨ps, hp, hc⟩ := J.cov
  rw [← hp] at hl
  unfold own_fin
  simp only [lw_eq]
  apply Classical.byContradiction
  intro hn
  have n0 : ¬ f (own_ix q 0) = -1 := fun h => hn (Or.inl (Or.inl h))
  have n1 : ¬ f (own_ix q 1) = -1 := fun h => hn (Or.inr (Or.inl (Or.inl h)))
  have n2 : ¬ f (own_ix q 2) = -1 := fun h => hn (Or.inr (Or.inr (Or.inl (Or.inl h))))
  have n3 : ¬ f (own_ix q 3) = -1 := fun h => hn (Or.inr (Or.inr (Or.inr (Or.inl h))))
  have m0 := hc _ n0
  have m1 := hc _ n1
  have m2 := hc _ n2
  have m3 := hc _ n3
  have hl2 := own_hlt q
  have e01 : own_ix q 0 ≠ own_ix q 1 := by unfold own_ix; omega
  have e02 : own_ix q 0 ≠ own_ix q 2 := by unfold own_ix; omega
  have e03 : own_ix q 0 ≠ own_ix q 3 := by unfold own_ix; omega
  have e12 : own_ix q 1 ≠ own_ix q 2 := by unfold own_ix; omega
  have e13 : own_ix q 1 ≠ own_ix q 3 := by unfold own_ix; omega
  have e23 : own_ix q 2 ≠ own_ix q 3 := by unfold own_ix; omega
  match ps, hl with
  | [], _ => simp at m0
  | [a], _ => simp only [List.mem_cons, List.not_mem_nil, or_false] at m0 m1; omega
  | [a, b], _ => simp only [List.mem_cons, List.not_mem_nil, or_false] at m0 m1 m2; omega
  | [a, b, c], _ => simp only [List.mem_cons, List.not_mem_nil, or_false] at m0 m1 m2 m3; exact own_pig e01 e02 e03 e12 e13 e23 m0 m1 m2 m3
  | a :: b :: c :: d :: r, h => simp only [List.length_cons] at h; omega
theorem own_J.add {l : List (Int64 × UInt64)} {f : Nat → Int64} {g : Nat → UInt64} (J : own_J l f g) (hl : l.length ≤ 3) {k : Int64} (c : UInt64) (hk : ¬ k = -1) (hn : ∀ z ∈ l, ¬ z.1 = k) : own_J ((k, c) :: l) (own_up f (own_p f k) k) (own_up g (own_p f k) c) := by
  have nok : ∀ i, ¬ f i = k := fun i h => by
    rcases J.keys i with h2 | ⟨z, hz, h2⟩
    · exact hk (h.symm.trans h2)
    · exact hn z hz (h2.symm.trans h)
  have hp : f (own_p f k) = -1 := (own_pspec (J.fin hl k)).resolve_right (nok _)
  generalize hpp : own_p f k = p at hp
  have hu : ∀ i, ¬ f i = -1 → own_up f p k i = f i := fun i hi => if_neg fun (h : i = p) => hi (h.symm ▸ hp)
  refine ⟨fun i => ?_, fun z hz => ?_, fun z hz => ?_, ?_⟩
  · by_cases hi : i = p
    · exact Or.inr ⟨_, List.mem_cons_self, if_pos hi⟩
    · rw [show own_up f p k i = f i from if_neg hi]
      rcases J.keys i with h2 | ⟨z, hz, h2⟩
      · exact Or.inl h2
      · exact Or.inr ⟨z, List.mem_cons_of_mem _ hz, h2⟩
  · rcases List.mem_cons.mp hz with rfl | hz
    · have e : own_p (own_up f p k) k = p := by
        rw [← hpp]
        exact own_peq (fun i h1 _ => hpp ▸ hu i h1) (Or.inr (if_pos rfl))
      show own_up f p k (own_p (own_up f p k) k) = k ∧ own_up g p c (own_p (own_up f p k) k) = c
      rw [e]
      exact ⟨if_pos rfl, if_pos rfl⟩
    · obtain ⟨h1, h2⟩ := J.sits z hz
      have h3 : ¬ f (own_p f z.1) = -1 := by rw [h1]; exact J.neg z hz
      have h4 : ¬ own_p f z.1 = p := fun h => h3 (h.symm ▸ hp)
      have e : own_p (own_up f p k) z.1 = own_p f z.1 := own_peq (fun i h1 _ => hu i h1) (Or.inr ((hu _ h3).trans h1))
      rw [e]
      exact ⟨(if_neg h4).trans h1, (if_neg h4).trans h2⟩
  · rcases List.mem_cons.mp hz with rfl | hz
    · exact hk
    · exact J.neg z hz
  · obtain ⟨ps, hps, hc⟩ := J.cov
    refine ⟨p :: ps, by simp [hps], fun i hi => ?_⟩
    by_cases h : i = p
    · exact h ▸ List.mem_cons_self
    · exact List.mem_cons_of_mem _ (hc i fun h2 => hi ((if_neg h).trans h2))
/-- what the store keeps behind a put -/
def own_lp (zs zm : Int32) (l : List (Int64 × UInt64)) (k : Int64) (c : UInt64) : List (Int64 × UInt64) := (k, c) :: if zs = zm then [] else l
theorem own_J.put {l : List (Int64 × UInt64)} {f : Nat → Int64} {g : Nat → UInt64} (J : own_J l f g) (hl : l.length ≤ 3) (zs zm : Int32) {k : Int64} (c : UInt64) (hk : ¬ k = -1) (hn : ¬ zs = zm → ∀ z ∈ l, ¬ z.1 = k) : own_J (own_lp zs zm l k c) (own_nk zs zm f k) (own_nd zs zm f g k c) := by
  unfold own_lp own_nk own_nd own_cl
  by_cases h : zs = zm
  · rw [if_pos h, if_pos h]
    exact (own_J0 g).add (by simp) c hk (fun z hz => absurd hz (by simp))
  · rw [if_neg h, if_neg h]
    exact J.add hl c hk (hn h)
theorem own_J.get {l : List (Int64 × UInt64)} {f : Nat → Int64} {g : Nat → UInt64} (J : own_J l f g) {z : Int64 × UInt64} (h : z ∈ l) : own_f6 z.1 f g = z.2 := by
  obtain ⟨h1, h2⟩ := J.sits z h
  unfold own_f6
  rw [if_pos ((lw_eq _ _).mpr h1)]
  exact h2
theorem own_J.miss {l : List (Int64 × UInt64)} {f : Nat → Int64} {g : Nat → UInt64} (J : own_J l f g) {q : Int64} (hq : ¬ q = -1) (h : ∀ z ∈ l, ¬ z.1 = q) : own_f6 q f g = 9221120237041090560 := by
  unfold own_f6
  rw [if_neg fun h2 => ?_]
  rw [lw_eq] at h2
  rcases J.keys (own_p f q) with h3 | ⟨z, hz, h3⟩
  · exact hq (h2.symm.trans h3)
  · exact h z hz (h3.symm.trans h2)
theorem own_nanne : ¬ cmpValue (FP.dcmp 9221120237041090560 9221120237041090560) .l = 0 := by decide +kernel
def own_most (p : Int32) : Int32 := ((p.toUInt32 >>> ((2 : Int32) &&& 31).toUInt32).toInt32 &&& (3 : Int32)) + (1 : Int32)
def own_key (q : Int64) : Int64 := q &&& (9223372036854775807 : Int64)
theorem own_keyN (q : Int64) : ¬ own_key q = -1 := fun h => by
  have h2 : (own_key q).toBitVec = (-1 : Int64).toBitVec := by rw [h]
  unfold own_key at h2
  rw [Int64.toBitVec_and] at h2
  have h3 := congrArg (fun b => b.getLsbD 63) h2
  simp at h3
theorem own_and3 (x : Int32) : x &&& (3 : Int32) = 0 ∨ x &&& (3 : Int32) = 1 ∨ x &&& (3 : Int32) = 2 ∨ x &&& (3 : Int32) = 3 := by
  have h := c_and x 3 (by decide)
  have e3 : (3 : Int32).toInt = 3 := rfl
  have e0 : (0 : Int32).toInt = 0 := rfl
  have e1 : (1 : Int32).toInt = 1 := rfl
  have e2 : (2 : Int32).toInt = 2 := rfl
  simp only [← Int32.toInt_inj, e0, e1, e2, e3] at h ⊢
  omega
theorem own_most4 (p : Int32) : own_most p = 1 ∨ own_most p = 2 ∨ own_most p = 3 ∨ own_most p = 4 := by
  unfold own_most
  rcases own_and3 ((p.toUInt32 >>> ((2 : Int32) &&& 31).toUInt32).toInt32) with h | h | h | h <;> rw [h]
  · exact Or.inl rfl
  · exact Or.inr (Or.inl rfl)
  · exact Or.inr (Or.inr (Or.inl rfl))
  · exact Or.inr (Or.inr (Or.inr rfl))
theorem own_f8ok {d x k1 c1 k2 c2 k3 c3} {i1 i2 i3 : Int32} (h1 : ¬ i1 = 0 → x = k1 → d = c1) (h2 : ¬ i2 = 0 → x = k2 → d = c2) (h3 : ¬ i3 = 0 → x = k3 → d = c3) (h4 : (¬ i1 = 0 → ¬ x = k1) → (¬ i2 = 0 → ¬ x = k2) → (¬ i3 = 0 → ¬ x = k3) → d = 9221120237041090560)
    (n1 : cmpValue (FP.dcmp c1 c1) .l = 0) (n2 : cmpValue (FP.dcmp c2 c2) .l = 0) (n3 : cmpValue (FP.dcmp c3 c3) .l = 0) : ¬ own_f8 d x i1 k1 c1 i2 k2 c2 i3 k3 c3 = 0 := by
  have one : ¬ (1 : Int32) = 0 := by decide
  have nn := own_nanne
  unfold own_f8
  simp only [lw_eq]
  by_cases a1 : i1 = 0 <;> by_cases a2 : i2 = 0 <;> by_cases a3 : i3 = 0 <;> by_cases b1 : x = k1 <;> by_cases b2 : x = k2 <;> by_cases b3 : x = k3 <;> simp_all
def own_l1 (zm : Int32) (k1 : Int64) (c1 : UInt64) : List (Int64 × UInt64) := own_lp (0 : Int32) zm [] k1 c1
def own_l2 (zm : Int32) (k1 : Int64) (c1 : UInt64) (k2 : Int64) (c2 : UInt64) : List (Int64 × UInt64) := own_lp (own_sz (0 : Int32) zm) zm (own_l1 zm k1 c1) k2 c2
def own_l3 (zm : Int32) (k1 : Int64) (c1 : UInt64) (k2 : Int64) (c2 : UInt64) (k3 : Int64) (c3 : UInt64) : List (Int64 × UInt64) := own_lp (own_sz (own_sz (0 : Int32) zm) zm) zm (own_l2 zm k1 c1 k2 c2) k3 c3
theorem own_lple {zs zm : Int32} {l : List (Int64 × UInt64)} {k : Int64} {c : UInt64} {n : Nat} (h : l.length ≤ n) : (own_lp zs zm l k c).length ≤ n + 1 := by
  unfold own_lp
  split <;> simp only [List.length_cons, List.length_nil] <;> omega
theorem own_le0 : ([] : List (Int64 × UInt64)).length ≤ 3 := by decide
theorem own_le1 {zm : Int32} {k1 : Int64} {c1 : UInt64} : (own_l1 zm k1 c1).length ≤ 3 := Nat.le_trans (own_lple (n := 0) (Nat.le_refl _)) (by decide)
theorem own_le2 {zm : Int32} {k1 : Int64} {c1 : UInt64} {k2 : Int64} {c2 : UInt64} : (own_l2 zm k1 c1 k2 c2).length ≤ 3 := Nat.le_trans (own_lple (n := 1) (own_lple (n := 0) (Nat.le_refl _))) (by decide)
theorem own_le3 {zm : Int32} {k1 : Int64} {c1 : UInt64} {k2 : Int64} {c2 : UInt64} {k3 : Int64} {c3 : UInt64} : (own_l3 zm k1 c1 k2 c2 k3 c3).length ≤ 3 := own_lple (n := 2) (own_lple (n := 1) (own_lple (n := 0) (Nat.le_refl _)))
theorem own_l1e (zm : Int32) (k1 : Int64) (c1 : UInt64) : own_l1 zm k1 c1 = [(k1, c1)] := by unfold own_l1 own_lp; split <;> rfl
theorem own_sz0 (zm : Int32) : own_sz (0 : Int32) zm = 1 := by unfold own_sz; split <;> rfl
theorem own_lt1 (zm : Int32) : ¬ (48 : Int32) < (4 : Int32) * (own_sz (0 : Int32) zm + (1 : Int32)) := by rw [own_sz0]; decide
theorem own_lt2 (zm : Int32) : ¬ (48 : Int32) < (4 : Int32) * (own_sz (own_sz (0 : Int32) zm) zm + (1 : Int32)) := by
  rw [own_sz0]
  unfold own_sz
  split <;> decide
theorem own_J1 (zm : Int32) {k1 : Int64} (h : ¬ k1 = -1) (c1 : UInt64) (g : Nat → UInt64) : own_J (own_l1 zm k1 c1) (own_nk (0 : Int32) zm (fun _ => (-1 : Int64)) k1) (own_nd (0 : Int32) zm (fun _ => (-1 : Int64)) g k1 c1) := (own_J0 g).put own_le0 _ _ _ h (fun _ z hz => absurd hz (by simp))
theorem own_J2 {zm : Int32} {k1 : Int64} {c1 : UInt64} {f : Nat → Int64} {g : Nat → UInt64} (J : own_J (own_l1 zm k1 c1) f g) {k2 : Int64} {c2 : UInt64} (h : ¬ k2 = -1) (h12 : ¬ k1 = k2) : own_J (own_l2 zm k1 c1 k2 c2) (own_nk (own_sz (0 : Int32) zm) zm f k2) (own_nd (own_sz (0 : Int32) zm) zm f g k2 c2) := J.put own_le1 _ _ _ h (fun _ z hz => by
  rw [own_l1e] at hz
  rcases List.mem_cons.mp hz with rfl | hz
  · exact h12
  · exact absurd hz (by simp))
theorem own_J3 {zm : Int32} {k1 : Int64} {c1 : UInt64} {k2 : Int64} {c2 : UInt64} {f : Nat → Int64} {g : Nat → UInt64} (J : own_J (own_l2 zm k1 c1 k2 c2) f g) {k3 : Int64} {c3 : UInt64} (h : ¬ k3 = -1) (hz : zm = 1 ∨ zm = 2 ∨ zm = 3 ∨ zm = 4) (h32 : ¬ k3 = k2) (h31 : zm < 2 ∨ ¬ k3 = k1) : own_J (own_l3 zm k1 c1 k2 c2 k3 c3) (own_nk (own_sz (own_sz (0 : Int32) zm) zm) zm f k3) (own_nd (own_sz (own_sz (0 : Int32) zm) zm) zm f g k3 c3) := J.put own_le2 _ _ _ h (fun hne z hm => by
  have big : ∀ y : Int32, ¬ y < 2 → own_l2 y k1 c1 k2 c2 = [(k2, c2), (k1, c1)] → z ∈ own_l2 y k1 c1 k2 c2 → y < 2 ∨ ¬ k3 = k1 → ¬ z.1 = k3 := fun y hy e hm h31 => by
    rw [e] at hm
    rcases List.mem_cons.mp hm with rfl | hm
    · exact fun q => h32 q.symm
    · rcases List.mem_cons.mp hm with rfl | hm
      · exact fun q => (h31.resolve_left hy) q.symm
      · exact absurd hm (by simp)
  rcases hz with rfl | rfl | rfl | rfl
  · exact absurd (by decide) hne
  · exact absurd (by decide) hne
  · exact big 3 (by decide) rfl hm h31
  · exact big 4 (by decide) rfl hm h31)
theorem own_i2dS (x : Int32) : cmpValue (FP.dcmp (FP.i2d x) (FP.i2d x)) .l = 0 := dcmpV_self (nn_w (i2d_w x)) _
section OwnOk
variable {zm : Int32} {k1 k2 k3 x : Int64} {c1 c2 c3 : UInt64} {f : Nat → Int64} {g : Nat → UInt64}
theorem own_ok0 (J : own_J [] f g) (hx : ¬ x = -1) (n1 : cmpValue (FP.dcmp c1 c1) .l = 0) (n2 : cmpValue (FP.dcmp c2 c2) .l = 0) (n3 : cmpValue (FP.dcmp c3 c3) .l = 0) : ¬ own_f8 (own_f6 x f g) x 0 k1 c1 0 k2 c2 0 k3 c3 = 0 :=
  own_f8ok (fun h => absurd rfl h) (fun h => absurd rfl h) (fun h => absurd rfl h) (fun _ _ _ => J.miss hx (fun z hz => absurd hz (by simp))) n1 n2 n3
theorem own_getE {l : List (Int64 × UInt64)} {k : Int64} {z : UInt64} (J : own_J l f g) (h : (k, z) ∈ l) (e : x = k) : own_f6 x f g = z := by
  subst e
  obtain ⟨h1, h2⟩ := J.sits _ h
  unfold own_f6
  rw [if_pos ((lw_eq _ _).mpr h1)]
  exact h2
theorem own_okl {l : List (Int64 × UInt64)} {i1 i2 i3 : Int32} (J : own_J l f g) (hx : ¬ x = -1) (n1 : cmpValue (FP.dcmp c1 c1) .l = 0) (n2 : cmpValue (FP.dcmp c2 c2) .l = 0) (n3 : cmpValue (FP.dcmp c3 c3) .l = 0) (h1 : ¬ i1 = 0 → (k1, c1) ∈ l) (h2 : ¬ i2 = 0 → (k2, c2) ∈ l) (h3 : ¬ i3 = 0 → (k3, c3) ∈ l) (h4 : ∀ z ∈ l, (¬ i1 = 0 ∧ z.1 = k1) ∨ (¬ i2 = 0 ∧ z.1 = k2) ∨ (¬ i3 = 0 ∧ z.1 = k3)) : ¬ own_f8 (own_f6 x f g) x i1 k1 c1 i2 k2 c2 i3 k3 c3 = 0 :=
  own_f8ok (fun h e => own_getE J (h1 h) e) (fun h e => own_getE J (h2 h) e) (fun h e => own_getE J (h3 h) e) (fun m1 m2 m3 => J.miss hx (fun z hz e => by
    rcases h4 z hz with h | h | h
    · exact m1 h.1 (e.symm.trans h.2)
    · exact m2 h.1 (e.symm.trans h.2)
    · exact m3 h.1 (e.symm.trans h.2))) n1 n2 n3
theorem own_ok1 (J : own_J (own_l1 zm k1 c1) f g) (hx : ¬ x = -1) (n1 : cmpValue (FP.dcmp c1 c1) .l = 0) (n2 : cmpValue (FP.dcmp c2 c2) .l = 0) (n3 : cmpValue (FP.dcmp c3 c3) .l = 0) : ¬ own_f8 (own_f6 x f g) x 1 k1 c1 0 k2 c2 0 k3 c3 = 0 := by
  rw [own_l1e] at J
  refine own_okl J hx n1 n2 n3 (fun _ => by simp) (fun h => absurd rfl h) (fun h => absurd rfl h) (fun z hz => ?_)
  simp only [List.mem_cons, List.not_mem_nil, or_false] at hz
  subst hz
  exact Or.inl ⟨by decide, rfl⟩
theorem own_ok2 (hz : zm = 1 ∨ zm = 2 ∨ zm = 3 ∨ zm = 4) (J : own_J (own_l2 zm k1 c1 k2 c2) f g) (hx : ¬ x = -1) (n1 : cmpValue (FP.dcmp c1 c1) .l = 0) (n2 : cmpValue (FP.dcmp c2 c2) .l = 0) (n3 : cmpValue (FP.dcmp c3 c3) .l = 0) : ¬ own_f8 (own_f6 x f g) x (if zm < (2 : Int32) then (0 : Int32) else (1 : Int32)) k1 c1 1 k2 c2 0 k3 c3 = 0 := by
  have big : ∀ y : Int32, ¬ y < 2 → own_J [(k2, c2), (k1, c1)] f g → ¬ own_f8 (own_f6 x f g) x (if y < (2 : Int32) then (0 : Int32) else (1 : Int32)) k1 c1 1 k2 c2 0 k3 c3 = 0 := fun y hy J => by
    rw [if_neg hy]
    refine own_okl J hx n1 n2 n3 (fun _ => by simp) (fun h => by simp) (fun h => absurd rfl h) (fun z hz => ?_)
    simp only [List.mem_cons, List.not_mem_nil, or_false] at hz
    rcases hz with rfl | rfl
    · exact Or.inr (Or.inl ⟨by decide, rfl⟩)
    · exact Or.inl ⟨by decide, rfl⟩
  rcases hz with rfl | rfl | rfl | rfl
  · replace J : own_J [(k2, c2)] f g := J
    rw [if_pos (by decide)]
    refine own_okl J hx n1 n2 n3 (fun h => absurd rfl h) (fun h => by simp) (fun h => absurd rfl h) (fun z hz => ?_)
    simp only [List.mem_cons, List.not_mem_nil, or_false] at hz
    subst hz
    exact Or.inr (Or.inl ⟨by decide, rfl⟩)
  · exact big _ (by decide) J
  · exact big _ (by decide) J
  · exact big _ (by decide) J
theorem own_ok3 (hz : zm = 1 ∨ zm = 2 ∨ zm = 3 ∨ zm = 4) (J : own_J (own_l3 zm k1 c1 k2 c2 k3 c3) f g) (hx : ¬ x = -1) (n1 : cmpValue (FP.dcmp c1 c1) .l = 0) (n2 : cmpValue (FP.dcmp c2 c2) .l = 0) (n3 : cmpValue (FP.dcmp c3 c3) .l = 0) : ¬ own_f8 (own_f6 x f g) x (if zm < (3 : Int32) then (0 : Int32) else (1 : Int32)) k1 c1 (if zm < (3 : Int32) then (0 : Int32) else (1 : Int32)) k2 c2 1 k3 c3 = 0 := by
  have big : ∀ y : Int32, ¬ y < 3 → own_J [(k3, c3), (k2, c2), (k1, c1)] f g → ¬ own_f8 (own_f6 x f g) x (if y < (3 : Int32) then (0 : Int32) else (1 : Int32)) k1 c1 (if y < (3 : Int32) then (0 : Int32) else (1 : Int32)) k2 c2 1 k3 c3 = 0 := fun y hy J => by
    rw [if_neg hy]
    refine own_okl J hx n1 n2 n3 (fun _ => by simp) (fun h => by simp) (fun h => by simp) (fun z hz => ?_)
    simp only [List.mem_cons, List.not_mem_nil, or_false] at hz
    rcases hz with rfl | rfl | rfl
    · exact Or.inr (Or.inr ⟨by decide, rfl⟩)
    · exact Or.inr (Or.inl ⟨by decide, rfl⟩)
    · exact Or.inl ⟨by decide, rfl⟩
  have small : ∀ y : Int32, y < 3 → own_J [(k3, c3)] f g → ¬ own_f8 (own_f6 x f g) x (if y < (3 : Int32) then (0 : Int32) else (1 : Int32)) k1 c1 (if y < (3 : Int32) then (0 : Int32) else (1 : Int32)) k2 c2 1 k3 c3 = 0 := fun y hy J => by
    rw [if_pos hy]
    refine own_okl J hx n1 n2 n3 (fun h => absurd rfl h) (fun h => absurd rfl h) (fun h => by simp) (fun z hz => ?_)
    simp only [List.mem_cons, List.not_mem_nil, or_false] at hz
    subst hz
    exact Or.inr (Or.inr ⟨by decide, rfl⟩)
  rcases hz with rfl | rfl | rfl | rfl
  · exact small _ (by decide) J
  · exact small _ (by decide) J
  · exact big _ (by decide) J
  · exact big _ (by decide) J
end OwnOk
theorem pn_0 : plainName "com/example/outis/outis/clustering/KeptChargesGetPinLaw" = true := by first | (simp [plainName, overriddenIn]; done) | decide +kernel
theorem pd_4 : parseMethodDescriptor "(J)D" = some ⟨[.long], some .double⟩ := by decide +kernel
theorem pd_6 : parseMethodDescriptor "(DJZJDZJDZJD)Z" = some ⟨[.double, .long, .boolean, .long, .double, .boolean, .long, .double, .boolean, .long, .double], some .boolean⟩ := by decide +kernel
theorem ef_0 (m : MethodId) (p1 : Int32) (q2 : Int64) (q3 : Int64) (q4 : Int64) (q5 : Int64) (p6 : Int32) : entryFrame m #[(.int p1), (.long q2), (.long q3), (.long q4), (.long q5), (.int p6)] maxLocals = mkF m 0 #[.val (.int p1), .val (.long q2), .second, .val (.long q3), .second, .val (.long q4), .second, .val (.long q5), .second, .val (.int p6), .unset, .unset, .unset, .unset, .unset, .unset, .unset, .unset, .unset, .unset, .unset, .unset, .unset, .unset, .unset, .unset, .unset, .unset, .unset, .unset] [] := by first | (simp [entryFrame, mkF, argsToLocals, Value.category, maxLocals]; done) | rfl
def own_v0_168 (zm : Int32) : Int32 := (if zm < (2 : Int32) then (0 : Int32) else (1 : Int32))
def own_v0_168a (zm : Int32) : Int32 := (if zm < (3 : Int32) then (0 : Int32) else (1 : Int32))
def own_v0_205 (zm : Int32) : Int32 := (if zm < (3 : Int32) then (0 : Int32) else (1 : Int32))
def Q0 (Z : State) (p1 : Int32) (q2 : Int64) (q3 : Int64) (q4 : Int64) (q5 : Int64) (p6 : Int32) (h0 : Heap) (n0 : Nat) (v : Option Value) (h : Heap) (L : List Loc) : Prop := v = some (.int (1 : Int32)) ∧ Fr n0 L
set_option maxRecDepth 65536 in
set_option maxHeartbeats 40000000 in
theorem rm0 (l : Launch) (Z : State) (a0 : Array Value) (hw : ∀ d ∈ tables_1, d.before a0 Z = true) (ws : List Jvm.Cond) (p1 : Int32) (q2 : Int64) (q3 : Int64) (q4 : Int64) (q5 : Int64) (p6 : Int32) (h0 : Heap) (n0 : Nat) (Z0 : n0 ≤ h0.size) :
    MetFree l x (head1 (Jvm.Cond.code x code maxLocals ret :: ws) room_1) (fun a U => a = #[(.int p1), (.long q2), (.long q3), (.long q4), (.long q5), (.int p6)] ∧ Z.Warmed39 U.vm ∧ U.heap = h0) (fun _ _ _ _ _ => True) (fun _ U o U' => ∃ v L, o = .returned v ∧ Q0 Z p1 q2 q3 q4 q5 p6 h0 n0 v U'.heap L ∧ FrameEnd U o U' L 16 192) := by
  refine MetFree.of_bodySF (plainFor_of_name pn_0) hisR ?_
  intro p e s m args below meth c s₁ Bd hml0 hP hK
  obtain ⟨rfl, hZ, hh⟩ := hP
  have hx := Bd.exec
  have hby := Bd.bytes
  have hml : c.maxLocals = 30 := hml0
  have hown : s.vm.findClass "com/example/outis/outis/clustering/KeptChargesGetPinLaw" = some m.cls := findClass_of_methodNamed Bd.named
  have hnm := (name_of_methodNamed Bd.named Bd.method).1
  have X0 : Stand p l e room_1 s m #[(.int p1), (.long q2), (.long q3), (.long q4), (.long q5), (.int p6)] below meth c s₁ [] 0 0 := Stand.of_body Bd
  have e0 : s₁.heap = h0 := by rw [← hh, Bd.state]; rfl
  have N0 := Fr.nil n0
  show own_Go p.tables e below (own_Fin below s (Q0 Z p1 q2 q3 q4 q5 p6 h0 n0) 16 192) (s₁.setTop (entryFrame m #[(.int p1), (.long q2), (.long q3), (.long q4), (.long q5), (.int p6)] maxLocals))
  refine own_go (S' := s₁.setTop (mkF m 0 #[.val (.int p1), .val (.long q2), .second, .val (.long q3), .second, .val (.long q4), .second, .val (.long q5), .second, .val (.int p6), .unset, .unset, .unset, .unset, .unset, .unset, .unset, .unset, .unset, .unset, .unset, .unset, .unset, .unset, .unset, .unset, .unset, .unset, .unset, .unset] [])) (fun t k => castTop (ef_0 m p1 q2 q3 q4 q5 p6) k) ?_
  show own_Go p.tables e below _ (s₁.setTop (mkF m 0 #[.val (.int p1), .val (.long q2), .second, .val (.long q3), .second, .val (.long q4), .second, .val (.long q5), .second, .val (.int p6), .unset, .unset, .unset, .unset, .unset, .unset, .unset, .unset, .unset, .unset, .unset, .unset, .unset, .unset, .unset, .unset, .unset, .unset, .unset, .unset] []))
  refine own_go (fun _ => XS.iloadN X0.here hx rfl (hb hby at_0) rfl) ?_
  show own_Go p.tables e below _ (s₁.setTop (mkF m 1 #[.val (.int p1), .val (.long q2), .second, .val (.long q3), .second, .val (.long q4), .second, .val (.long q5), .second, .val (.int p6), .unset, .unset, .unset, .unset, .unset, .unset, .unset, .unset, .unset, .unset, .unset, .unset, .unset, .unset, .unset, .unset, .unset, .unset, .unset, .unset] [(.int p1)]))
  refine own_go (fun _ => XS.iconst X0.here hx rfl (hb hby at_1)) ?_
  show own_Go p.tables e below _ (s₁.setTop (mkF m 2 #[.val (.int p1), .val (.long q2), .second, .val (.long q3), .second, .val (.long q4), .second, .val (.long q5), .second, .val (.int p6), .unset, .unset, .unset, .unset, .unset, .unset, .unset, .unset, .unset, .unset, .unset, .unset, .unset, .unset, .unset, .unset, .unset, .unset, .unset, .unset] [(.int (3 : Int32)), (.int p1)]))
  refine own_go (fun _ => XS.iand X0.here hx rfl (hb hby at_2) rfl) ?_
  show own_Go p.tables e below _ (s₁.setTop (mkF m 3 #[.val (.int p1), .val (.long q2), .second, .val (.long q3), .second, .val (.long q4), .second, .val (.long q5), .second, .val (.int p6), .unset, .unset, .unset, .unset, .unset, .unset, .unset, .unset, .unset, .unset, .unset, .unset, .unset, .unset, .unset, .unset, .unset, .unset, .unset, .unset] [(.int (p1 &&& (3 : Int32)))]))
  refine own_go (fun _ => XS.istore X0.here hx rfl (hb hby at_3) rfl (l' := #[.val (.int p1), .val (.long q2), .second, .val (.long q3), .second, .val (.long q4), .second, .val (.long q5), .second, .val (.int p6), .val (.int (p1 &&& (3 : Int32))), .unset, .unset, .unset, .unset, .unset, .unset, .unset, .unset, .unset, .unset, .unset, .unset, .unset, .unset, .unset, .unset, .unset, .unset, .unset]) rfl) ?_
  show own_Go p.tables e below _ (s₁.setTop (mkF m 5 #[.val (.int p1), .val (.long q2), .second, .val (.long q3), .second, .val (.long q4), .second, .val (.long q5), .second, .val (.int p6), .val (.int (p1 &&& (3 : Int32))), .unset, .unset, .unset, .unset, .unset, .unset, .unset, .unset, .unset, .unset, .unset, .unset, .unset, .unset, .unset, .unset, .unset, .unset, .unset] []))
  refine own_go (fun _ => XS.iloadN X0.here hx rfl (hb hby at_5) rfl) ?_
  show own_Go p.tables e below _ (s₁.setTop (mkF m 6 #[.val (.int p1), .val (.long q2), .second, .val (.long q3), .second, .val (.long q4), .second, .val (.long q5), .second, .val (.int p6), .val (.int (p1 &&& (3 : Int32))), .unset, .unset, .unset, .unset, .unset, .unset, .unset, .unset, .unset, .unset, .unset, .unset, .unset, .unset, .unset, .unset, .unset, .unset, .unset] [(.int p1)]))
  refine own_go (fun _ => XS.iconst X0.here hx rfl (hb hby at_6)) ?_
  show own_Go p.tables e below _ (s₁.setTop (mkF m 7 #[.val (.int p1), .val (.long q2), .second, .val (.long q3), .second, .val (.long q4), .second, .val (.long q5), .second, .val (.int p6), .val (.int (p1 &&& (3 : Int32))), .unset, .unset, .unset, .unset, .unset, .unset, .unset, .unset, .unset, .unset, .unset, .unset, .unset, .unset, .unset, .unset, .unset, .unset, .unset] [(.int (2 : Int32)), (.int p1)]))
  refine own_go (fun _ => XS.iushr X0.here hx rfl (hb hby at_7) rfl) ?_
  show own_Go p.tables e below _ (s₁.setTop (mkF m 8 #[.val (.int p1), .val (.long q2), .second, .val (.long q3), .second, .val (.long q4), .second, .val (.long q5), .second, .val (.int p6), .val (.int (p1 &&& (3 : Int32))), .unset, .unset, .unset, .unset, .unset, .unset, .unset, .unset, .unset, .unset, .unset, .unset, .unset, .unset, .unset, .unset, .unset, .unset, .unset] [(.int ((p1.toUInt32 >>> ((2 : Int32) &&& 31).toUInt32).toInt32))]))
  refine own_go (fun _ => XS.iconst X0.here hx rfl (hb hby at_8)) ?_
  show own_Go p.tables e below _ (s₁.setTop (mkF m 9 #[.val (.int p1), .val (.long q2), .second, .val (.long q3), .second, .val (.long q4), .second, .val (.long q5), .second, .val (.int p6), .val (.int (p1 &&& (3 : Int32))), .unset, .unset, .unset, .unset, .unset, .unset, .unset, .unset, .unset, .unset, .unset, .unset, .unset, .unset, .unset, .unset, .unset, .unset, .unset] [(.int (3 : Int32)), (.int ((p1.toUInt32 >>> ((2 : Int32) &&& 31).toUInt32).toInt32))]))
  refine own_go (fun _ => XS.iand X0.here hx rfl (hb hby at_9) rfl) ?_
  show own_Go p.tables e below _ (s₁.setTop (mkF m 10 #[.val (.int p1), .val (.long q2), .second, .val (.long q3), .second, .val (.long q4), .second, .val (.long q5), .second, .val (.int p6), .val (.int (p1 &&& (3 : Int32))), .unset, .unset, .unset, .unset, .unset, .unset, .unset, .unset, .unset, .unset, .unset, .unset, .unset, .unset, .unset, .unset, .unset, .unset, .unset] [(.int (((p1.toUInt32 >>> ((2 : Int32) &&& 31).toUInt32).toInt32) &&& (3 : Int32)))]))
  refine own_go (fun _ => XS.iconst X0.here hx rfl (hb hby at_10)) ?_
  show own_Go p.tables e below _ (s₁.setTop (mkF m 11 #[.val (.int p1), .val (.long q2), .second, .val (.long q3), .second, .val (.long q4), .second, .val (.long q5), .second, .val (.int p6), .val (.int (p1 &&& (3 : Int32))), .unset, .unset, .unset, .unset, .unset, .unset, .unset, .unset, .unset, .unset, .unset, .unset, .unset, .unset, .unset, .unset, .unset, .unset, .unset] [(.int (1 : Int32)), (.int (((p1.toUInt32 >>> ((2 : Int32) &&& 31).toUInt32).toInt32) &&& (3 : Int32)))]))
  refine own_go (fun _ => XS.iadd X0.here hx rfl (hb hby at_11) rfl) ?_
  show own_Go p.tables e below _ (s₁.setTop (mkF m 12 #[.val (.int p1), .val (.long q2), .second, .val (.long q3), .second, .val (.long q4), .second, .val (.long q5), .second, .val (.int p6), .val (.int (p1 &&& (3 : Int32))), .unset, .unset, .unset, .unset, .unset, .unset, .unset, .unset, .unset, .unset, .unset, .unset, .unset, .unset, .unset, .unset, .unset, .unset, .unset] [(.int ((((p1.toUInt32 >>> ((2 : Int32) &&& 31).toUInt32).toInt32) &&& (3 : Int32)) + (1 : Int32)))]))
  refine own_go (fun _ => XS.istore X0.here hx rfl (hb hby at_12) rfl (l' := #[.val (.int p1), .val (.long q2), .second, .val (.long q3), .second, .val (.long q4), .second, .val (.long q5), .second, .val (.int p6), .val (.int (p1 &&& (3 : Int32))), .val (.int ((((p1.toUInt32 >>> ((2 : Int32) &&& 31).toUInt32).toInt32) &&& (3 : Int32)) + (1 : Int32))), .unset, .unset, .unset, .unset, .unset, .unset, .unset, .unset, .unset, .unset, .unset, .unset, .unset, .unset, .unset, .unset, .unset, .unset]) rfl) ?_
  show own_Go p.tables e below _ (s₁.setTop (mkF m 14 #[.val (.int p1), .val (.long q2), .second, .val (.long q3), .second, .val (.long q4), .second, .val (.long q5), .second, .val (.int p6), .val (.int (p1 &&& (3 : Int32))), .val (.int ((((p1.toUInt32 >>> ((2 : Int32) &&& 31).toUInt32).toInt32) &&& (3 : Int32)) + (1 : Int32))), .unset, .unset, .unset, .unset, .unset, .unset, .unset, .unset, .unset, .unset, .unset, .unset, .unset, .unset, .unset, .unset, .unset, .unset] []))
  refine own_go (fun _ => XS.lloadN X0.here hx rfl (hb hby at_14) rfl) ?_
  show own_Go p.tables e below _ (s₁.setTop (mkF m 15 #[.val (.int p1), .val (.long q2), .second, .val (.long q3), .second, .val (.long q4), .second, .val (.long q5), .second, .val (.int p6), .val (.int (p1 &&& (3 : Int32))), .val (.int ((((p1.toUInt32 >>> ((2 : Int32) &&& 31).toUInt32).toInt32) &&& (3 : Int32)) + (1 : Int32))), .unset, .unset, .unset, .unset, .unset, .unset, .unset, .unset, .unset, .unset, .unset, .unset, .unset, .unset, .unset, .unset, .unset, .unset] [(.long q2)]))
  refine own_go (X0.ldc2Long hx hown (mvT hZ (hw _ (List.mem_of_getElem? (i := 0) rfl))) (g := (mkF m 15 #[.val (.int p1), .val (.long q2), .second, .val (.long q3), .second, .val (.long q4), .second, .val (.long q5), .second, .val (.int p6), .val (.int (p1 &&& (3 : Int32))), .val (.int ((((p1.toUInt32 >>> ((2 : Int32) &&& 31).toUInt32).toInt32) &&& (3 : Int32)) + (1 : Int32))), .unset, .unset, .unset, .unset, .unset, .unset, .unset, .unset, .unset, .unset, .unset, .unset, .unset, .unset, .unset, .unset, .unset, .unset] [(.long q2)])) rfl (hb hby at_15)) ?_
  show own_Go p.tables e below _ (s₁.setTop (mkF m 18 #[.val (.int p1), .val (.long q2), .second, .val (.long q3), .second, .val (.long q4), .second, .val (.long q5), .second, .val (.int p6), .val (.int (p1 &&& (3 : Int32))), .val (.int ((((p1.toUInt32 >>> ((2 : Int32) &&& 31).toUInt32).toInt32) &&& (3 : Int32)) + (1 : Int32))), .unset, .unset, .unset, .unset, .unset, .unset, .unset, .unset, .unset, .unset, .unset, .unset, .unset, .unset, .unset, .unset, .unset, .unset] [(.long (9223372036854775807 : Int64)), (.long q2)]))
  refine own_go (fun _ => XS.land X0.here hx rfl (hb hby at_18) rfl) ?_
  show own_Go p.tables e below _ (s₁.setTop (mkF m 19 #[.val (.int p1), .val (.long q2), .second, .val (.long q3), .second, .val (.long q4), .second, .val (.long q5), .second, .val (.int p6), .val (.int (p1 &&& (3 : Int32))), .val (.int ((((p1.toUInt32 >>> ((2 : Int32) &&& 31).toUInt32).toInt32) &&& (3 : Int32)) + (1 : Int32))), .unset, .unset, .unset, .unset, .unset, .unset, .unset, .unset, .unset, .unset, .unset, .unset, .unset, .unset, .unset, .unset, .unset, .unset] [(.long (q2 &&& (9223372036854775807 : Int64)))]))
  refine own_go (fun _ => XS.lstore X0.here hx rfl (hb hby at_19) rfl (l' := #[.val (.int p1), .val (.long q2), .second, .val (.long q3), .second, .val (.long q4), .second, .val (.long q5), .second, .val (.int p6), .val (.int (p1 &&& (3 : Int32))), .val (.int ((((p1.toUInt32 >>> ((2 : Int32) &&& 31).toUInt32).toInt32) &&& (3 : Int32)) + (1 : Int32))), .val (.long (q2 &&& (9223372036854775807 : Int64))), .second, .unset, .unset, .unset, .unset, .unset, .unset, .unset, .unset, .unset, .unset, .unset, .unset, .unset, .unset, .unset, .unset]) rfl) ?_
  show own_Go p.tables e below _ (s₁.setTop (mkF m 21 #[.val (.int p1), .val (.long q2), .second, .val (.long q3), .second, .val (.long q4), .second, .val (.long q5), .second, .val (.int p6), .val (.int (p1 &&& (3 : Int32))), .val (.int ((((p1.toUInt32 >>> ((2 : Int32) &&& 31).toUInt32).toInt32) &&& (3 : Int32)) + (1 : Int32))), .val (.long (q2 &&& (9223372036854775807 : Int64))), .second, .unset, .unset, .unset, .unset, .unset, .unset, .unset, .unset, .unset, .unset, .unset, .unset, .unset, .unset, .unset, .unset] []))
  refine own_go (fun _ => XS.lloadN X0.here hx rfl (hb hby at_21) rfl) ?_
  show own_Go p.tables e below _ (s₁.setTop (mkF m 22 #[.val (.int p1), .val (.long q2), .second, .val (.long q3), .second, .val (.long q4), .second, .val (.long q5), .second, .val (.int p6), .val (.int (p1 &&& (3 : Int32))), .val (.int ((((p1.toUInt32 >>> ((2 : Int32) &&& 31).toUInt32).toInt32) &&& (3 : Int32)) + (1 : Int32))), .val (.long (q2 &&& (9223372036854775807 : Int64))), .second, .unset, .unset, .unset, .unset, .unset, .unset, .unset, .unset, .unset, .unset, .unset, .unset, .unset, .unset, .unset, .unset] [(.long q3)]))
  refine own_go (X0.ldc2Long hx hown (mvT hZ (hw _ (List.mem_of_getElem? (i := 0) rfl))) (g := (mkF m 22 #[.val (.int p1), .val (.long q2), .second, .val (.long q3), .second, .val (.long q4), .second, .val (.long q5), .second, .val (.int p6), .val (.int (p1 &&& (3 : Int32))), .val (.int ((((p1.toUInt32 >>> ((2 : Int32) &&& 31).toUInt32).toInt32) &&& (3 : Int32)) + (1 : Int32))), .val (.long (q2 &&& (9223372036854775807 : Int64))), .second, .unset, .unset, .unset, .unset, .unset, .unset, .unset, .unset, .unset, .unset, .unset, .unset, .unset, .unset, .unset, .unset] [(.long q3)])) rfl (hb hby at_22)) ?_
  show own_Go p.tables e below _ (s₁.setTop (mkF m 25 #[.val (.int p1), .val (.long q2), .second, .val (.long q3), .second, .val (.long q4), .second, .val (.long q5), .second, .val (.int p6), .val (.int (p1 &&& (3 : Int32))), .val (.int ((((p1.toUInt32 >>> ((2 : Int32) &&& 31).toUInt32).toInt32) &&& (3 : Int32)) + (1 : Int32))), .val (.long (q2 &&& (9223372036854775807 : Int64))), .second, .unset, .unset, .unset, .unset, .unset, .unset, .unset, .unset, .unset, .unset, .unset, .unset, .unset, .unset, .unset, .unset] [(.long (9223372036854775807 : Int64)), (.long q3)]))
  refine own_go (fun _ => XS.land X0.here hx rfl (hb hby at_25) rfl) ?_
  show own_Go p.tables e below _ (s₁.setTop (mkF m 26 #[.val (.int p1), .val (.long q2), .second, .val (.long q3), .second, .val (.long q4), .second, .val (.long q5), .second, .val (.int p6), .val (.int (p1 &&& (3 : Int32))), .val (.int ((((p1.toUInt32 >>> ((2 : Int32) &&& 31).toUInt32).toInt32) &&& (3 : Int32)) + (1 : Int32))), .val (.long (q2 &&& (9223372036854775807 : Int64))), .second, .unset, .unset, .unset, .unset, .unset, .unset, .unset, .unset, .unset, .unset, .unset, .unset, .unset, .unset, .unset, .unset] [(.long (q3 &&& (9223372036854775807 : Int64)))]))
  refine own_go (fun _ => XS.lstore X0.here hx rfl (hb hby at_26) rfl (l' := #[.val (.int p1), .val (.long q2), .second, .val (.long q3), .second, .val (.long q4), .second, .val (.long q5), .second, .val (.int p6), .val (.int (p1 &&& (3 : Int32))), .val (.int ((((p1.toUInt32 >>> ((2 : Int32) &&& 31).toUInt32).toInt32) &&& (3 : Int32)) + (1 : Int32))), .val (.long (q2 &&& (9223372036854775807 : Int64))), .second, .val (.long (q3 &&& (9223372036854775807 : Int64))), .second, .unset, .unset, .unset, .unset, .unset, .unset, .unset, .unset, .unset, .unset, .unset, .unset, .unset, .unset]) rfl) ?_
  show own_Go p.tables e below _ (s₁.setTop (mkF m 28 #[.val (.int p1), .val (.long q2), .second, .val (.long q3), .second, .val (.long q4), .second, .val (.long q5), .second, .val (.int p6), .val (.int (p1 &&& (3 : Int32))), .val (.int ((((p1.toUInt32 >>> ((2 : Int32) &&& 31).toUInt32).toInt32) &&& (3 : Int32)) + (1 : Int32))), .val (.long (q2 &&& (9223372036854775807 : Int64))), .second, .val (.long (q3 &&& (9223372036854775807 : Int64))), .second, .unset, .unset, .unset, .unset, .unset, .unset, .unset, .unset, .unset, .unset, .unset, .unset, .unset, .unset] []))
  refine own_go (fun _ => XS.lload X0.here hx rfl (hb hby at_28) rfl) ?_
  show own_Go p.tables e below _ (s₁.setTop (mkF m 30 #[.val (.int p1), .val (.long q2), .second, .val (.long q3), .second, .val (.long q4), .second, .val (.long q5), .second, .val (.int p6), .val (.int (p1 &&& (3 : Int32))), .val (.int ((((p1.toUInt32 >>> ((2 : Int32) &&& 31).toUInt32).toInt32) &&& (3 : Int32)) + (1 : Int32))), .val (.long (q2 &&& (9223372036854775807 : Int64))), .second, .val (.long (q3 &&& (9223372036854775807 : Int64))), .second, .unset, .unset, .unset, .unset, .unset, .unset, .unset, .unset, .unset, .unset, .unset, .unset, .unset, .unset] [(.long q4)]))
  refine own_go (X0.ldc2Long hx hown (mvT hZ (hw _ (List.mem_of_getElem? (i := 0) rfl))) (g := (mkF m 30 #[.val (.int p1), .val (.long q2), .second, .val (.long q3), .second, .val (.long q4), .second, .val (.long q5), .second, .val (.int p6), .val (.int (p1 &&& (3 : Int32))), .val (.int ((((p1.toUInt32 >>> ((2 : Int32) &&& 31).toUInt32).toInt32) &&& (3 : Int32)) + (1 : Int32))), .val (.long (q2 &&& (9223372036854775807 : Int64))), .second, .val (.long (q3 &&& (9223372036854775807 : Int64))), .second, .unset, .unset, .unset, .unset, .unset, .unset, .unset, .unset, .unset, .unset, .unset, .unset, .unset, .unset] [(.long q4)])) rfl (hb hby at_30)) ?_
  show own_Go p.tables e below _ (s₁.setTop (mkF m 33 #[.val (.int p1), .val (.long q2), .second, .val (.long q3), .second, .val (.long q4), .second, .val (.long q5), .second, .val (.int p6), .val (.int (p1 &&& (3 : Int32))), .val (.int ((((p1.toUInt32 >>> ((2 : Int32) &&& 31).toUInt32).toInt32) &&& (3 : Int32)) + (1 : Int32))), .val (.long (q2 &&& (9223372036854775807 : Int64))), .second, .val (.long (q3 &&& (9223372036854775807 : Int64))), .second, .unset, .unset, .unset, .unset, .unset, .unset, .unset, .unset, .unset, .unset, .unset, .unset, .unset, .unset] [(.long (9223372036854775807 : Int64)), (.long q4)]))
  refine own_go (fun _ => XS.land X0.here hx rfl (hb hby at_33) rfl) ?_
  show own_Go p.tables e below _ (s₁.setTop (mkF m 34 #[.val (.int p1), .val (.long q2), .second, .val (.long q3), .second, .val (.long q4), .second, .val (.long q5), .second, .val (.int p6), .val (.int (p1 &&& (3 : Int32))), .val (.int ((((p1.toUInt32 >>> ((2 : Int32) &&& 31).toUInt32).toInt32) &&& (3 : Int32)) + (1 : Int32))), .val (.long (q2 &&& (9223372036854775807 : Int64))), .second, .val (.long (q3 &&& (9223372036854775807 : Int64))), .second, .unset, .unset, .unset, .unset, .unset, .unset, .unset, .unset, .unset, .unset, .unset, .unset, .unset, .unset] [(.long (q4 &&& (9223372036854775807 : Int64)))]))
  refine own_go (fun _ => XS.lstore X0.here hx rfl (hb hby at_34) rfl (l' := #[.val (.int p1), .val (.long q2), .second, .val (.long q3), .second, .val (.long q4), .second, .val (.long q5), .second, .val (.int p6), .val (.int (p1 &&& (3 : Int32))), .val (.int ((((p1.toUInt32 >>> ((2 : Int32) &&& 31).toUInt32).toInt32) &&& (3 : Int32)) + (1 : Int32))), .val (.long (q2 &&& (9223372036854775807 : Int64))), .second, .val (.long (q3 &&& (9223372036854775807 : Int64))), .second, .val (.long (q4 &&& (9223372036854775807 : Int64))), .second, .unset, .unset, .unset, .unset, .unset, .unset, .unset, .unset, .unset, .unset, .unset, .unset]) rfl) ?_
  show own_Go p.tables e below _ (s₁.setTop (mkF m 36 #[.val (.int p1), .val (.long q2), .second, .val (.long q3), .second, .val (.long q4), .second, .val (.long q5), .second, .val (.int p6), .val (.int (p1 &&& (3 : Int32))), .val (.int ((((p1.toUInt32 >>> ((2 : Int32) &&& 31).toUInt32).toInt32) &&& (3 : Int32)) + (1 : Int32))), .val (.long (q2 &&& (9223372036854775807 : Int64))), .second, .val (.long (q3 &&& (9223372036854775807 : Int64))), .second, .val (.long (q4 &&& (9223372036854775807 : Int64))), .second, .unset, .unset, .unset, .unset, .unset, .unset, .unset, .unset, .unset, .unset, .unset, .unset] []))
  refine own_go (fun _ => XS.lload X0.here hx rfl (hb hby at_36) rfl) ?_
  show own_Go p.tables e below _ (s₁.setTop (mkF m 38 #[.val (.int p1), .val (.long q2), .second, .val (.long q3), .second, .val (.long q4), .second, .val (.long q5), .second, .val (.int p6), .val (.int (p1 &&& (3 : Int32))), .val (.int ((((p1.toUInt32 >>> ((2 : Int32) &&& 31).toUInt32).toInt32) &&& (3 : Int32)) + (1 : Int32))), .val (.long (q2 &&& (9223372036854775807 : Int64))), .second, .val (.long (q3 &&& (9223372036854775807 : Int64))), .second, .val (.long (q4 &&& (9223372036854775807 : Int64))), .second, .unset, .unset, .unset, .unset, .unset, .unset, .unset, .unset, .unset, .unset, .unset, .unset] [(.long q5)]))
  refine own_go (X0.ldc2Long hx hown (mvT hZ (hw _ (List.mem_of_getElem? (i := 0) rfl))) (g := (mkF m 38 #[.val (.int p1), .val (.long q2), .second, .val (.long q3), .second, .val (.long q4), .second, .val (.long q5), .second, .val (.int p6), .val (.int (p1 &&& (3 : Int32))), .val (.int ((((p1.toUInt32 >>> ((2 : Int32) &&& 31).toUInt32).toInt32) &&& (3 : Int32)) + (1 : Int32))), .val (.long (q2 &&& (9223372036854775807 : Int64))), .second, .val (.long (q3 &&& (9223372036854775807 : Int64))), .second, .val (.long (q4 &&& (9223372036854775807 : Int64))), .second, .unset, .unset, .unset, .unset, .unset, .unset, .unset, .unset, .unset, .unset, .unset, .unset] [(.long q5)])) rfl (hb hby at_38)) ?_
  show own_Go p.tables e below _ (s₁.setTop (mkF m 41 #[.val (.int p1), .val (.long q2), .second, .val (.long q3), .second, .val (.long q4), .second, .val (.long q5), .second, .val (.int p6), .val (.int (p1 &&& (3 : Int32))), .val (.int ((((p1.toUInt32 >>> ((2 : Int32) &&& 31).toUInt32).toInt32) &&& (3 : Int32)) + (1 : Int32))), .val (.long (q2 &&& (9223372036854775807 : Int64))), .second, .val (.long (q3 &&& (9223372036854775807 : Int64))), .second, .val (.long (q4 &&& (9223372036854775807 : Int64))), .second, .unset, .unset, .unset, .unset, .unset, .unset, .unset, .unset, .unset, .unset, .unset, .unset] [(.long (9223372036854775807 : Int64)), (.long q5)]))
  refine own_go (fun _ => XS.land X0.here hx rfl (hb hby at_41) rfl) ?_
  show own_Go p.tables e below _ (s₁.setTop (mkF m 42 #[.val (.int p1), .val (.long q2), .second, .val (.long q3), .second, .val (.long q4), .second, .val (.long q5), .second, .val (.int p6), .val (.int (p1 &&& (3 : Int32))), .val (.int ((((p1.toUInt32 >>> ((2 : Int32) &&& 31).toUInt32).toInt32) &&& (3 : Int32)) + (1 : Int32))), .val (.long (q2 &&& (9223372036854775807 : Int64))), .second, .val (.long (q3 &&& (9223372036854775807 : Int64))), .second, .val (.long (q4 &&& (9223372036854775807 : Int64))), .second, .unset, .unset, .unset, .unset, .unset, .unset, .unset, .unset, .unset, .unset, .unset, .unset] [(.long (q5 &&& (9223372036854775807 : Int64)))]))
  refine own_go (fun _ => XS.lstore X0.here hx rfl (hb hby at_42) rfl (l' := #[.val (.int p1), .val (.long q2), .second, .val (.long q3), .second, .val (.long q4), .second, .val (.long q5), .second, .val (.int p6), .val (.int (p1 &&& (3 : Int32))), .val (.int ((((p1.toUInt32 >>> ((2 : Int32) &&& 31).toUInt32).toInt32) &&& (3 : Int32)) + (1 : Int32))), .val (.long (q2 &&& (9223372036854775807 : Int64))), .second, .val (.long (q3 &&& (9223372036854775807 : Int64))), .second, .val (.long (q4 &&& (9223372036854775807 : Int64))), .second, .val (.long (q5 &&& (9223372036854775807 : Int64))), .second, .unset, .unset, .unset, .unset, .unset, .unset, .unset, .unset, .unset, .unset]) rfl) ?_
  show own_Go p.tables e below _ (s₁.setTop (mkF m 44 #[.val (.int p1), .val (.long q2), .second, .val (.long q3), .second, .val (.long q4), .second, .val (.long q5), .second, .val (.int p6), .val (.int (p1 &&& (3 : Int32))), .val (.int ((((p1.toUInt32 >>> ((2 : Int32) &&& 31).toUInt32).toInt32) &&& (3 : Int32)) + (1 : Int32))), .val (.long (q2 &&& (9223372036854775807 : Int64))), .second, .val (.long (q3 &&& (9223372036854775807 : Int64))), .second, .val (.long (q4 &&& (9223372036854775807 : Int64))), .second, .val (.long (q5 &&& (9223372036854775807 : Int64))), .second, .unset, .unset, .unset, .unset, .unset, .unset, .unset, .unset, .unset, .unset] []))
  show own_Go p.tables e below _ (s₁.setTop (mkF m 44 #[.val (.int p1), .val (.long q2), .second, .val (.long q3), .second, .val (.long q4), .second, .val (.long q5), .second, .val (.int p6), .val (.int (p1 &&& (3 : Int32))), .val (.int (own_most p1)), .val (.long (own_key q2)), .second, .val (.long (own_key q3)), .second, .val (.long (own_key q4)), .second, .val (.long (own_key q5)), .second, .unset, .unset, .unset, .unset, .unset, .unset, .unset, .unset, .unset, .unset] []))
  obtain ⟨zm, ezm⟩ : ∃ z, z = own_most p1 := ⟨_, rfl⟩
  have hz4 := own_most4 p1
  rw [← ezm] at hz4 ⊢
  obtain ⟨y1, ey1⟩ : ∃ z, z = own_key q2 := ⟨_, rfl⟩
  have hy1 := own_keyN q2
  rw [← ey1] at hy1 ⊢
  obtain ⟨y2, ey2⟩ : ∃ z, z = own_key q3 := ⟨_, rfl⟩
  have hy2 := own_keyN q3
  rw [← ey2] at hy2 ⊢
  obtain ⟨y3, ey3⟩ : ∃ z, z = own_key q4 := ⟨_, rfl⟩
  have hy3 := own_keyN q4
  rw [← ey3] at hy3 ⊢
  obtain ⟨y4, ey4⟩ : ∃ z, z = own_key q5 := ⟨_, rfl⟩
  have hy4 := own_keyN q5
  rw [← ey4] at hy4 ⊢
  show own_Go p.tables e below _ (s₁.setTop (mkF m 44 #[.val (.int p1), .val (.long q2), .second, .val (.long q3), .second, .val (.long q4), .second, .val (.long q5), .second, .val (.int p6), .val (.int (p1 &&& (3 : Int32))), .val (.int zm), .val (.long y1), .second, .val (.long y2), .second, .val (.long y3), .second, .val (.long y4), .second, .unset, .unset, .unset, .unset, .unset, .unset, .unset, .unset, .unset, .unset] []))
  rcases own_and3 p1 with hn | hn | hn | hn
  · skip
    show own_Go p.tables e below _ (s₁.setTop (mkF m 44 #[.val (.int p1), .val (.long q2), .second, .val (.long q3), .second, .val (.long q4), .second, .val (.long q5), .second, .val (.int p6), .val (.int (p1 &&& (3 : Int32))), .val (.int zm), .val (.long y1), .second, .val (.long y2), .second, .val (.long y3), .second, .val (.long y4), .second, .unset, .unset, .unset, .unset, .unset, .unset, .unset, .unset, .unset, .unset] []))
    rw [hn]
    show own_Go p.tables e below _ (s₁.setTop (mkF m 44 #[.val (.int p1), .val (.long q2), .second, .val (.long q3), .second, .val (.long q4), .second, .val (.long q5), .second, .val (.int p6), .val (.int (0 : Int32)), .val (.int zm), .val (.long y1), .second, .val (.long y2), .second, .val (.long y3), .second, .val (.long y4), .second, .unset, .unset, .unset, .unset, .unset, .unset, .unset, .unset, .unset, .unset] []))
    refine own_go (fun _ => XS.iload X0.here hx rfl (hb hby at_44) rfl) ?_
    show own_Go p.tables e below _ (s₁.setTop (mkF m 46 #[.val (.int p1), .val (.long q2), .second, .val (.long q3), .second, .val (.long q4), .second, .val (.long q5), .second, .val (.int p6), .val (.int (0 : Int32)), .val (.int zm), .val (.long y1), .second, .val (.long y2), .second, .val (.long y3), .second, .val (.long y4), .second, .unset, .unset, .unset, .unset, .unset, .unset, .unset, .unset, .unset, .unset] [(.int (0 : Int32))]))
    refine own_go (fun _ => XS.iconst X0.here hx rfl (hb hby at_46)) ?_
    show own_Go p.tables e below _ (s₁.setTop (mkF m 47 #[.val (.int p1), .val (.long q2), .second, .val (.long q3), .second, .val (.long q4), .second, .val (.long q5), .second, .val (.int p6), .val (.int (0 : Int32)), .val (.int zm), .val (.long y1), .second, .val (.long y2), .second, .val (.long y3), .second, .val (.long y4), .second, .unset, .unset, .unset, .unset, .unset, .unset, .unset, .unset, .unset, .unset] [(.int (2 : Int32)), (.int (0 : Int32))]))
    refine own_go (fun _ => XS.icmpYes X0.here hx rfl (pc0 := 47) (pc' := 60) rfl (hb hby at_47) rfl (tlt (by decide : (0 : Int32) < (2 : Int32))).1 (by decide) (by decide)) ?_
    show own_Go p.tables e below _ (s₁.setTop (mkF m 60 #[.val (.int p1), .val (.long q2), .second, .val (.long q3), .second, .val (.long q4), .second, .val (.long q5), .second, .val (.int p6), .val (.int (0 : Int32)), .val (.int zm), .val (.long y1), .second, .val (.long y2), .second, .val (.long y3), .second, .val (.long y4), .second, .unset, .unset, .unset, .unset, .unset, .unset, .unset, .unset, .unset, .unset] []))
    refine own_go (fun _ => XS.iload X0.here hx rfl (hb hby at_60) rfl) ?_
    show own_Go p.tables e below _ (s₁.setTop (mkF m 62 #[.val (.int p1), .val (.long q2), .second, .val (.long q3), .second, .val (.long q4), .second, .val (.long q5), .second, .val (.int p6), .val (.int (0 : Int32)), .val (.int zm), .val (.long y1), .second, .val (.long y2), .second, .val (.long y3), .second, .val (.long y4), .second, .unset, .unset, .unset, .unset, .unset, .unset, .unset, .unset, .unset, .unset] [(.int (0 : Int32))]))
    refine own_go (fun _ => XS.iconst X0.here hx rfl (hb hby at_62)) ?_
    show own_Go p.tables e below _ (s₁.setTop (mkF m 63 #[.val (.int p1), .val (.long q2), .second, .val (.long q3), .second, .val (.long q4), .second, .val (.long q5), .second, .val (.int p6), .val (.int (0 : Int32)), .val (.int zm), .val (.long y1), .second, .val (.long y2), .second, .val (.long y3), .second, .val (.long y4), .second, .unset, .unset, .unset, .unset, .unset, .unset, .unset, .unset, .unset, .unset] [(.int (3 : Int32)), (.int (0 : Int32))]))
    refine own_go (fun _ => XS.icmpYes X0.here hx rfl (pc0 := 63) (pc' := 90) rfl (hb hby at_63) rfl (feq (by decide : ¬ ((0 : Int32) = (3 : Int32)))).2 (by decide) (by decide)) ?_
    show own_Go p.tables e below _ (s₁.setTop (mkF m 90 #[.val (.int p1), .val (.long q2), .second, .val (.long q3), .second, .val (.long q4), .second, .val (.long q5), .second, .val (.int p6), .val (.int (0 : Int32)), .val (.int zm), .val (.long y1), .second, .val (.long y2), .second, .val (.long y3), .second, .val (.long y4), .second, .unset, .unset, .unset, .unset, .unset, .unset, .unset, .unset, .unset, .unset] []))
    refine own_go (fun _ => XS.iload X0.here hx rfl (hb hby at_90) rfl) ?_
    show own_Go p.tables e below _ (s₁.setTop (mkF m 92 #[.val (.int p1), .val (.long q2), .second, .val (.long q3), .second, .val (.long q4), .second, .val (.long q5), .second, .val (.int p6), .val (.int (0 : Int32)), .val (.int zm), .val (.long y1), .second, .val (.long y2), .second, .val (.long y3), .second, .val (.long y4), .second, .unset, .unset, .unset, .unset, .unset, .unset, .unset, .unset, .unset, .unset] [(.int p6)]))
    refine own_go (fun _ => XS.i2dS X0.here hx rfl (hb hby at_92) rfl rfl) ?_
    show own_Go p.tables e below _ (s₁.setTop (mkF m 93 #[.val (.int p1), .val (.long q2), .second, .val (.long q3), .second, .val (.long q4), .second, .val (.long q5), .second, .val (.int p6), .val (.int (0 : Int32)), .val (.int zm), .val (.long y1), .second, .val (.long y2), .second, .val (.long y3), .second, .val (.long y4), .second, .unset, .unset, .unset, .unset, .unset, .unset, .unset, .unset, .unset, .unset] [(.double (FP.i2d p6))]))
    refine own_go (fun _ => XS.dstore X0.here hx rfl (hb hby at_93) rfl (l' := #[.val (.int p1), .val (.long q2), .second, .val (.long q3), .second, .val (.long q4), .second, .val (.long q5), .second, .val (.int p6), .val (.int (0 : Int32)), .val (.int zm), .val (.long y1), .second, .val (.long y2), .second, .val (.long y3), .second, .val (.long y4), .second, .val (.double (FP.i2d p6)), .second, .unset, .unset, .unset, .unset, .unset, .unset, .unset, .unset]) rfl) ?_
    show own_Go p.tables e below _ (s₁.setTop (mkF m 95 #[.val (.int p1), .val (.long q2), .second, .val (.long q3), .second, .val (.long q4), .second, .val (.long q5), .second, .val (.int p6), .val (.int (0 : Int32)), .val (.int zm), .val (.long y1), .second, .val (.long y2), .second, .val (.long y3), .second, .val (.long y4), .second, .val (.double (FP.i2d p6)), .second, .unset, .unset, .unset, .unset, .unset, .unset, .unset, .unset] []))
    refine own_go (fun _ => XS.iload X0.here hx rfl (hb hby at_95) rfl) ?_
    show own_Go p.tables e below _ (s₁.setTop (mkF m 97 #[.val (.int p1), .val (.long q2), .second, .val (.long q3), .second, .val (.long q4), .second, .val (.long q5), .second, .val (.int p6), .val (.int (0 : Int32)), .val (.int zm), .val (.long y1), .second, .val (.long y2), .second, .val (.long y3), .second, .val (.long y4), .second, .val (.double (FP.i2d p6)), .second, .unset, .unset, .unset, .unset, .unset, .unset, .unset, .unset] [(.int p6)]))
    refine own_go (fun _ => XS.iconst X0.here hx rfl (hb hby at_97)) ?_
    show own_Go p.tables e below _ (s₁.setTop (mkF m 98 #[.val (.int p1), .val (.long q2), .second, .val (.long q3), .second, .val (.long q4), .second, .val (.long q5), .second, .val (.int p6), .val (.int (0 : Int32)), .val (.int zm), .val (.long y1), .second, .val (.long y2), .second, .val (.long y3), .second, .val (.long y4), .second, .val (.double (FP.i2d p6)), .second, .unset, .unset, .unset, .unset, .unset, .unset, .unset, .unset] [(.int (1 : Int32)), (.int p6)]))
    refine own_go (fun _ => XS.iadd X0.here hx rfl (hb hby at_98) rfl) ?_
    show own_Go p.tables e below _ (s₁.setTop (mkF m 99 #[.val (.int p1), .val (.long q2), .second, .val (.long q3), .second, .val (.long q4), .second, .val (.long q5), .second, .val (.int p6), .val (.int (0 : Int32)), .val (.int zm), .val (.long y1), .second, .val (.long y2), .second, .val (.long y3), .second, .val (.long y4), .second, .val (.double (FP.i2d p6)), .second, .unset, .unset, .unset, .unset, .unset, .unset, .unset, .unset] [(.int (p6 + (1 : Int32)))]))
    refine own_go (fun _ => XS.i2dS X0.here hx rfl (hb hby at_99) rfl rfl) ?_
    show own_Go p.tables e below _ (s₁.setTop (mkF m 100 #[.val (.int p1), .val (.long q2), .second, .val (.long q3), .second, .val (.long q4), .second, .val (.long q5), .second, .val (.int p6), .val (.int (0 : Int32)), .val (.int zm), .val (.long y1), .second, .val (.long y2), .second, .val (.long y3), .second, .val (.long y4), .second, .val (.double (FP.i2d p6)), .second, .unset, .unset, .unset, .unset, .unset, .unset, .unset, .unset] [(.double (FP.i2d (p6 + (1 : Int32))))]))
    refine own_go (fun _ => XS.dstore X0.here hx rfl (hb hby at_100) rfl (l' := #[.val (.int p1), .val (.long q2), .second, .val (.long q3), .second, .val (.long q4), .second, .val (.long q5), .second, .val (.int p6), .val (.int (0 : Int32)), .val (.int zm), .val (.long y1), .second, .val (.long y2), .second, .val (.long y3), .second, .val (.long y4), .second, .val (.double (FP.i2d p6)), .second, .val (.double (FP.i2d (p6 + (1 : Int32)))), .second, .unset, .unset, .unset, .unset, .unset, .unset]) rfl) ?_
    show own_Go p.tables e below _ (s₁.setTop (mkF m 102 #[.val (.int p1), .val (.long q2), .second, .val (.long q3), .second, .val (.long q4), .second, .val (.long q5), .second, .val (.int p6), .val (.int (0 : Int32)), .val (.int zm), .val (.long y1), .second, .val (.long y2), .second, .val (.long y3), .second, .val (.long y4), .second, .val (.double (FP.i2d p6)), .second, .val (.double (FP.i2d (p6 + (1 : Int32)))), .second, .unset, .unset, .unset, .unset, .unset, .unset] []))
    refine own_go (fun _ => XS.iload X0.here hx rfl (hb hby at_102) rfl) ?_
    show own_Go p.tables e below _ (s₁.setTop (mkF m 104 #[.val (.int p1), .val (.long q2), .second, .val (.long q3), .second, .val (.long q4), .second, .val (.long q5), .second, .val (.int p6), .val (.int (0 : Int32)), .val (.int zm), .val (.long y1), .second, .val (.long y2), .second, .val (.long y3), .second, .val (.long y4), .second, .val (.double (FP.i2d p6)), .second, .val (.double (FP.i2d (p6 + (1 : Int32)))), .second, .unset, .unset, .unset, .unset, .unset, .unset] [(.int p6)]))
    refine own_go (fun _ => XS.iconst X0.here hx rfl (hb hby at_104)) ?_
    show own_Go p.tables e below _ (s₁.setTop (mkF m 105 #[.val (.int p1), .val (.long q2), .second, .val (.long q3), .second, .val (.long q4), .second, .val (.long q5), .second, .val (.int p6), .val (.int (0 : Int32)), .val (.int zm), .val (.long y1), .second, .val (.long y2), .second, .val (.long y3), .second, .val (.long y4), .second, .val (.double (FP.i2d p6)), .second, .val (.double (FP.i2d (p6 + (1 : Int32)))), .second, .unset, .unset, .unset, .unset, .unset, .unset] [(.int (2 : Int32)), (.int p6)]))
    refine own_go (fun _ => XS.iadd X0.here hx rfl (hb hby at_105) rfl) ?_
    show own_Go p.tables e below _ (s₁.setTop (mkF m 106 #[.val (.int p1), .val (.long q2), .second, .val (.long q3), .second, .val (.long q4), .second, .val (.long q5), .second, .val (.int p6), .val (.int (0 : Int32)), .val (.int zm), .val (.long y1), .second, .val (.long y2), .second, .val (.long y3), .second, .val (.long y4), .second, .val (.double (FP.i2d p6)), .second, .val (.double (FP.i2d (p6 + (1 : Int32)))), .second, .unset, .unset, .unset, .unset, .unset, .unset] [(.int (p6 + (2 : Int32)))]))
    refine own_go (fun _ => XS.i2dS X0.here hx rfl (hb hby at_106) rfl rfl) ?_
    show own_Go p.tables e below _ (s₁.setTop (mkF m 107 #[.val (.int p1), .val (.long q2), .second, .val (.long q3), .second, .val (.long q4), .second, .val (.long q5), .second, .val (.int p6), .val (.int (0 : Int32)), .val (.int zm), .val (.long y1), .second, .val (.long y2), .second, .val (.long y3), .second, .val (.long y4), .second, .val (.double (FP.i2d p6)), .second, .val (.double (FP.i2d (p6 + (1 : Int32)))), .second, .unset, .unset, .unset, .unset, .unset, .unset] [(.double (FP.i2d (p6 + (2 : Int32))))]))
    refine own_go (fun _ => XS.dstore X0.here hx rfl (hb hby at_107) rfl (l' := #[.val (.int p1), .val (.long q2), .second, .val (.long q3), .second, .val (.long q4), .second, .val (.long q5), .second, .val (.int p6), .val (.int (0 : Int32)), .val (.int zm), .val (.long y1), .second, .val (.long y2), .second, .val (.long y3), .second, .val (.long y4), .second, .val (.double (FP.i2d p6)), .second, .val (.double (FP.i2d (p6 + (1 : Int32)))), .second, .val (.double (FP.i2d (p6 + (2 : Int32)))), .second, .unset, .unset, .unset, .unset]) rfl) ?_
    show own_Go p.tables e below _ (s₁.setTop (mkF m 109 #[.val (.int p1), .val (.long q2), .second, .val (.long q3), .second, .val (.long q4), .second, .val (.long q5), .second, .val (.int p6), .val (.int (0 : Int32)), .val (.int zm), .val (.long y1), .second, .val (.long y2), .second, .val (.long y3), .second, .val (.long y4), .second, .val (.double (FP.i2d p6)), .second, .val (.double (FP.i2d (p6 + (1 : Int32)))), .second, .val (.double (FP.i2d (p6 + (2 : Int32)))), .second, .unset, .unset, .unset, .unset] []))
    obtain ⟨z1, ez1⟩ : ∃ z, z = (FP.i2d p6) := ⟨_, rfl⟩
    have hz1 : cmpValue (FP.dcmp z1 z1) .l = 0 := ez1.symm ▸ own_i2dS _
    rw [← ez1]
    obtain ⟨z2, ez2⟩ : ∃ z, z = (FP.i2d (p6 + (1 : Int32))) := ⟨_, rfl⟩
    have hz2 : cmpValue (FP.dcmp z2 z2) .l = 0 := ez2.symm ▸ own_i2dS _
    rw [← ez2]
    obtain ⟨z3, ez3⟩ : ∃ z, z = (FP.i2d (p6 + (2 : Int32))) := ⟨_, rfl⟩
    have hz3 : cmpValue (FP.dcmp z3 z3) .l = 0 := ez3.symm ▸ own_i2dS _
    rw [← ez3]
    show own_Go p.tables e below _ (s₁.setTop (mkF m 109 #[.val (.int p1), .val (.long q2), .second, .val (.long q3), .second, .val (.long q4), .second, .val (.long q5), .second, .val (.int p6), .val (.int (0 : Int32)), .val (.int zm), .val (.long y1), .second, .val (.long y2), .second, .val (.long y3), .second, .val (.long y4), .second, .val (.double z1), .second, .val (.double z2), .second, .val (.double z3), .second, .unset, .unset, .unset, .unset] []))
    obtain ⟨T7, h7, X7, e7, E7, A7, D7, -, st7⟩ := newO X0 hx hZ hown (hw _ (List.mem_of_getElem? (i := 1) rfl)) (hw _ (List.mem_of_getElem? (i := 2) rfl)) (hw _ (List.mem_of_getElem? (i := 3) rfl)) e0 (g := (mkF m 109 #[.val (.int p1), .val (.long q2), .second, .val (.long q3), .second, .val (.long q4), .second, .val (.long q5), .second, .val (.int p6), .val (.int (0 : Int32)), .val (.int zm), .val (.long y1), .second, .val (.long y2), .second, .val (.long y3), .second, .val (.long y4), .second, .val (.double z1), .second, .val (.double z2), .second, .val (.double z3), .second, .unset, .unset, .unset, .unset] [])) rfl (hb hby at_109) (by decide) (by decide)
    obtain ⟨b7, g7⟩ : ∃ z, z = h0.size := ⟨_, rfl⟩
    rw [← g7] at A7 D7 st7
    refine own_go st7 ?_
    have g_b7 : n0 ≤ b7 := Nat.le_trans Z0 (Nat.le_of_eq g7.symm)
    have sz_b7 : h0.size ≤ b7 := (Nat.le_trans (Keep.refl h0 []).1 (Nat.le_of_eq g7.symm))
    have K7 : Keep h0 h7 [] := (Keep.refl h0 []).ext E7
    have F_most_b7 : Fld Z h7 b7 "com/example/outis/outis/clustering/KeptCharges" "most" "I" (.int (0 : Int32)) := D7 (Or.inr (hw _ (List.mem_of_getElem? (i := 11) rfl))) (ty := .int) (by decide)
    have F_keys_b7 : Fld Z h7 b7 "com/example/outis/outis/clustering/KeptCharges" "keys" "[J" .null := D7 (Or.inl (hw _ (List.mem_of_getElem? (i := 18) rfl))) (ty := (.array .long)) (by decide)
    have F_charges_b7 : Fld Z h7 b7 "com/example/outis/outis/clustering/KeptCharges" "charges" "[D" .null := D7 (Or.inl (hw _ (List.mem_of_getElem? (i := 26) rfl))) (ty := (.array .double)) (by decide)
    have F_bits_b7 : Fld Z h7 b7 "com/example/outis/outis/clustering/KeptCharges" "bits" "I" (.int (0 : Int32)) := D7 (Or.inl (hw _ (List.mem_of_getElem? (i := 33) rfl))) (ty := .int) (by decide)
    have F_size_b7 : Fld Z h7 b7 "com/example/outis/outis/clustering/KeptCharges" "size" "I" (.int (0 : Int32)) := D7 (Or.inl (hw _ (List.mem_of_getElem? (i := 55) rfl))) (ty := .int) (by decide)
    show own_Go p.tables e below _ (T7.setTop (mkF m 112 #[.val (.int p1), .val (.long q2), .second, .val (.long q3), .second, .val (.long q4), .second, .val (.long q5), .second, .val (.int p6), .val (.int (0 : Int32)), .val (.int zm), .val (.long y1), .second, .val (.long y2), .second, .val (.long y3), .second, .val (.long y4), .second, .val (.double z1), .second, .val (.double z2), .second, .val (.double z3), .second, .unset, .unset, .unset, .unset] [(.ref b7)]))
    refine own_go (fun _ => XS.dup X7.here hx rfl (hb hby at_112) rfl rfl) ?_
    show own_Go p.tables e below _ (T7.setTop (mkF m 113 #[.val (.int p1), .val (.long q2), .second, .val (.long q3), .second, .val (.long q4), .second, .val (.long q5), .second, .val (.int p6), .val (.int (0 : Int32)), .val (.int zm), .val (.long y1), .second, .val (.long y2), .second, .val (.long y3), .second, .val (.long y4), .second, .val (.double z1), .second, .val (.double z2), .second, .val (.double z3), .second, .unset, .unset, .unset, .unset] [(.ref b7), (.ref b7)]))
    refine own_go (fun _ => XS.iload X7.here hx rfl (hb hby at_113) rfl) ?_
    show own_Go p.tables e below _ (T7.setTop (mkF m 115 #[.val (.int p1), .val (.long q2), .second, .val (.long q3), .second, .val (.long q4), .second, .val (.long q5), .second, .val (.int p6), .val (.int (0 : Int32)), .val (.int zm), .val (.long y1), .second, .val (.long y2), .second, .val (.long y3), .second, .val (.long y4), .second, .val (.double z1), .second, .val (.double z2), .second, .val (.double z3), .second, .unset, .unset, .unset, .unset] [(.int zm), (.ref b7), (.ref b7)]))
    obtain ⟨v8, T8, L8, X8, hQ8, st8⟩ := own_tidyV X7 (X7.specialBack hx (y := (⟨"com/example/outis/outis/clustering/KeptCharges", "<init>", "(I)V"⟩ : MethodName)) rfl hown (mvT hZ (hw _ (List.mem_of_getElem? (i := 4) rfl))) (mvT hZ (hw _ (List.mem_of_getElem? (i := 5) rfl))) (mvT hZ (hw _ (List.mem_of_getElem? (i := 6) rfl))) (by decide) (backOf (W := 1) (rm1 l Z a0 hw [] b7 zm (.int (0 : Int32)) (.int (0 : Int32)) .null .null (.int (0 : Int32)) h7 n0 (Nat.le_trans Z0 E7.1) F_size_b7 A7 F_most_b7 g_b7 F_keys_b7 F_charges_b7 F_bits_b7) hZ (hw _ (List.mem_of_getElem? (i := 6) rfl)) (hw _ (List.mem_of_getElem? (i := 3) rfl)) (by decide) (by decide)) (g := (mkF m 115 #[.val (.int p1), .val (.long q2), .second, .val (.long q3), .second, .val (.long q4), .second, .val (.long q5), .second, .val (.int p6), .val (.int (0 : Int32)), .val (.int zm), .val (.long y1), .second, .val (.long y2), .second, .val (.long y3), .second, .val (.long y4), .second, .val (.double z1), .second, .val (.double z2), .second, .val (.double z3), .second, .unset, .unset, .unset, .unset] [(.int zm), (.ref b7), (.ref b7)])) rfl (by rw [hml]; rfl) (Steps.refl _) (a := b7) (argsL := [(.int zm)]) (rest := [(.ref b7)]) (lenOf pd_0 rfl) rfl (by show 2 * 0 + _ ≤ _; exact Nat.le_of_eq rfl) (hb hby at_115) (fun _ _ => ⟨rfl, e7, (by decide : 1 + 2 ≤ _), (by decide : 5 + 32 ≤ _)⟩)) (c' := 3) (n' := 37) rfl rfl
    obtain ⟨rfl, N8q, Kc8, e8_0, e8_1, kc8_0, kc8_1, g_e8_0, se_e8_0, g_e8_1, se_e8_1, ne8_0_1, F8_0, F8_1, F8_2, F8_3, F8_4, F8_5, F8_6, F8_7, F8_8⟩ := hQ8
    have N8 := Fr.app N0 N8q
    refine own_via st8 ?_
    have K8 : Keep h0 T8.heap [] := K7.trans Kc8 (allS (Or.inr sz_b7) all0)
    have sz_e8_0 : h0.size ≤ e8_0 := Nat.le_trans K7.1 se_e8_0
    have sz_e8_1 : h0.size ≤ e8_1 := Nat.le_trans K7.1 se_e8_1
    show own_Go p.tables e below _ (T8.setTop (mkF m 118 #[.val (.int p1), .val (.long q2), .second, .val (.long q3), .second, .val (.long q4), .second, .val (.long q5), .second, .val (.int p6), .val (.int (0 : Int32)), .val (.int zm), .val (.long y1), .second, .val (.long y2), .second, .val (.long y3), .second, .val (.long y4), .second, .val (.double z1), .second, .val (.double z2), .second, .val (.double z3), .second, .unset, .unset, .unset, .unset] [(.ref b7)]))
    refine own_go (fun _ => XS.astore X8.here hx rfl (hb hby at_118) rfl rfl (l' := #[.val (.int p1), .val (.long q2), .second, .val (.long q3), .second, .val (.long q4), .second, .val (.long q5), .second, .val (.int p6), .val (.int (0 : Int32)), .val (.int zm), .val (.long y1), .second, .val (.long y2), .second, .val (.long y3), .second, .val (.long y4), .second, .val (.double z1), .second, .val (.double z2), .second, .val (.double z3), .second, .val (.ref b7), .unset, .unset, .unset]) rfl) ?_
    show own_Go p.tables e below _ (T8.setTop (mkF m 120 #[.val (.int p1), .val (.long q2), .second, .val (.long q3), .second, .val (.long q4), .second, .val (.long q5), .second, .val (.int p6), .val (.int (0 : Int32)), .val (.int zm), .val (.long y1), .second, .val (.long y2), .second, .val (.long y3), .second, .val (.long y4), .second, .val (.double z1), .second, .val (.double z2), .second, .val (.double z3), .second, .val (.ref b7), .unset, .unset, .unset] []))
    refine own_go (fun _ => XS.iload X8.here hx rfl (hb hby at_120) rfl) ?_
    show own_Go p.tables e below _ (T8.setTop (mkF m 122 #[.val (.int p1), .val (.long q2), .second, .val (.long q3), .second, .val (.long q4), .second, .val (.long q5), .second, .val (.int p6), .val (.int (0 : Int32)), .val (.int zm), .val (.long y1), .second, .val (.long y2), .second, .val (.long y3), .second, .val (.long y4), .second, .val (.double z1), .second, .val (.double z2), .second, .val (.double z3), .second, .val (.ref b7), .unset, .unset, .unset] [(.int (0 : Int32))]))
    refine own_go (fun _ => XS.iconst X8.here hx rfl (hb hby at_122)) ?_
    show own_Go p.tables e below _ (T8.setTop (mkF m 123 #[.val (.int p1), .val (.long q2), .second, .val (.long q3), .second, .val (.long q4), .second, .val (.long q5), .second, .val (.int p6), .val (.int (0 : Int32)), .val (.int zm), .val (.long y1), .second, .val (.long y2), .second, .val (.long y3), .second, .val (.long y4), .second, .val (.double z1), .second, .val (.double z2), .second, .val (.double z3), .second, .val (.ref b7), .unset, .unset, .unset] [(.int (1 : Int32)), (.int (0 : Int32))]))
    refine own_go (fun _ => XS.icmpYes X8.here hx rfl (pc0 := 123) (pc' := 135) rfl (hb hby at_123) rfl (tlt (by decide : (0 : Int32) < (1 : Int32))).1 (by decide) (by decide)) ?_
    show own_Go p.tables e below _ (T8.setTop (mkF m 135 #[.val (.int p1), .val (.long q2), .second, .val (.long q3), .second, .val (.long q4), .second, .val (.long q5), .second, .val (.int p6), .val (.int (0 : Int32)), .val (.int zm), .val (.long y1), .second, .val (.long y2), .second, .val (.long y3), .second, .val (.long y4), .second, .val (.double z1), .second, .val (.double z2), .second, .val (.double z3), .second, .val (.ref b7), .unset, .unset, .unset] []))
    refine own_go (fun _ => XS.iload X8.here hx rfl (hb hby at_135) rfl) ?_
    show own_Go p.tables e below _ (T8.setTop (mkF m 137 #[.val (.int p1), .val (.long q2), .second, .val (.long q3), .second, .val (.long q4), .second, .val (.long q5), .second, .val (.int p6), .val (.int (0 : Int32)), .val (.int zm), .val (.long y1), .second, .val (.long y2), .second, .val (.long y3), .second, .val (.long y4), .second, .val (.double z1), .second, .val (.double z2), .second, .val (.double z3), .second, .val (.ref b7), .unset, .unset, .unset] [(.int (0 : Int32))]))
    refine own_go (fun _ => XS.iconst X8.here hx rfl (hb hby at_137)) ?_
    show own_Go p.tables e below _ (T8.setTop (mkF m 138 #[.val (.int p1), .val (.long q2), .second, .val (.long q3), .second, .val (.long q4), .second, .val (.long q5), .second, .val (.int p6), .val (.int (0 : Int32)), .val (.int zm), .val (.long y1), .second, .val (.long y2), .second, .val (.long y3), .second, .val (.long y4), .second, .val (.double z1), .second, .val (.double z2), .second, .val (.double z3), .second, .val (.ref b7), .unset, .unset, .unset] [(.int (2 : Int32)), (.int (0 : Int32))]))
    refine own_go (fun _ => XS.icmpYes X8.here hx rfl (pc0 := 138) (pc' := 150) rfl (hb hby at_138) rfl (tlt (by decide : (0 : Int32) < (2 : Int32))).1 (by decide) (by decide)) ?_
    show own_Go p.tables e below _ (T8.setTop (mkF m 150 #[.val (.int p1), .val (.long q2), .second, .val (.long q3), .second, .val (.long q4), .second, .val (.long q5), .second, .val (.int p6), .val (.int (0 : Int32)), .val (.int zm), .val (.long y1), .second, .val (.long y2), .second, .val (.long y3), .second, .val (.long y4), .second, .val (.double z1), .second, .val (.double z2), .second, .val (.double z3), .second, .val (.ref b7), .unset, .unset, .unset] []))
    refine own_go (fun _ => XS.iload X8.here hx rfl (hb hby at_150) rfl) ?_
    show own_Go p.tables e below _ (T8.setTop (mkF m 152 #[.val (.int p1), .val (.long q2), .second, .val (.long q3), .second, .val (.long q4), .second, .val (.long q5), .second, .val (.int p6), .val (.int (0 : Int32)), .val (.int zm), .val (.long y1), .second, .val (.long y2), .second, .val (.long y3), .second, .val (.long y4), .second, .val (.double z1), .second, .val (.double z2), .second, .val (.double z3), .second, .val (.ref b7), .unset, .unset, .unset] [(.int (0 : Int32))]))
    refine own_go (fun _ => XS.iconst X8.here hx rfl (hb hby at_152)) ?_
    show own_Go p.tables e below _ (T8.setTop (mkF m 153 #[.val (.int p1), .val (.long q2), .second, .val (.long q3), .second, .val (.long q4), .second, .val (.long q5), .second, .val (.int p6), .val (.int (0 : Int32)), .val (.int zm), .val (.long y1), .second, .val (.long y2), .second, .val (.long y3), .second, .val (.long y4), .second, .val (.double z1), .second, .val (.double z2), .second, .val (.double z3), .second, .val (.ref b7), .unset, .unset, .unset] [(.int (3 : Int32)), (.int (0 : Int32))]))
    refine own_go (fun _ => XS.icmpYes X8.here hx rfl (pc0 := 153) (pc' := 165) rfl (hb hby at_153) rfl (tlt (by decide : (0 : Int32) < (3 : Int32))).1 (by decide) (by decide)) ?_
    show own_Go p.tables e below _ (T8.setTop (mkF m 165 #[.val (.int p1), .val (.long q2), .second, .val (.long q3), .second, .val (.long q4), .second, .val (.long q5), .second, .val (.int p6), .val (.int (0 : Int32)), .val (.int zm), .val (.long y1), .second, .val (.long y2), .second, .val (.long y3), .second, .val (.long y4), .second, .val (.double z1), .second, .val (.double z2), .second, .val (.double z3), .second, .val (.ref b7), .unset, .unset, .unset] []))
    refine own_go (fun _ => XS.iload X8.here hx rfl (hb hby at_165) rfl) ?_
    show own_Go p.tables e below _ (T8.setTop (mkF m 167 #[.val (.int p1), .val (.long q2), .second, .val (.long q3), .second, .val (.long q4), .second, .val (.long q5), .second, .val (.int p6), .val (.int (0 : Int32)), .val (.int zm), .val (.long y1), .second, .val (.long y2), .second, .val (.long y3), .second, .val (.long y4), .second, .val (.double z1), .second, .val (.double z2), .second, .val (.double z3), .second, .val (.ref b7), .unset, .unset, .unset] [(.int (0 : Int32))]))
    refine own_go (fun _ => XS.iconst X8.here hx rfl (hb hby at_167)) ?_
    refine own_go (S' := T8.setTop (mkF m 200 #[.val (.int p1), .val (.long q2), .second, .val (.long q3), .second, .val (.long q4), .second, .val (.long q5), .second, .val (.int p6), .val (.int (0 : Int32)), .val (.int zm), .val (.long y1), .second, .val (.long y2), .second, .val (.long y3), .second, .val (.long y4), .second, .val (.double z1), .second, .val (.double z2), .second, .val (.double z3), .second, .val (.ref b7), .unset, .unset, .unset] [(.int (0 : Int32))])) (fun t kt => ?_) ?_
    · skip
      show Steps p.tables e below (T8.setTop (mkF m 168 #[.val (.int p1), .val (.long q2), .second, .val (.long q3), .second, .val (.long q4), .second, .val (.long q5), .second, .val (.int p6), .val (.int (0 : Int32)), .val (.int zm), .val (.long y1), .second, .val (.long y2), .second, .val (.long y3), .second, .val (.long y4), .second, .val (.double z1), .second, .val (.double z2), .second, .val (.double z3), .second, .val (.ref b7), .unset, .unset, .unset] [(.int (1 : Int32)), (.int (0 : Int32))])) _
      refine XS.icmpNo X8.here hx rfl (hb hby at_168) rfl (feq (by decide : ¬ ((0 : Int32) = (1 : Int32)))).1 ?_
      show Steps p.tables e below (T8.setTop (mkF m 171 #[.val (.int p1), .val (.long q2), .second, .val (.long q3), .second, .val (.long q4), .second, .val (.long q5), .second, .val (.int p6), .val (.int (0 : Int32)), .val (.int zm), .val (.long y1), .second, .val (.long y2), .second, .val (.long y3), .second, .val (.long y4), .second, .val (.double z1), .second, .val (.double z2), .second, .val (.double z3), .second, .val (.ref b7), .unset, .unset, .unset] [])) _
      refine XS.iload X8.here hx rfl (hb hby at_171) rfl ?_
      show Steps p.tables e below (T8.setTop (mkF m 173 #[.val (.int p1), .val (.long q2), .second, .val (.long q3), .second, .val (.long q4), .second, .val (.long q5), .second, .val (.int p6), .val (.int (0 : Int32)), .val (.int zm), .val (.long y1), .second, .val (.long y2), .second, .val (.long y3), .second, .val (.long y4), .second, .val (.double z1), .second, .val (.double z2), .second, .val (.double z3), .second, .val (.ref b7), .unset, .unset, .unset] [(.int (0 : Int32))])) _
      refine XS.iconst X8.here hx rfl (hb hby at_173) ?_
      show Steps p.tables e below (T8.setTop (mkF m 174 #[.val (.int p1), .val (.long q2), .second, .val (.long q3), .second, .val (.long q4), .second, .val (.long q5), .second, .val (.int p6), .val (.int (0 : Int32)), .val (.int zm), .val (.long y1), .second, .val (.long y2), .second, .val (.long y3), .second, .val (.long y4), .second, .val (.double z1), .second, .val (.double z2), .second, .val (.double z3), .second, .val (.ref b7), .unset, .unset, .unset] [(.int (2 : Int32)), (.int (0 : Int32))])) _
      refine XS.icmpYes X8.here hx rfl (pc0 := 174) (pc' := 183) rfl (hb hby at_174) rfl (feq (by decide : ¬ ((0 : Int32) = (2 : Int32)))).2 (by decide) (by decide) ?_
      show Steps p.tables e below (T8.setTop (mkF m 183 #[.val (.int p1), .val (.long q2), .second, .val (.long q3), .second, .val (.long q4), .second, .val (.long q5), .second, .val (.int p6), .val (.int (0 : Int32)), .val (.int zm), .val (.long y1), .second, .val (.long y2), .second, .val (.long y3), .second, .val (.long y4), .second, .val (.double z1), .second, .val (.double z2), .second, .val (.double z3), .second, .val (.ref b7), .unset, .unset, .unset] [])) _
      refine XS.iload X8.here hx rfl (hb hby at_183) rfl ?_
      show Steps p.tables e below (T8.setTop (mkF m 185 #[.val (.int p1), .val (.long q2), .second, .val (.long q3), .second, .val (.long q4), .second, .val (.long q5), .second, .val (.int p6), .val (.int (0 : Int32)), .val (.int zm), .val (.long y1), .second, .val (.long y2), .second, .val (.long y3), .second, .val (.long y4), .second, .val (.double z1), .second, .val (.double z2), .second, .val (.double z3), .second, .val (.ref b7), .unset, .unset, .unset] [(.int (0 : Int32))])) _
      refine XS.iconst X8.here hx rfl (hb hby at_185) ?_
      show Steps p.tables e below (T8.setTop (mkF m 186 #[.val (.int p1), .val (.long q2), .second, .val (.long q3), .second, .val (.long q4), .second, .val (.long q5), .second, .val (.int p6), .val (.int (0 : Int32)), .val (.int zm), .val (.long y1), .second, .val (.long y2), .second, .val (.long y3), .second, .val (.long y4), .second, .val (.double z1), .second, .val (.double z2), .second, .val (.double z3), .second, .val (.ref b7), .unset, .unset, .unset] [(.int (3 : Int32)), (.int (0 : Int32))])) _
      refine XS.icmpYes X8.here hx rfl (pc0 := 186) (pc' := 199) rfl (hb hby at_186) rfl (feq (by decide : ¬ ((0 : Int32) = (3 : Int32)))).2 (by decide) (by decide) ?_
      show Steps p.tables e below (T8.setTop (mkF m 199 #[.val (.int p1), .val (.long q2), .second, .val (.long q3), .second, .val (.long q4), .second, .val (.long q5), .second, .val (.int p6), .val (.int (0 : Int32)), .val (.int zm), .val (.long y1), .second, .val (.long y2), .second, .val (.long y3), .second, .val (.long y4), .second, .val (.double z1), .second, .val (.double z2), .second, .val (.double z3), .second, .val (.ref b7), .unset, .unset, .unset] [])) _
      refine XS.iconst X8.here hx rfl (hb hby at_199) ?_
      show Steps p.tables e below (T8.setTop (mkF m 200 #[.val (.int p1), .val (.long q2), .second, .val (.long q3), .second, .val (.long q4), .second, .val (.long q5), .second, .val (.int p6), .val (.int (0 : Int32)), .val (.int zm), .val (.long y1), .second, .val (.long y2), .second, .val (.long y3), .second, .val (.long y4), .second, .val (.double z1), .second, .val (.double z2), .second, .val (.double z3), .second, .val (.ref b7), .unset, .unset, .unset] [(.int (0 : Int32))])) _
      exact kt
    show own_Go p.tables e below _ (T8.setTop (mkF m 200 #[.val (.int p1), .val (.long q2), .second, .val (.long q3), .second, .val (.long q4), .second, .val (.long q5), .second, .val (.int p6), .val (.int (0 : Int32)), .val (.int zm), .val (.long y1), .second, .val (.long y2), .second, .val (.long y3), .second, .val (.long y4), .second, .val (.double z1), .second, .val (.double z2), .second, .val (.double z3), .second, .val (.ref b7), .unset, .unset, .unset] [(.int (0 : Int32))]))
    refine own_go (fun _ => XS.istore X8.here hx rfl (hb hby at_200) rfl (l' := #[.val (.int p1), .val (.long q2), .second, .val (.long q3), .second, .val (.long q4), .second, .val (.long q5), .second, .val (.int p6), .val (.int (0 : Int32)), .val (.int zm), .val (.long y1), .second, .val (.long y2), .second, .val (.long y3), .second, .val (.long y4), .second, .val (.double z1), .second, .val (.double z2), .second, .val (.double z3), .second, .val (.ref b7), .val (.int (0 : Int32)), .unset, .unset]) rfl) ?_
    show own_Go p.tables e below _ (T8.setTop (mkF m 202 #[.val (.int p1), .val (.long q2), .second, .val (.long q3), .second, .val (.long q4), .second, .val (.long q5), .second, .val (.int p6), .val (.int (0 : Int32)), .val (.int zm), .val (.long y1), .second, .val (.long y2), .second, .val (.long y3), .second, .val (.long y4), .second, .val (.double z1), .second, .val (.double z2), .second, .val (.double z3), .second, .val (.ref b7), .val (.int (0 : Int32)), .unset, .unset] []))
    refine own_go (fun _ => XS.iload X8.here hx rfl (hb hby at_202) rfl) ?_
    show own_Go p.tables e below _ (T8.setTop (mkF m 204 #[.val (.int p1), .val (.long q2), .second, .val (.long q3), .second, .val (.long q4), .second, .val (.long q5), .second, .val (.int p6), .val (.int (0 : Int32)), .val (.int zm), .val (.long y1), .second, .val (.long y2), .second, .val (.long y3), .second, .val (.long y4), .second, .val (.double z1), .second, .val (.double z2), .second, .val (.double z3), .second, .val (.ref b7), .val (.int (0 : Int32)), .unset, .unset] [(.int (0 : Int32))]))
    refine own_go (fun _ => XS.iconst X8.here hx rfl (hb hby at_204)) ?_
    refine own_go (S' := T8.setTop (mkF m 225 #[.val (.int p1), .val (.long q2), .second, .val (.long q3), .second, .val (.long q4), .second, .val (.long q5), .second, .val (.int p6), .val (.int (0 : Int32)), .val (.int zm), .val (.long y1), .second, .val (.long y2), .second, .val (.long y3), .second, .val (.long y4), .second, .val (.double z1), .second, .val (.double z2), .second, .val (.double z3), .second, .val (.ref b7), .val (.int (0 : Int32)), .unset, .unset] [(.int (0 : Int32))])) (fun t kt => ?_) ?_
    · skip
      show Steps p.tables e below (T8.setTop (mkF m 205 #[.val (.int p1), .val (.long q2), .second, .val (.long q3), .second, .val (.long q4), .second, .val (.long q5), .second, .val (.int p6), .val (.int (0 : Int32)), .val (.int zm), .val (.long y1), .second, .val (.long y2), .second, .val (.long y3), .second, .val (.long y4), .second, .val (.double z1), .second, .val (.double z2), .second, .val (.double z3), .second, .val (.ref b7), .val (.int (0 : Int32)), .unset, .unset] [(.int (2 : Int32)), (.int (0 : Int32))])) _
      refine XS.icmpNo X8.here hx rfl (hb hby at_205) rfl (feq (by decide : ¬ ((0 : Int32) = (2 : Int32)))).1 ?_
      show Steps p.tables e below (T8.setTop (mkF m 208 #[.val (.int p1), .val (.long q2), .second, .val (.long q3), .second, .val (.long q4), .second, .val (.long q5), .second, .val (.int p6), .val (.int (0 : Int32)), .val (.int zm), .val (.long y1), .second, .val (.long y2), .second, .val (.long y3), .second, .val (.long y4), .second, .val (.double z1), .second, .val (.double z2), .second, .val (.double z3), .second, .val (.ref b7), .val (.int (0 : Int32)), .unset, .unset] [])) _
      refine XS.iload X8.here hx rfl (hb hby at_208) rfl ?_
      show Steps p.tables e below (T8.setTop (mkF m 210 #[.val (.int p1), .val (.long q2), .second, .val (.long q3), .second, .val (.long q4), .second, .val (.long q5), .second, .val (.int p6), .val (.int (0 : Int32)), .val (.int zm), .val (.long y1), .second, .val (.long y2), .second, .val (.long y3), .second, .val (.long y4), .second, .val (.double z1), .second, .val (.double z2), .second, .val (.double z3), .second, .val (.ref b7), .val (.int (0 : Int32)), .unset, .unset] [(.int (0 : Int32))])) _
      refine XS.iconst X8.here hx rfl (hb hby at_210) ?_
      show Steps p.tables e below (T8.setTop (mkF m 211 #[.val (.int p1), .val (.long q2), .second, .val (.long q3), .second, .val (.long q4), .second, .val (.long q5), .second, .val (.int p6), .val (.int (0 : Int32)), .val (.int zm), .val (.long y1), .second, .val (.long y2), .second, .val (.long y3), .second, .val (.long y4), .second, .val (.double z1), .second, .val (.double z2), .second, .val (.double z3), .second, .val (.ref b7), .val (.int (0 : Int32)), .unset, .unset] [(.int (3 : Int32)), (.int (0 : Int32))])) _
      refine XS.icmpYes X8.here hx rfl (pc0 := 211) (pc' := 224) rfl (hb hby at_211) rfl (feq (by decide : ¬ ((0 : Int32) = (3 : Int32)))).2 (by decide) (by decide) ?_
      show Steps p.tables e below (T8.setTop (mkF m 224 #[.val (.int p1), .val (.long q2), .second, .val (.long q3), .second, .val (.long q4), .second, .val (.long q5), .second, .val (.int p6), .val (.int (0 : Int32)), .val (.int zm), .val (.long y1), .second, .val (.long y2), .second, .val (.long y3), .second, .val (.long y4), .second, .val (.double z1), .second, .val (.double z2), .second, .val (.double z3), .second, .val (.ref b7), .val (.int (0 : Int32)), .unset, .unset] [])) _
      refine XS.iconst X8.here hx rfl (hb hby at_224) ?_
      show Steps p.tables e below (T8.setTop (mkF m 225 #[.val (.int p1), .val (.long q2), .second, .val (.long q3), .second, .val (.long q4), .second, .val (.long q5), .second, .val (.int p6), .val (.int (0 : Int32)), .val (.int zm), .val (.long y1), .second, .val (.long y2), .second, .val (.long y3), .second, .val (.long y4), .second, .val (.double z1), .second, .val (.double z2), .second, .val (.double z3), .second, .val (.ref b7), .val (.int (0 : Int32)), .unset, .unset] [(.int (0 : Int32))])) _
      exact kt
    show own_Go p.tables e below _ (T8.setTop (mkF m 225 #[.val (.int p1), .val (.long q2), .second, .val (.long q3), .second, .val (.long q4), .second, .val (.long q5), .second, .val (.int p6), .val (.int (0 : Int32)), .val (.int zm), .val (.long y1), .second, .val (.long y2), .second, .val (.long y3), .second, .val (.long y4), .second, .val (.double z1), .second, .val (.double z2), .second, .val (.double z3), .second, .val (.ref b7), .val (.int (0 : Int32)), .unset, .unset] [(.int (0 : Int32))]))
    refine own_go (fun _ => XS.istore X8.here hx rfl (hb hby at_225) rfl (l' := #[.val (.int p1), .val (.long q2), .second, .val (.long q3), .second, .val (.long q4), .second, .val (.long q5), .second, .val (.int p6), .val (.int (0 : Int32)), .val (.int zm), .val (.long y1), .second, .val (.long y2), .second, .val (.long y3), .second, .val (.long y4), .second, .val (.double z1), .second, .val (.double z2), .second, .val (.double z3), .second, .val (.ref b7), .val (.int (0 : Int32)), .val (.int (0 : Int32)), .unset]) rfl) ?_
    show own_Go p.tables e below _ (T8.setTop (mkF m 227 #[.val (.int p1), .val (.long q2), .second, .val (.long q3), .second, .val (.long q4), .second, .val (.long q5), .second, .val (.int p6), .val (.int (0 : Int32)), .val (.int zm), .val (.long y1), .second, .val (.long y2), .second, .val (.long y3), .second, .val (.long y4), .second, .val (.double z1), .second, .val (.double z2), .second, .val (.double z3), .second, .val (.ref b7), .val (.int (0 : Int32)), .val (.int (0 : Int32)), .unset] []))
    refine own_go (fun _ => XS.iload X8.here hx rfl (hb hby at_227) rfl) ?_
    show own_Go p.tables e below _ (T8.setTop (mkF m 229 #[.val (.int p1), .val (.long q2), .second, .val (.long q3), .second, .val (.long q4), .second, .val (.long q5), .second, .val (.int p6), .val (.int (0 : Int32)), .val (.int zm), .val (.long y1), .second, .val (.long y2), .second, .val (.long y3), .second, .val (.long y4), .second, .val (.double z1), .second, .val (.double z2), .second, .val (.double z3), .second, .val (.ref b7), .val (.int (0 : Int32)), .val (.int (0 : Int32)), .unset] [(.int (0 : Int32))]))
    refine own_go (fun _ => XS.iconst X8.here hx rfl (hb hby at_229)) ?_
    refine own_go (S' := T8.setTop (mkF m 238 #[.val (.int p1), .val (.long q2), .second, .val (.long q3), .second, .val (.long q4), .second, .val (.long q5), .second, .val (.int p6), .val (.int (0 : Int32)), .val (.int zm), .val (.long y1), .second, .val (.long y2), .second, .val (.long y3), .second, .val (.long y4), .second, .val (.double z1), .second, .val (.double z2), .second, .val (.double z3), .second, .val (.ref b7), .val (.int (0 : Int32)), .val (.int (0 : Int32)), .unset] [(.int (0 : Int32))])) (fun t kt => ?_) ?_
    · skip
      show Steps p.tables e below (T8.setTop (mkF m 230 #[.val (.int p1), .val (.long q2), .second, .val (.long q3), .second, .val (.long q4), .second, .val (.long q5), .second, .val (.int p6), .val (.int (0 : Int32)), .val (.int zm), .val (.long y1), .second, .val (.long y2), .second, .val (.long y3), .second, .val (.long y4), .second, .val (.double z1), .second, .val (.double z2), .second, .val (.double z3), .second, .val (.ref b7), .val (.int (0 : Int32)), .val (.int (0 : Int32)), .unset] [(.int (3 : Int32)), (.int (0 : Int32))])) _
      refine XS.icmpYes X8.here hx rfl (pc0 := 230) (pc' := 237) rfl (hb hby at_230) rfl (feq (by decide : ¬ ((0 : Int32) = (3 : Int32)))).2 (by decide) (by decide) ?_
      show Steps p.tables e below (T8.setTop (mkF m 237 #[.val (.int p1), .val (.long q2), .second, .val (.long q3), .second, .val (.long q4), .second, .val (.long q5), .second, .val (.int p6), .val (.int (0 : Int32)), .val (.int zm), .val (.long y1), .second, .val (.long y2), .second, .val (.long y3), .second, .val (.long y4), .second, .val (.double z1), .second, .val (.double z2), .second, .val (.double z3), .second, .val (.ref b7), .val (.int (0 : Int32)), .val (.int (0 : Int32)), .unset] [])) _
      refine XS.iconst X8.here hx rfl (hb hby at_237) ?_
      show Steps p.tables e below (T8.setTop (mkF m 238 #[.val (.int p1), .val (.long q2), .second, .val (.long q3), .second, .val (.long q4), .second, .val (.long q5), .second, .val (.int p6), .val (.int (0 : Int32)), .val (.int zm), .val (.long y1), .second, .val (.long y2), .second, .val (.long y3), .second, .val (.long y4), .second, .val (.double z1), .second, .val (.double z2), .second, .val (.double z3), .second, .val (.ref b7), .val (.int (0 : Int32)), .val (.int (0 : Int32)), .unset] [(.int (0 : Int32))])) _
      exact kt
    show own_Go p.tables e below _ (T8.setTop (mkF m 238 #[.val (.int p1), .val (.long q2), .second, .val (.long q3), .second, .val (.long q4), .second, .val (.long q5), .second, .val (.int p6), .val (.int (0 : Int32)), .val (.int zm), .val (.long y1), .second, .val (.long y2), .second, .val (.long y3), .second, .val (.long y4), .second, .val (.double z1), .second, .val (.double z2), .second, .val (.double z3), .second, .val (.ref b7), .val (.int (0 : Int32)), .val (.int (0 : Int32)), .unset] [(.int (0 : Int32))]))
    refine own_go (fun _ => XS.istore X8.here hx rfl (hb hby at_238) rfl (l' := #[.val (.int p1), .val (.long q2), .second, .val (.long q3), .second, .val (.long q4), .second, .val (.long q5), .second, .val (.int p6), .val (.int (0 : Int32)), .val (.int zm), .val (.long y1), .second, .val (.long y2), .second, .val (.long y3), .second, .val (.long y4), .second, .val (.double z1), .second, .val (.double z2), .second, .val (.double z3), .second, .val (.ref b7), .val (.int (0 : Int32)), .val (.int (0 : Int32)), .val (.int (0 : Int32))]) rfl) ?_
    show own_Go p.tables e below _ (T8.setTop (mkF m 240 #[.val (.int p1), .val (.long q2), .second, .val (.long q3), .second, .val (.long q4), .second, .val (.long q5), .second, .val (.int p6), .val (.int (0 : Int32)), .val (.int zm), .val (.long y1), .second, .val (.long y2), .second, .val (.long y3), .second, .val (.long y4), .second, .val (.double z1), .second, .val (.double z2), .second, .val (.double z3), .second, .val (.ref b7), .val (.int (0 : Int32)), .val (.int (0 : Int32)), .val (.int (0 : Int32))] []))
    refine own_go (fun _ => XS.aload X8.here hx rfl (hb hby at_240) rfl rfl) ?_
    show own_Go p.tables e below _ (T8.setTop (mkF m 242 #[.val (.int p1), .val (.long q2), .second, .val (.long q3), .second, .val (.long q4), .second, .val (.long q5), .second, .val (.int p6), .val (.int (0 : Int32)), .val (.int zm), .val (.long y1), .second, .val (.long y2), .second, .val (.long y3), .second, .val (.long y4), .second, .val (.double z1), .second, .val (.double z2), .second, .val (.double z3), .second, .val (.ref b7), .val (.int (0 : Int32)), .val (.int (0 : Int32)), .val (.int (0 : Int32))] [(.ref b7)]))
    refine own_go (fun _ => XS.lload X8.here hx rfl (hb hby at_242) rfl) ?_
    show own_Go p.tables e below _ (T8.setTop (mkF m 244 #[.val (.int p1), .val (.long q2), .second, .val (.long q3), .second, .val (.long q4), .second, .val (.long q5), .second, .val (.int p6), .val (.int (0 : Int32)), .val (.int zm), .val (.long y1), .second, .val (.long y2), .second, .val (.long y3), .second, .val (.long y4), .second, .val (.double z1), .second, .val (.double z2), .second, .val (.double z3), .second, .val (.ref b7), .val (.int (0 : Int32)), .val (.int (0 : Int32)), .val (.int (0 : Int32))] [(.long y1), (.ref b7)]))
    obtain ⟨cq9, kq9, q9a, q9b, q9c⟩ := isOf hZ rfl F8_0
    obtain ⟨v9, T9, L9, X9, hQ9, st9⟩ := own_tidyV X8 (X8.virtualBack hx (y := (⟨"com/example/outis/outis/clustering/KeptCharges", "get", "(J)D"⟩ : MethodName)) (z := (⟨"com/example/outis/outis/clustering/KeptCharges", "get", "(J)D"⟩ : MethodName)) hown (mvT hZ (hw _ (List.mem_of_getElem? (i := 34) rfl))) (mvT hZ (hw _ (List.mem_of_getElem? (i := 35) rfl))) (notFace_of_selects (args := #[]) (mvT hZ (hw _ (List.mem_of_getElem? (i := 37) rfl)))) (mvT hZ (hw _ (List.mem_of_getElem? (i := 37) rfl))) (mvT hZ (hw _ (List.mem_of_getElem? (i := 36) rfl))) (by decide) (backOf (W := 0) (rm6 l Z a0 hw [] b7 y1 e8_0 e8_1 (fun _ => (-1 : Int64)) (fun _ => 0) kc8_0 kc8_1 T8.heap n0 (Nat.le_trans (Nat.le_trans Z0 E7.1) Kc8.1) F8_4 F8_2 F8_3 F8_0 F8_7 F8_8 (own_finN _)) hZ (hw _ (List.mem_of_getElem? (i := 38) rfl)) (hw _ (List.mem_of_getElem? (i := 3) rfl)) (by decide) (by decide)) q9a q9c (g := (mkF m 244 #[.val (.int p1), .val (.long q2), .second, .val (.long q3), .second, .val (.long q4), .second, .val (.long q5), .second, .val (.int p6), .val (.int (0 : Int32)), .val (.int zm), .val (.long y1), .second, .val (.long y2), .second, .val (.long y3), .second, .val (.long y4), .second, .val (.double z1), .second, .val (.double z2), .second, .val (.double z3), .second, .val (.ref b7), .val (.int (0 : Int32)), .val (.int (0 : Int32)), .val (.int (0 : Int32))] [(.long y1), (.ref b7)])) rfl (by rw [hml]; rfl) (Steps.refl _) (argsL := [(.long y1)]) (rest := []) (lenOf pd_4 rfl) rfl (by show 2 * 0 + _ ≤ _; exact Nat.le_of_eq rfl) (hb hby at_244) (fun _ _ => ⟨rfl, rfl, (by decide : 3 + 0 ≤ _), (by decide : 37 + 0 ≤ _)⟩)) (c' := 3) (n' := 37) rfl rfl
    obtain ⟨rfl, N9q, e9⟩ := hQ9
    have N9 := Fr.app N8 N9q
    refine own_via st9 ?_
    show own_Go p.tables e below _ (T9.setTop (mkF m 247 #[.val (.int p1), .val (.long q2), .second, .val (.long q3), .second, .val (.long q4), .second, .val (.long q5), .second, .val (.int p6), .val (.int (0 : Int32)), .val (.int zm), .val (.long y1), .second, .val (.long y2), .second, .val (.long y3), .second, .val (.long y4), .second, .val (.double z1), .second, .val (.double z2), .second, .val (.double z3), .second, .val (.ref b7), .val (.int (0 : Int32)), .val (.int (0 : Int32)), .val (.int (0 : Int32))] [(.double (own_f6 y1 (fun _ => (-1 : Int64)) (fun _ => 0)))]))
    refine own_go (fun _ => XS.lload X9.here hx rfl (hb hby at_247) rfl) ?_
    show own_Go p.tables e below _ (T9.setTop (mkF m 249 #[.val (.int p1), .val (.long q2), .second, .val (.long q3), .second, .val (.long q4), .second, .val (.long q5), .second, .val (.int p6), .val (.int (0 : Int32)), .val (.int zm), .val (.long y1), .second, .val (.long y2), .second, .val (.long y3), .second, .val (.long y4), .second, .val (.double z1), .second, .val (.double z2), .second, .val (.double z3), .second, .val (.ref b7), .val (.int (0 : Int32)), .val (.int (0 : Int32)), .val (.int (0 : Int32))] [(.long y1), (.double (own_f6 y1 (fun _ => (-1 : Int64)) (fun _ => 0)))]))
    refine own_go (fun _ => XS.iload X9.here hx rfl (hb hby at_249) rfl) ?_
    show own_Go p.tables e below _ (T9.setTop (mkF m 251 #[.val (.int p1), .val (.long q2), .second, .val (.long q3), .second, .val (.long q4), .second, .val (.long q5), .second, .val (.int p6), .val (.int (0 : Int32)), .val (.int zm), .val (.long y1), .second, .val (.long y2), .second, .val (.long y3), .second, .val (.long y4), .second, .val (.double z1), .second, .val (.double z2), .second, .val (.double z3), .second, .val (.ref b7), .val (.int (0 : Int32)), .val (.int (0 : Int32)), .val (.int (0 : Int32))] [(.int (0 : Int32)), (.long y1), (.double (own_f6 y1 (fun _ => (-1 : Int64)) (fun _ => 0)))]))
    refine own_go (fun _ => XS.lload X9.here hx rfl (hb hby at_251) rfl) ?_
    show own_Go p.tables e below _ (T9.setTop (mkF m 253 #[.val (.int p1), .val (.long q2), .second, .val (.long q3), .second, .val (.long q4), .second, .val (.long q5), .second, .val (.int p6), .val (.int (0 : Int32)), .val (.int zm), .val (.long y1), .second, .val (.long y2), .second, .val (.long y3), .second, .val (.long y4), .second, .val (.double z1), .second, .val (.double z2), .second, .val (.double z3), .second, .val (.ref b7), .val (.int (0 : Int32)), .val (.int (0 : Int32)), .val (.int (0 : Int32))] [(.long y1), (.int (0 : Int32)), (.long y1), (.double (own_f6 y1 (fun _ => (-1 : Int64)) (fun _ => 0)))]))
    refine own_go (fun _ => XS.dload X9.here hx rfl (hb hby at_253) rfl) ?_
    show own_Go p.tables e below _ (T9.setTop (mkF m 255 #[.val (.int p1), .val (.long q2), .second, .val (.long q3), .second, .val (.long q4), .second, .val (.long q5), .second, .val (.int p6), .val (.int (0 : Int32)), .val (.int zm), .val (.long y1), .second, .val (.long y2), .second, .val (.long y3), .second, .val (.long y4), .second, .val (.double z1), .second, .val (.double z2), .second, .val (.double z3), .second, .val (.ref b7), .val (.int (0 : Int32)), .val (.int (0 : Int32)), .val (.int (0 : Int32))] [(.double z1), (.long y1), (.int (0 : Int32)), (.long y1), (.double (own_f6 y1 (fun _ => (-1 : Int64)) (fun _ => 0)))]))
    refine own_go (fun _ => XS.iload X9.here hx rfl (hb hby at_255) rfl) ?_
    show own_Go p.tables e below _ (T9.setTop (mkF m 257 #[.val (.int p1), .val (.long q2), .second, .val (.long q3), .second, .val (.long q4), .second, .val (.long q5), .second, .val (.int p6), .val (.int (0 : Int32)), .val (.int zm), .val (.long y1), .second, .val (.long y2), .second, .val (.long y3), .second, .val (.long y4), .second, .val (.double z1), .second, .val (.double z2), .second, .val (.double z3), .second, .val (.ref b7), .val (.int (0 : Int32)), .val (.int (0 : Int32)), .val (.int (0 : Int32))] [(.int (0 : Int32)), (.double z1), (.long y1), (.int (0 : Int32)), (.long y1), (.double (own_f6 y1 (fun _ => (-1 : Int64)) (fun _ => 0)))]))
    refine own_go (fun _ => XS.lload X9.here hx rfl (hb hby at_257) rfl) ?_
    show own_Go p.tables e below _ (T9.setTop (mkF m 259 #[.val (.int p1), .val (.long q2), .second, .val (.long q3), .second, .val (.long q4), .second, .val (.long q5), .second, .val (.int p6), .val (.int (0 : Int32)), .val (.int zm), .val (.long y1), .second, .val (.long y2), .second, .val (.long y3), .second, .val (.long y4), .second, .val (.double z1), .second, .val (.double z2), .second, .val (.double z3), .second, .val (.ref b7), .val (.int (0 : Int32)), .val (.int (0 : Int32)), .val (.int (0 : Int32))] [(.long y2), (.int (0 : Int32)), (.double z1), (.long y1), (.int (0 : Int32)), (.long y1), (.double (own_f6 y1 (fun _ => (-1 : Int64)) (fun _ => 0)))]))
    refine own_go (fun _ => XS.dload X9.here hx rfl (hb hby at_259) rfl) ?_
    show own_Go p.tables e below _ (T9.setTop (mkF m 261 #[.val (.int p1), .val (.long q2), .second, .val (.long q3), .second, .val (.long q4), .second, .val (.long q5), .second, .val (.int p6), .val (.int (0 : Int32)), .val (.int zm), .val (.long y1), .second, .val (.long y2), .second, .val (.long y3), .second, .val (.long y4), .second, .val (.double z1), .second, .val (.double z2), .second, .val (.double z3), .second, .val (.ref b7), .val (.int (0 : Int32)), .val (.int (0 : Int32)), .val (.int (0 : Int32))] [(.double z2), (.long y2), (.int (0 : Int32)), (.double z1), (.long y1), (.int (0 : Int32)), (.long y1), (.double (own_f6 y1 (fun _ => (-1 : Int64)) (fun _ => 0)))]))
    refine own_go (fun _ => XS.iload X9.here hx rfl (hb hby at_261) rfl) ?_
    show own_Go p.tables e below _ (T9.setTop (mkF m 263 #[.val (.int p1), .val (.long q2), .second, .val (.long q3), .second, .val (.long q4), .second, .val (.long q5), .second, .val (.int p6), .val (.int (0 : Int32)), .val (.int zm), .val (.long y1), .second, .val (.long y2), .second, .val (.long y3), .second, .val (.long y4), .second, .val (.double z1), .second, .val (.double z2), .second, .val (.double z3), .second, .val (.ref b7), .val (.int (0 : Int32)), .val (.int (0 : Int32)), .val (.int (0 : Int32))] [(.int (0 : Int32)), (.double z2), (.long y2), (.int (0 : Int32)), (.double z1), (.long y1), (.int (0 : Int32)), (.long y1), (.double (own_f6 y1 (fun _ => (-1 : Int64)) (fun _ => 0)))]))
    refine own_go (fun _ => XS.lload X9.here hx rfl (hb hby at_263) rfl) ?_
    show own_Go p.tables e below _ (T9.setTop (mkF m 265 #[.val (.int p1), .val (.long q2), .second, .val (.long q3), .second, .val (.long q4), .second, .val (.long q5), .second, .val (.int p6), .val (.int (0 : Int32)), .val (.int zm), .val (.long y1), .second, .val (.long y2), .second, .val (.long y3), .second, .val (.long y4), .second, .val (.double z1), .second, .val (.double z2), .second, .val (.double z3), .second, .val (.ref b7), .val (.int (0 : Int32)), .val (.int (0 : Int32)), .val (.int (0 : Int32))] [(.long y3), (.int (0 : Int32)), (.double z2), (.long y2), (.int (0 : Int32)), (.double z1), (.long y1), (.int (0 : Int32)), (.long y1), (.double (own_f6 y1 (fun _ => (-1 : Int64)) (fun _ => 0)))]))
    refine own_go (fun _ => XS.dload X9.here hx rfl (hb hby at_265) rfl) ?_
    show own_Go p.tables e below _ (T9.setTop (mkF m 267 #[.val (.int p1), .val (.long q2), .second, .val (.long q3), .second, .val (.long q4), .second, .val (.long q5), .second, .val (.int p6), .val (.int (0 : Int32)), .val (.int zm), .val (.long y1), .second, .val (.long y2), .second, .val (.long y3), .second, .val (.long y4), .second, .val (.double z1), .second, .val (.double z2), .second, .val (.double z3), .second, .val (.ref b7), .val (.int (0 : Int32)), .val (.int (0 : Int32)), .val (.int (0 : Int32))] [(.double z3), (.long y3), (.int (0 : Int32)), (.double z2), (.long y2), (.int (0 : Int32)), (.double z1), (.long y1), (.int (0 : Int32)), (.long y1), (.double (own_f6 y1 (fun _ => (-1 : Int64)) (fun _ => 0)))]))
    obtain ⟨v10, T10, L10, X10, hQ10, st10⟩ := own_tidyS X9 (Jvm.LawKit.callS X9 hx (y := (⟨"com/example/outis/outis/clustering/KeptChargesGetPinLaw", "check", "(DJZJDZJDZJD)Z"⟩ : MethodName)) hown (mvT hZ (hw _ (List.mem_of_getElem? (i := 45) rfl))) (mvT hZ (hw _ (List.mem_of_getElem? (i := 46) rfl))) (mvT hZ (hw _ (List.mem_of_getElem? (i := 47) rfl))) (mvT hZ (hw _ (List.mem_of_getElem? (i := 48) rfl))) (by decide) (backOf (W := 0) (rm8 l Z a0 hw [] (own_f6 y1 (fun _ => (-1 : Int64)) (fun _ => 0)) y1 (0 : Int32) y1 z1 (0 : Int32) y2 z2 (0 : Int32) y3 z3 T8.heap n0 (Nat.le_trans (Nat.le_trans Z0 E7.1) Kc8.1) ) hZ (hw _ (List.mem_of_getElem? (i := 48) rfl)) (hw _ (List.mem_of_getElem? (i := 47) rfl)) (by decide) (by decide)) (g := (mkF m 267 #[.val (.int p1), .val (.long q2), .second, .val (.long q3), .second, .val (.long q4), .second, .val (.long q5), .second, .val (.int p6), .val (.int (0 : Int32)), .val (.int zm), .val (.long y1), .second, .val (.long y2), .second, .val (.long y3), .second, .val (.long y4), .second, .val (.double z1), .second, .val (.double z2), .second, .val (.double z3), .second, .val (.ref b7), .val (.int (0 : Int32)), .val (.int (0 : Int32)), .val (.int (0 : Int32))] [(.double z3), (.long y3), (.int (0 : Int32)), (.double z2), (.long y2), (.int (0 : Int32)), (.double z1), (.long y1), (.int (0 : Int32)), (.long y1), (.double (own_f6 y1 (fun _ => (-1 : Int64)) (fun _ => 0)))])) rfl (by rw [hml]; rfl) (argsL := [(.double (own_f6 y1 (fun _ => (-1 : Int64)) (fun _ => 0))), (.long y1), (.int (0 : Int32)), (.long y1), (.double z1), (.int (0 : Int32)), (.long y2), (.double z2), (.int (0 : Int32)), (.long y3), (.double z3)]) (rest := []) (lenOf pd_6 rfl) rfl (by show 2 * 0 + _ ≤ _; exact Nat.le_of_eq rfl) (hb hby at_267) (fun _ _ => ⟨rfl, e9, (by decide : 3 + 0 ≤ _), (by decide : 37 + 0 ≤ _)⟩)) (c' := 3) (n' := 37) rfl rfl
    obtain ⟨rfl, N10q, e10⟩ := hQ10
    have N10 := Fr.app N9 N10q
    refine own_go st10 ?_
    show own_Go p.tables e below _ (T10.setTop (mkF m 270 #[.val (.int p1), .val (.long q2), .second, .val (.long q3), .second, .val (.long q4), .second, .val (.long q5), .second, .val (.int p6), .val (.int (0 : Int32)), .val (.int zm), .val (.long y1), .second, .val (.long y2), .second, .val (.long y3), .second, .val (.long y4), .second, .val (.double z1), .second, .val (.double z2), .second, .val (.double z3), .second, .val (.ref b7), .val (.int (0 : Int32)), .val (.int (0 : Int32)), .val (.int (0 : Int32))] [(.int (own_f8 (own_f6 y1 (fun _ => (-1 : Int64)) (fun _ => 0)) y1 (0 : Int32) y1 z1 (0 : Int32) y2 z2 (0 : Int32) y3 z3))]))
    refine own_go (fun _ => XS.ifNo X10.here hx rfl (hb hby at_270) rfl ((if0 _ _).trans (feq (own_ok0 (own_J0 (fun _ => 0)) hy1 hz1 hz2 hz3)).1)) ?_
    show own_Go p.tables e below _ (T10.setTop (mkF m 273 #[.val (.int p1), .val (.long q2), .second, .val (.long q3), .second, .val (.long q4), .second, .val (.long q5), .second, .val (.int p6), .val (.int (0 : Int32)), .val (.int zm), .val (.long y1), .second, .val (.long y2), .second, .val (.long y3), .second, .val (.long y4), .second, .val (.double z1), .second, .val (.double z2), .second, .val (.double z3), .second, .val (.ref b7), .val (.int (0 : Int32)), .val (.int (0 : Int32)), .val (.int (0 : Int32))] []))
    refine own_go (fun _ => XS.aload X10.here hx rfl (hb hby at_273) rfl rfl) ?_
    show own_Go p.tables e below _ (T10.setTop (mkF m 275 #[.val (.int p1), .val (.long q2), .second, .val (.long q3), .second, .val (.long q4), .second, .val (.long q5), .second, .val (.int p6), .val (.int (0 : Int32)), .val (.int zm), .val (.long y1), .second, .val (.long y2), .second, .val (.long y3), .second, .val (.long y4), .second, .val (.double z1), .second, .val (.double z2), .second, .val (.double z3), .second, .val (.ref b7), .val (.int (0 : Int32)), .val (.int (0 : Int32)), .val (.int (0 : Int32))] [(.ref b7)]))
    refine own_go (fun _ => XS.lload X10.here hx rfl (hb hby at_275) rfl) ?_
    show own_Go p.tables e below _ (T10.setTop (mkF m 277 #[.val (.int p1), .val (.long q2), .second, .val (.long q3), .second, .val (.long q4), .second, .val (.long q5), .second, .val (.int p6), .val (.int (0 : Int32)), .val (.int zm), .val (.long y1), .second, .val (.long y2), .second, .val (.long y3), .second, .val (.long y4), .second, .val (.double z1), .second, .val (.double z2), .second, .val (.double z3), .second, .val (.ref b7), .val (.int (0 : Int32)), .val (.int (0 : Int32)), .val (.int (0 : Int32))] [(.long y2), (.ref b7)]))
    obtain ⟨cq11, kq11, q11a, q11b, q11c⟩ := isOf hZ e10 F8_0
    obtain ⟨v11, T11, L11, X11, hQ11, st11⟩ := own_tidyV X10 (X10.virtualBack hx (y := (⟨"com/example/outis/outis/clustering/KeptCharges", "get", "(J)D"⟩ : MethodName)) (z := (⟨"com/example/outis/outis/clustering/KeptCharges", "get", "(J)D"⟩ : MethodName)) hown (mvT hZ (hw _ (List.mem_of_getElem? (i := 34) rfl))) (mvT hZ (hw _ (List.mem_of_getElem? (i := 35) rfl))) (notFace_of_selects (args := #[]) (mvT hZ (hw _ (List.mem_of_getElem? (i := 37) rfl)))) (mvT hZ (hw _ (List.mem_of_getElem? (i := 37) rfl))) (mvT hZ (hw _ (List.mem_of_getElem? (i := 36) rfl))) (by decide) (backOf (W := 0) (rm6 l Z a0 hw [] b7 y2 e8_0 e8_1 (fun _ => (-1 : Int64)) (fun _ => 0) kc8_0 kc8_1 T8.heap n0 (Nat.le_trans (Nat.le_trans Z0 E7.1) Kc8.1) F8_4 F8_2 F8_3 F8_0 F8_7 F8_8 (own_finN _)) hZ (hw _ (List.mem_of_getElem? (i := 38) rfl)) (hw _ (List.mem_of_getElem? (i := 3) rfl)) (by decide) (by decide)) q11a q11c (g := (mkF m 277 #[.val (.int p1), .val (.long q2), .second, .val (.long q3), .second, .val (.long q4), .second, .val (.long q5), .second, .val (.int p6), .val (.int (0 : Int32)), .val (.int zm), .val (.long y1), .second, .val (.long y2), .second, .val (.long y3), .second, .val (.long y4), .second, .val (.double z1), .second, .val (.double z2), .second, .val (.double z3), .second, .val (.ref b7), .val (.int (0 : Int32)), .val (.int (0 : Int32)), .val (.int (0 : Int32))] [(.long y2), (.ref b7)])) rfl (by rw [hml]; rfl) (Steps.refl _) (argsL := [(.long y2)]) (rest := []) (lenOf pd_4 rfl) rfl (by show 2 * 0 + _ ≤ _; exact Nat.le_of_eq rfl) (hb hby at_277) (fun _ _ => ⟨rfl, e10, (by decide : 3 + 0 ≤ _), (by decide : 37 + 0 ≤ _)⟩)) (c' := 3) (n' := 37) rfl rfl
    obtain ⟨rfl, N11q, e11⟩ := hQ11
    have N11 := Fr.app N10 N11q
    refine own_via st11 ?_
    show own_Go p.tables e below _ (T11.setTop (mkF m 280 #[.val (.int p1), .val (.long q2), .second, .val (.long q3), .second, .val (.long q4), .second, .val (.long q5), .second, .val (.int p6), .val (.int (0 : Int32)), .val (.int zm), .val (.long y1), .second, .val (.long y2), .second, .val (.long y3), .second, .val (.long y4), .second, .val (.double z1), .second, .val (.double z2), .second, .val (.double z3), .second, .val (.ref b7), .val (.int (0 : Int32)), .val (.int (0 : Int32)), .val (.int (0 : Int32))] [(.double (own_f6 y2 (fun _ => (-1 : Int64)) (fun _ => 0)))]))
    refine own_go (fun _ => XS.lload X11.here hx rfl (hb hby at_280) rfl) ?_
    show own_Go p.tables e below _ (T11.setTop (mkF m 282 #[.val (.int p1), .val (.long q2), .second, .val (.long q3), .second, .val (.long q4), .second, .val (.long q5), .second, .val (.int p6), .val (.int (0 : Int32)), .val (.int zm), .val (.long y1), .second, .val (.long y2), .second, .val (.long y3), .second, .val (.long y4), .second, .val (.double z1), .second, .val (.double z2), .second, .val (.double z3), .second, .val (.ref b7), .val (.int (0 : Int32)), .val (.int (0 : Int32)), .val (.int (0 : Int32))] [(.long y2), (.double (own_f6 y2 (fun _ => (-1 : Int64)) (fun _ => 0)))]))
    refine own_go (fun _ => XS.iload X11.here hx rfl (hb hby at_282) rfl) ?_
    show own_Go p.tables e below _ (T11.setTop (mkF m 284 #[.val (.int p1), .val (.long q2), .second, .val (.long q3), .second, .val (.long q4), .second, .val (.long q5), .second, .val (.int p6), .val (.int (0 : Int32)), .val (.int zm), .val (.long y1), .second, .val (.long y2), .second, .val (.long y3), .second, .val (.long y4), .second, .val (.double z1), .second, .val (.double z2), .second, .val (.double z3), .second, .val (.ref b7), .val (.int (0 : Int32)), .val (.int (0 : Int32)), .val (.int (0 : Int32))] [(.int (0 : Int32)), (.long y2), (.double (own_f6 y2 (fun _ => (-1 : Int64)) (fun _ => 0)))]))
    refine own_go (fun _ => XS.lload X11.here hx rfl (hb hby at_284) rfl) ?_
    show own_Go p.tables e below _ (T11.setTop (mkF m 286 #[.val (.int p1), .val (.long q2), .second, .val (.long q3), .second, .val (.long q4), .second, .val (.long q5), .second, .val (.int p6), .val (.int (0 : Int32)), .val (.int zm), .val (.long y1), .second, .val (.long y2), .second, .val (.long y3), .second, .val (.long y4), .second, .val (.double z1), .second, .val (.double z2), .second, .val (.double z3), .second, .val (.ref b7), .val (.int (0 : Int32)), .val (.int (0 : Int32)), .val (.int (0 : Int32))] [(.long y1), (.int (0 : Int32)), (.long y2), (.double (own_f6 y2 (fun _ => (-1 : Int64)) (fun _ => 0)))]))
    refine own_go (fun _ => XS.dload X11.here hx rfl (hb hby at_286) rfl) ?_
    show own_Go p.tables e below _ (T11.setTop (mkF m 288 #[.val (.int p1), .val (.long q2), .second, .val (.long q3), .second, .val (.long q4), .second, .val (.long q5), .second, .val (.int p6), .val (.int (0 : Int32)), .val (.int zm), .val (.long y1), .second, .val (.long y2), .second, .val (.long y3), .second, .val (.long y4), .second, .val (.double z1), .second, .val (.double z2), .second, .val (.double z3), .second, .val (.ref b7), .val (.int (0 : Int32)), .val (.int (0 : Int32)), .val (.int (0 : Int32))] [(.double z1), (.long y1), (.int (0 : Int32)), (.long y2), (.double (own_f6 y2 (fun _ => (-1 : Int64)) (fun _ => 0)))]))
    refine own_go (fun _ => XS.iload X11.here hx rfl (hb hby at_288) rfl) ?_
    show own_Go p.tables e below _ (T11.setTop (mkF m 290 #[.val (.int p1), .val (.long q2), .second, .val (.long q3), .second, .val (.long q4), .second, .val (.long q5), .second, .val (.int p6), .val (.int (0 : Int32)), .val (.int zm), .val (.long y1), .second, .val (.long y2), .second, .val (.long y3), .second, .val (.long y4), .second, .val (.double z1), .second, .val (.double z2), .second, .val (.double z3), .second, .val (.ref b7), .val (.int (0 : Int32)), .val (.int (0 : Int32)), .val (.int (0 : Int32))] [(.int (0 : Int32)), (.double z1), (.long y1), (.int (0 : Int32)), (.long y2), (.double (own_f6 y2 (fun _ => (-1 : Int64)) (fun _ => 0)))]))
    refine own_go (fun _ => XS.lload X11.here hx rfl (hb hby at_290) rfl) ?_
    show own_Go p.tables e below _ (T11.setTop (mkF m 292 #[.val (.int p1), .val (.long q2), .second, .val (.long q3), .second, .val (.long q4), .second, .val (.long q5), .second, .val (.int p6), .val (.int (0 : Int32)), .val (.int zm), .val (.long y1), .second, .val (.long y2), .second, .val (.long y3), .second, .val (.long y4), .second, .val (.double z1), .second, .val (.double z2), .second, .val (.double z3), .second, .val (.ref b7), .val (.int (0 : Int32)), .val (.int (0 : Int32)), .val (.int (0 : Int32))] [(.long y2), (.int (0 : Int32)), (.double z1), (.long y1), (.int (0 : Int32)), (.long y2), (.double (own_f6 y2 (fun _ => (-1 : Int64)) (fun _ => 0)))]))
    refine own_go (fun _ => XS.dload X11.here hx rfl (hb hby at_292) rfl) ?_
    show own_Go p.tables e below _ (T11.setTop (mkF m 294 #[.val (.int p1), .val (.long q2), .second, .val (.long q3), .second, .val (.long q4), .second, .val (.long q5), .second, .val (.int p6), .val (.int (0 : Int32)), .val (.int zm), .val (.long y1), .second, .val (.long y2), .second, .val (.long y3), .second, .val (.long y4), .second, .val (.double z1), .second, .val (.double z2), .second, .val (.double z3), .second, .val (.ref b7), .val (.int (0 : Int32)), .val (.int (0 : Int32)), .val (.int (0 : Int32))] [(.double z2), (.long y2), (.int (0 : Int32)), (.double z1), (.long y1), (.int (0 : Int32)), (.long y2), (.double (own_f6 y2 (fun _ => (-1 : Int64)) (fun _ => 0)))]))
    refine own_go (fun _ => XS.iload X11.here hx rfl (hb hby at_294) rfl) ?_
    show own_Go p.tables e below _ (T11.setTop (mkF m 296 #[.val (.int p1), .val (.long q2), .second, .val (.long q3), .second, .val (.long q4), .second, .val (.long q5), .second, .val (.int p6), .val (.int (0 : Int32)), .val (.int zm), .val (.long y1), .second, .val (.long y2), .second, .val (.long y3), .second, .val (.long y4), .second, .val (.double z1), .second, .val (.double z2), .second, .val (.double z3), .second, .val (.ref b7), .val (.int (0 : Int32)), .val (.int (0 : Int32)), .val (.int (0 : Int32))] [(.int (0 : Int32)), (.double z2), (.long y2), (.int (0 : Int32)), (.double z1), (.long y1), (.int (0 : Int32)), (.long y2), (.double (own_f6 y2 (fun _ => (-1 : Int64)) (fun _ => 0)))]))
    refine own_go (fun _ => XS.lload X11.here hx rfl (hb hby at_296) rfl) ?_
    show own_Go p.tables e below _ (T11.setTop (mkF m 298 #[.val (.int p1), .val (.long q2), .second, .val (.long q3), .second, .val (.long q4), .second, .val (.long q5), .second, .val (.int p6), .val (.int (0 : Int32)), .val (.int zm), .val (.long y1), .second, .val (.long y2), .second, .val (.long y3), .second, .val (.long y4), .second, .val (.double z1), .second, .val (.double z2), .second, .val (.double z3), .second, .val (.ref b7), .val (.int (0 : Int32)), .val (.int (0 : Int32)), .val (.int (0 : Int32))] [(.long y3), (.int (0 : Int32)), (.double z2), (.long y2), (.int (0 : Int32)), (.double z1), (.long y1), (.int (0 : Int32)), (.long y2), (.double (own_f6 y2 (fun _ => (-1 : Int64)) (fun _ => 0)))]))
    refine own_go (fun _ => XS.dload X11.here hx rfl (hb hby at_298) rfl) ?_
    show own_Go p.tables e below _ (T11.setTop (mkF m 300 #[.val (.int p1), .val (.long q2), .second, .val (.long q3), .second, .val (.long q4), .second, .val (.long q5), .second, .val (.int p6), .val (.int (0 : Int32)), .val (.int zm), .val (.long y1), .second, .val (.long y2), .second, .val (.long y3), .second, .val (.long y4), .second, .val (.double z1), .second, .val (.double z2), .second, .val (.double z3), .second, .val (.ref b7), .val (.int (0 : Int32)), .val (.int (0 : Int32)), .val (.int (0 : Int32))] [(.double z3), (.long y3), (.int (0 : Int32)), (.double z2), (.long y2), (.int (0 : Int32)), (.double z1), (.long y1), (.int (0 : Int32)), (.long y2), (.double (own_f6 y2 (fun _ => (-1 : Int64)) (fun _ => 0)))]))
    obtain ⟨v12, T12, L12, X12, hQ12, st12⟩ := own_tidyS X11 (Jvm.LawKit.callS X11 hx (y := (⟨"com/example/outis/outis/clustering/KeptChargesGetPinLaw", "check", "(DJZJDZJDZJD)Z"⟩ : MethodName)) hown (mvT hZ (hw _ (List.mem_of_getElem? (i := 45) rfl))) (mvT hZ (hw _ (List.mem_of_getElem? (i := 46) rfl))) (mvT hZ (hw _ (List.mem_of_getElem? (i := 47) rfl))) (mvT hZ (hw _ (List.mem_of_getElem? (i := 48) rfl))) (by decide) (backOf (W := 0) (rm8 l Z a0 hw [] (own_f6 y2 (fun _ => (-1 : Int64)) (fun _ => 0)) y2 (0 : Int32) y1 z1 (0 : Int32) y2 z2 (0 : Int32) y3 z3 T8.heap n0 (Nat.le_trans (Nat.le_trans Z0 E7.1) Kc8.1) ) hZ (hw _ (List.mem_of_getElem? (i := 48) rfl)) (hw _ (List.mem_of_getElem? (i := 47) rfl)) (by decide) (by decide)) (g := (mkF m 300 #[.val (.int p1), .val (.long q2), .second, .val (.long q3), .second, .val (.long q4), .second, .val (.long q5), .second, .val (.int p6), .val (.int (0 : Int32)), .val (.int zm), .val (.long y1), .second, .val (.long y2), .second, .val (.long y3), .second, .val (.long y4), .second, .val (.double z1), .second, .val (.double z2), .second, .val (.double z3), .second, .val (.ref b7), .val (.int (0 : Int32)), .val (.int (0 : Int32)), .val (.int (0 : Int32))] [(.double z3), (.long y3), (.int (0 : Int32)), (.double z2), (.long y2), (.int (0 : Int32)), (.double z1), (.long y1), (.int (0 : Int32)), (.long y2), (.double (own_f6 y2 (fun _ => (-1 : Int64)) (fun _ => 0)))])) rfl (by rw [hml]; rfl) (argsL := [(.double (own_f6 y2 (fun _ => (-1 : Int64)) (fun _ => 0))), (.long y2), (.int (0 : Int32)), (.long y1), (.double z1), (.int (0 : Int32)), (.long y2), (.double z2), (.int (0 : Int32)), (.long y3), (.double z3)]) (rest := []) (lenOf pd_6 rfl) rfl (by show 2 * 0 + _ ≤ _; exact Nat.le_of_eq rfl) (hb hby at_300) (fun _ _ => ⟨rfl, e11, (by decide : 3 + 0 ≤ _), (by decide : 37 + 0 ≤ _)⟩)) (c' := 3) (n' := 37) rfl rfl
    obtain ⟨rfl, N12q, e12⟩ := hQ12
    have N12 := Fr.app N11 N12q
    refine own_go st12 ?_
    show own_Go p.tables e below _ (T12.setTop (mkF m 303 #[.val (.int p1), .val (.long q2), .second, .val (.long q3), .second, .val (.long q4), .second, .val (.long q5), .second, .val (.int p6), .val (.int (0 : Int32)), .val (.int zm), .val (.long y1), .second, .val (.long y2), .second, .val (.long y3), .second, .val (.long y4), .second, .val (.double z1), .second, .val (.double z2), .second, .val (.double z3), .second, .val (.ref b7), .val (.int (0 : Int32)), .val (.int (0 : Int32)), .val (.int (0 : Int32))] [(.int (own_f8 (own_f6 y2 (fun _ => (-1 : Int64)) (fun _ => 0)) y2 (0 : Int32) y1 z1 (0 : Int32) y2 z2 (0 : Int32) y3 z3))]))
    refine own_go (fun _ => XS.ifNo X12.here hx rfl (hb hby at_303) rfl ((if0 _ _).trans (feq (own_ok0 (own_J0 (fun _ => 0)) hy2 hz1 hz2 hz3)).1)) ?_
    show own_Go p.tables e below _ (T12.setTop (mkF m 306 #[.val (.int p1), .val (.long q2), .second, .val (.long q3), .second, .val (.long q4), .second, .val (.long q5), .second, .val (.int p6), .val (.int (0 : Int32)), .val (.int zm), .val (.long y1), .second, .val (.long y2), .second, .val (.long y3), .second, .val (.long y4), .second, .val (.double z1), .second, .val (.double z2), .second, .val (.double z3), .second, .val (.ref b7), .val (.int (0 : Int32)), .val (.int (0 : Int32)), .val (.int (0 : Int32))] []))
    refine own_go (fun _ => XS.aload X12.here hx rfl (hb hby at_306) rfl rfl) ?_
    show own_Go p.tables e below _ (T12.setTop (mkF m 308 #[.val (.int p1), .val (.long q2), .second, .val (.long q3), .second, .val (.long q4), .second, .val (.long q5), .second, .val (.int p6), .val (.int (0 : Int32)), .val (.int zm), .val (.long y1), .second, .val (.long y2), .second, .val (.long y3), .second, .val (.long y4), .second, .val (.double z1), .second, .val (.double z2), .second, .val (.double z3), .second, .val (.ref b7), .val (.int (0 : Int32)), .val (.int (0 : Int32)), .val (.int (0 : Int32))] [(.ref b7)]))
    refine own_go (fun _ => XS.lload X12.here hx rfl (hb hby at_308) rfl) ?_
    show own_Go p.tables e below _ (T12.setTop (mkF m 310 #[.val (.int p1), .val (.long q2), .second, .val (.long q3), .second, .val (.long q4), .second, .val (.long q5), .second, .val (.int p6), .val (.int (0 : Int32)), .val (.int zm), .val (.long y1), .second, .val (.long y2), .second, .val (.long y3), .second, .val (.long y4), .second, .val (.double z1), .second, .val (.double z2), .second, .val (.double z3), .second, .val (.ref b7), .val (.int (0 : Int32)), .val (.int (0 : Int32)), .val (.int (0 : Int32))] [(.long y3), (.ref b7)]))
    obtain ⟨cq13, kq13, q13a, q13b, q13c⟩ := isOf hZ e12 F8_0
    obtain ⟨v13, T13, L13, X13, hQ13, st13⟩ := own_tidyV X12 (X12.virtualBack hx (y := (⟨"com/example/outis/outis/clustering/KeptCharges", "get", "(J)D"⟩ : MethodName)) (z := (⟨"com/example/outis/outis/clustering/KeptCharges", "get", "(J)D"⟩ : MethodName)) hown (mvT hZ (hw _ (List.mem_of_getElem? (i := 34) rfl))) (mvT hZ (hw _ (List.mem_of_getElem? (i := 35) rfl))) (notFace_of_selects (args := #[]) (mvT hZ (hw _ (List.mem_of_getElem? (i := 37) rfl)))) (mvT hZ (hw _ (List.mem_of_getElem? (i := 37) rfl))) (mvT hZ (hw _ (List.mem_of_getElem? (i := 36) rfl))) (by decide) (backOf (W := 0) (rm6 l Z a0 hw [] b7 y3 e8_0 e8_1 (fun _ => (-1 : Int64)) (fun _ => 0) kc8_0 kc8_1 T8.heap n0 (Nat.le_trans (Nat.le_trans Z0 E7.1) Kc8.1) F8_4 F8_2 F8_3 F8_0 F8_7 F8_8 (own_finN _)) hZ (hw _ (List.mem_of_getElem? (i := 38) rfl)) (hw _ (List.mem_of_getElem? (i := 3) rfl)) (by decide) (by decide)) q13a q13c (g := (mkF m 310 #[.val (.int p1), .val (.long q2), .second, .val (.long q3), .second, .val (.long q4), .second, .val (.long q5), .second, .val (.int p6), .val (.int (0 : Int32)), .val (.int zm), .val (.long y1), .second, .val (.long y2), .second, .val (.long y3), .second, .val (.long y4), .second, .val (.double z1), .second, .val (.double z2), .second, .val (.double z3), .second, .val (.ref b7), .val (.int (0 : Int32)), .val (.int (0 : Int32)), .val (.int (0 : Int32))] [(.long y3), (.ref b7)])) rfl (by rw [hml]; rfl) (Steps.refl _) (argsL := [(.long y3)]) (rest := []) (lenOf pd_4 rfl) rfl (by show 2 * 0 + _ ≤ _; exact Nat.le_of_eq rfl) (hb hby at_310) (fun _ _ => ⟨rfl, e12, (by decide : 3 + 0 ≤ _), (by decide : 37 + 0 ≤ _)⟩)) (c' := 3) (n' := 37) rfl rfl
    obtain ⟨rfl, N13q, e13⟩ := hQ13
    have N13 := Fr.app N12 N13q
    refine own_via st13 ?_
    show own_Go p.tables e below _ (T13.setTop (mkF m 313 #[.val (.int p1), .val (.long q2), .second, .val (.long q3), .second, .val (.long q4), .second, .val (.long q5), .second, .val (.int p6), .val (.int (0 : Int32)), .val (.int zm), .val (.long y1), .second, .val (.long y2), .second, .val (.long y3), .second, .val (.long y4), .second, .val (.double z1), .second, .val (.double z2), .second, .val (.double z3), .second, .val (.ref b7), .val (.int (0 : Int32)), .val (.int (0 : Int32)), .val (.int (0 : Int32))] [(.double (own_f6 y3 (fun _ => (-1 : Int64)) (fun _ => 0)))]))
    refine own_go (fun _ => XS.lload X13.here hx rfl (hb hby at_313) rfl) ?_
    show own_Go p.tables e below _ (T13.setTop (mkF m 315 #[.val (.int p1), .val (.long q2), .second, .val (.long q3), .second, .val (.long q4), .second, .val (.long q5), .second, .val (.int p6), .val (.int (0 : Int32)), .val (.int zm), .val (.long y1), .second, .val (.long y2), .second, .val (.long y3), .second, .val (.long y4), .second, .val (.double z1), .second, .val (.double z2), .second, .val (.double z3), .second, .val (.ref b7), .val (.int (0 : Int32)), .val (.int (0 : Int32)), .val (.int (0 : Int32))] [(.long y3), (.double (own_f6 y3 (fun _ => (-1 : Int64)) (fun _ => 0)))]))
    refine own_go (fun _ => XS.iload X13.here hx rfl (hb hby at_315) rfl) ?_
    show own_Go p.tables e below _ (T13.setTop (mkF m 317 #[.val (.int p1), .val (.long q2), .second, .val (.long q3), .second, .val (.long q4), .second, .val (.long q5), .second, .val (.int p6), .val (.int (0 : Int32)), .val (.int zm), .val (.long y1), .second, .val (.long y2), .second, .val (.long y3), .second, .val (.long y4), .second, .val (.double z1), .second, .val (.double z2), .second, .val (.double z3), .second, .val (.ref b7), .val (.int (0 : Int32)), .val (.int (0 : Int32)), .val (.int (0 : Int32))] [(.int (0 : Int32)), (.long y3), (.double (own_f6 y3 (fun _ => (-1 : Int64)) (fun _ => 0)))]))
    refine own_go (fun _ => XS.lload X13.here hx rfl (hb hby at_317) rfl) ?_
    show own_Go p.tables e below _ (T13.setTop (mkF m 319 #[.val (.int p1), .val (.long q2), .second, .val (.long q3), .second, .val (.long q4), .second, .val (.long q5), .second, .val (.int p6), .val (.int (0 : Int32)), .val (.int zm), .val (.long y1), .second, .val (.long y2), .second, .val (.long y3), .second, .val (.long y4), .second, .val (.double z1), .second, .val (.double z2), .second, .val (.double z3), .second, .val (.ref b7), .val (.int (0 : Int32)), .val (.int (0 : Int32)), .val (.int (0 : Int32))] [(.long y1), (.int (0 : Int32)), (.long y3), (.double (own_f6 y3 (fun _ => (-1 : Int64)) (fun _ => 0)))]))
    refine own_go (fun _ => XS.dload X13.here hx rfl (hb hby at_319) rfl) ?_
    show own_Go p.tables e below _ (T13.setTop (mkF m 321 #[.val (.int p1), .val (.long q2), .second, .val (.long q3), .second, .val (.long q4), .second, .val (.long q5), .second, .val (.int p6), .val (.int (0 : Int32)), .val (.int zm), .val (.long y1), .second, .val (.long y2), .second, .val (.long y3), .second, .val (.long y4), .second, .val (.double z1), .second, .val (.double z2), .second, .val (.double z3), .second, .val (.ref b7), .val (.int (0 : Int32)), .val (.int (0 : Int32)), .val (.int (0 : Int32))] [(.double z1), (.long y1), (.int (0 : Int32)), (.long y3), (.double (own_f6 y3 (fun _ => (-1 : Int64)) (fun _ => 0)))]))
    refine own_go (fun _ => XS.iload X13.here hx rfl (hb hby at_321) rfl) ?_
    show own_Go p.tables e below _ (T13.setTop (mkF m 323 #[.val (.int p1), .val (.long q2), .second, .val (.long q3), .second, .val (.long q4), .second, .val (.long q5), .second, .val (.int p6), .val (.int (0 : Int32)), .val (.int zm), .val (.long y1), .second, .val (.long y2), .second, .val (.long y3), .second, .val (.long y4), .second, .val (.double z1), .second, .val (.double z2), .second, .val (.double z3), .second, .val (.ref b7), .val (.int (0 : Int32)), .val (.int (0 : Int32)), .val (.int (0 : Int32))] [(.int (0 : Int32)), (.double z1), (.long y1), (.int (0 : Int32)), (.long y3), (.double (own_f6 y3 (fun _ => (-1 : Int64)) (fun _ => 0)))]))
    refine own_go (fun _ => XS.lload X13.here hx rfl (hb hby at_323) rfl) ?_
    show own_Go p.tables e below _ (T13.setTop (mkF m 325 #[.val (.int p1), .val (.long q2), .second, .val (.long q3), .second, .val (.long q4), .second, .val (.long q5), .second, .val (.int p6), .val (.int (0 : Int32)), .val (.int zm), .val (.long y1), .second, .val (.long y2), .second, .val (.long y3), .second, .val (.long y4), .second, .val (.double z1), .second, .val (.double z2), .second, .val (.double z3), .second, .val (.ref b7), .val (.int (0 : Int32)), .val (.int (0 : Int32)), .val (.int (0 : Int32))] [(.long y2), (.int (0 : Int32)), (.double z1), (.long y1), (.int (0 : Int32)), (.long y3), (.double (own_f6 y3 (fun _ => (-1 : Int64)) (fun _ => 0)))]))
    refine own_go (fun _ => XS.dload X13.here hx rfl (hb hby at_325) rfl) ?_
    show own_Go p.tables e below _ (T13.setTop (mkF m 327 #[.val (.int p1), .val (.long q2), .second, .val (.long q3), .second, .val (.long q4), .second, .val (.long q5), .second, .val (.int p6), .val (.int (0 : Int32)), .val (.int zm), .val (.long y1), .second, .val (.long y2), .second, .val (.long y3), .second, .val (.long y4), .second, .val (.double z1), .second, .val (.double z2), .second, .val (.double z3), .second, .val (.ref b7), .val (.int (0 : Int32)), .val (.int (0 : Int32)), .val (.int (0 : Int32))] [(.double z2), (.long y2), (.int (0 : Int32)), (.double z1), (.long y1), (.int (0 : Int32)), (.long y3), (.double (own_f6 y3 (fun _ => (-1 : Int64)) (fun _ => 0)))]))
    refine own_go (fun _ => XS.iload X13.here hx rfl (hb hby at_327) rfl) ?_
    show own_Go p.tables e below _ (T13.setTop (mkF m 329 #[.val (.int p1), .val (.long q2), .second, .val (.long q3), .second, .val (.long q4), .second, .val (.long q5), .second, .val (.int p6), .val (.int (0 : Int32)), .val (.int zm), .val (.long y1), .second, .val (.long y2), .second, .val (.long y3), .second, .val (.long y4), .second, .val (.double z1), .second, .val (.double z2), .second, .val (.double z3), .second, .val (.ref b7), .val (.int (0 : Int32)), .val (.int (0 : Int32)), .val (.int (0 : Int32))] [(.int (0 : Int32)), (.double z2), (.long y2), (.int (0 : Int32)), (.double z1), (.long y1), (.int (0 : Int32)), (.long y3), (.double (own_f6 y3 (fun _ => (-1 : Int64)) (fun _ => 0)))]))
    refine own_go (fun _ => XS.lload X13.here hx rfl (hb hby at_329) rfl) ?_
    show own_Go p.tables e below _ (T13.setTop (mkF m 331 #[.val (.int p1), .val (.long q2), .second, .val (.long q3), .second, .val (.long q4), .second, .val (.long q5), .second, .val (.int p6), .val (.int (0 : Int32)), .val (.int zm), .val (.long y1), .second, .val (.long y2), .second, .val (.long y3), .second, .val (.long y4), .second, .val (.double z1), .second, .val (.double z2), .second, .val (.double z3), .second, .val (.ref b7), .val (.int (0 : Int32)), .val (.int (0 : Int32)), .val (.int (0 : Int32))] [(.long y3), (.int (0 : Int32)), (.double z2), (.long y2), (.int (0 : Int32)), (.double z1), (.long y1), (.int (0 : Int32)), (.long y3), (.double (own_f6 y3 (fun _ => (-1 : Int64)) (fun _ => 0)))]))
    refine own_go (fun _ => XS.dload X13.here hx rfl (hb hby at_331) rfl) ?_
    show own_Go p.tables e below _ (T13.setTop (mkF m 333 #[.val (.int p1), .val (.long q2), .second, .val (.long q3), .second, .val (.long q4), .second, .val (.long q5), .second, .val (.int p6), .val (.int (0 : Int32)), .val (.int zm), .val (.long y1), .second, .val (.long y2), .second, .val (.long y3), .second, .val (.long y4), .second, .val (.double z1), .second, .val (.double z2), .second, .val (.double z3), .second, .val (.ref b7), .val (.int (0 : Int32)), .val (.int (0 : Int32)), .val (.int (0 : Int32))] [(.double z3), (.long y3), (.int (0 : Int32)), (.double z2), (.long y2), (.int (0 : Int32)), (.double z1), (.long y1), (.int (0 : Int32)), (.long y3), (.double (own_f6 y3 (fun _ => (-1 : Int64)) (fun _ => 0)))]))
    obtain ⟨v14, T14, L14, X14, hQ14, st14⟩ := own_tidyS X13 (Jvm.LawKit.callS X13 hx (y := (⟨"com/example/outis/outis/clustering/KeptChargesGetPinLaw", "check", "(DJZJDZJDZJD)Z"⟩ : MethodName)) hown (mvT hZ (hw _ (List.mem_of_getElem? (i := 45) rfl))) (mvT hZ (hw _ (List.mem_of_getElem? (i := 46) rfl))) (mvT hZ (hw _ (List.mem_of_getElem? (i := 47) rfl))) (mvT hZ (hw _ (List.mem_of_getElem? (i := 48) rfl))) (by decide) (backOf (W := 0) (rm8 l Z a0 hw [] (own_f6 y3 (fun _ => (-1 : Int64)) (fun _ => 0)) y3 (0 : Int32) y1 z1 (0 : Int32) y2 z2 (0 : Int32) y3 z3 T8.heap n0 (Nat.le_trans (Nat.le_trans Z0 E7.1) Kc8.1) ) hZ (hw _ (List.mem_of_getElem? (i := 48) rfl)) (hw _ (List.mem_of_getElem? (i := 47) rfl)) (by decide) (by decide)) (g := (mkF m 333 #[.val (.int p1), .val (.long q2), .second, .val (.long q3), .second, .val (.long q4), .second, .val (.long q5), .second, .val (.int p6), .val (.int (0 : Int32)), .val (.int zm), .val (.long y1), .second, .val (.long y2), .second, .val (.long y3), .second, .val (.long y4), .second, .val (.double z1), .second, .val (.double z2), .second, .val (.double z3), .second, .val (.ref b7), .val (.int (0 : Int32)), .val (.int (0 : Int32)), .val (.int (0 : Int32))] [(.double z3), (.long y3), (.int (0 : Int32)), (.double z2), (.long y2), (.int (0 : Int32)), (.double z1), (.long y1), (.int (0 : Int32)), (.long y3), (.double (own_f6 y3 (fun _ => (-1 : Int64)) (fun _ => 0)))])) rfl (by rw [hml]; rfl) (argsL := [(.double (own_f6 y3 (fun _ => (-1 : Int64)) (fun _ => 0))), (.long y3), (.int (0 : Int32)), (.long y1), (.double z1), (.int (0 : Int32)), (.long y2), (.double z2), (.int (0 : Int32)), (.long y3), (.double z3)]) (rest := []) (lenOf pd_6 rfl) rfl (by show 2 * 0 + _ ≤ _; exact Nat.le_of_eq rfl) (hb hby at_333) (fun _ _ => ⟨rfl, e13, (by decide : 3 + 0 ≤ _), (by decide : 37 + 0 ≤ _)⟩)) (c' := 3) (n' := 37) rfl rfl
    obtain ⟨rfl, N14q, e14⟩ := hQ14
    have N14 := Fr.app N13 N14q
    refine own_go st14 ?_
    show own_Go p.tables e below _ (T14.setTop (mkF m 336 #[.val (.int p1), .val (.long q2), .second, .val (.long q3), .second, .val (.long q4), .second, .val (.long q5), .second, .val (.int p6), .val (.int (0 : Int32)), .val (.int zm), .val (.long y1), .second, .val (.long y2), .second, .val (.long y3), .second, .val (.long y4), .second, .val (.double z1), .second, .val (.double z2), .second, .val (.double z3), .second, .val (.ref b7), .val (.int (0 : Int32)), .val (.int (0 : Int32)), .val (.int (0 : Int32))] [(.int (own_f8 (own_f6 y3 (fun _ => (-1 : Int64)) (fun _ => 0)) y3 (0 : Int32) y1 z1 (0 : Int32) y2 z2 (0 : Int32) y3 z3))]))
    refine own_go (fun _ => XS.ifNo X14.here hx rfl (hb hby at_336) rfl ((if0 _ _).trans (feq (own_ok0 (own_J0 (fun _ => 0)) hy3 hz1 hz2 hz3)).1)) ?_
    show own_Go p.tables e below _ (T14.setTop (mkF m 339 #[.val (.int p1), .val (.long q2), .second, .val (.long q3), .second, .val (.long q4), .second, .val (.long q5), .second, .val (.int p6), .val (.int (0 : Int32)), .val (.int zm), .val (.long y1), .second, .val (.long y2), .second, .val (.long y3), .second, .val (.long y4), .second, .val (.double z1), .second, .val (.double z2), .second, .val (.double z3), .second, .val (.ref b7), .val (.int (0 : Int32)), .val (.int (0 : Int32)), .val (.int (0 : Int32))] []))
    refine own_go (fun _ => XS.aload X14.here hx rfl (hb hby at_339) rfl rfl) ?_
    show own_Go p.tables e below _ (T14.setTop (mkF m 341 #[.val (.int p1), .val (.long q2), .second, .val (.long q3), .second, .val (.long q4), .second, .val (.long q5), .second, .val (.int p6), .val (.int (0 : Int32)), .val (.int zm), .val (.long y1), .second, .val (.long y2), .second, .val (.long y3), .second, .val (.long y4), .second, .val (.double z1), .second, .val (.double z2), .second, .val (.double z3), .second, .val (.ref b7), .val (.int (0 : Int32)), .val (.int (0 : Int32)), .val (.int (0 : Int32))] [(.ref b7)]))
    refine own_go (fun _ => XS.lload X14.here hx rfl (hb hby at_341) rfl) ?_
    show own_Go p.tables e below _ (T14.setTop (mkF m 343 #[.val (.int p1), .val (.long q2), .second, .val (.long q3), .second, .val (.long q4), .second, .val (.long q5), .second, .val (.int p6), .val (.int (0 : Int32)), .val (.int zm), .val (.long y1), .second, .val (.long y2), .second, .val (.long y3), .second, .val (.long y4), .second, .val (.double z1), .second, .val (.double z2), .second, .val (.double z3), .second, .val (.ref b7), .val (.int (0 : Int32)), .val (.int (0 : Int32)), .val (.int (0 : Int32))] [(.long y4), (.ref b7)]))
    obtain ⟨cq15, kq15, q15a, q15b, q15c⟩ := isOf hZ e14 F8_0
    obtain ⟨v15, T15, L15, X15, hQ15, st15⟩ := own_tidyV X14 (X14.virtualBack hx (y := (⟨"com/example/outis/outis/clustering/KeptCharges", "get", "(J)D"⟩ : MethodName)) (z := (⟨"com/example/outis/outis/clustering/KeptCharges", "get", "(J)D"⟩ : MethodName)) hown (mvT hZ (hw _ (List.mem_of_getElem? (i := 34) rfl))) (mvT hZ (hw _ (List.mem_of_getElem? (i := 35) rfl))) (notFace_of_selects (args := #[]) (mvT hZ (hw _ (List.mem_of_getElem? (i := 37) rfl)))) (mvT hZ (hw _ (List.mem_of_getElem? (i := 37) rfl))) (mvT hZ (hw _ (List.mem_of_getElem? (i := 36) rfl))) (by decide) (backOf (W := 0) (rm6 l Z a0 hw [] b7 y4 e8_0 e8_1 (fun _ => (-1 : Int64)) (fun _ => 0) kc8_0 kc8_1 T8.heap n0 (Nat.le_trans (Nat.le_trans Z0 E7.1) Kc8.1) F8_4 F8_2 F8_3 F8_0 F8_7 F8_8 (own_finN _)) hZ (hw _ (List.mem_of_getElem? (i := 38) rfl)) (hw _ (List.mem_of_getElem? (i := 3) rfl)) (by decide) (by decide)) q15a q15c (g := (mkF m 343 #[.val (.int p1), .val (.long q2), .second, .val (.long q3), .second, .val (.long q4), .second, .val (.long q5), .second, .val (.int p6), .val (.int (0 : Int32)), .val (.int zm), .val (.long y1), .second, .val (.long y2), .second, .val (.long y3), .second, .val (.long y4), .second, .val (.double z1), .second, .val (.double z2), .second, .val (.double z3), .second, .val (.ref b7), .val (.int (0 : Int32)), .val (.int (0 : Int32)), .val (.int (0 : Int32))] [(.long y4), (.ref b7)])) rfl (by rw [hml]; rfl) (Steps.refl _) (argsL := [(.long y4)]) (rest := []) (lenOf pd_4 rfl) rfl (by show 2 * 0 + _ ≤ _; exact Nat.le_of_eq rfl) (hb hby at_343) (fun _ _ => ⟨rfl, e14, (by decide : 3 + 0 ≤ _), (by decide : 37 + 0 ≤ _)⟩)) (c' := 3) (n' := 37) rfl rfl
    obtain ⟨rfl, N15q, e15⟩ := hQ15
    have N15 := Fr.app N14 N15q
    refine own_via st15 ?_
    show own_Go p.tables e below _ (T15.setTop (mkF m 346 #[.val (.int p1), .val (.long q2), .second, .val (.long q3), .second, .val (.long q4), .second, .val (.long q5), .second, .val (.int p6), .val (.int (0 : Int32)), .val (.int zm), .val (.long y1), .second, .val (.long y2), .second, .val (.long y3), .second, .val (.long y4), .second, .val (.double z1), .second, .val (.double z2), .second, .val (.double z3), .second, .val (.ref b7), .val (.int (0 : Int32)), .val (.int (0 : Int32)), .val (.int (0 : Int32))] [(.double (own_f6 y4 (fun _ => (-1 : Int64)) (fun _ => 0)))]))
    refine own_go (fun _ => XS.lload X15.here hx rfl (hb hby at_346) rfl) ?_
    show own_Go p.tables e below _ (T15.setTop (mkF m 348 #[.val (.int p1), .val (.long q2), .second, .val (.long q3), .second, .val (.long q4), .second, .val (.long q5), .second, .val (.int p6), .val (.int (0 : Int32)), .val (.int zm), .val (.long y1), .second, .val (.long y2), .second, .val (.long y3), .second, .val (.long y4), .second, .val (.double z1), .second, .val (.double z2), .second, .val (.double z3), .second, .val (.ref b7), .val (.int (0 : Int32)), .val (.int (0 : Int32)), .val (.int (0 : Int32))] [(.long y4), (.double (own_f6 y4 (fun _ => (-1 : Int64)) (fun _ => 0)))]))
    refine own_go (fun _ => XS.iload X15.here hx rfl (hb hby at_348) rfl) ?_
    show own_Go p.tables e below _ (T15.setTop (mkF m 350 #[.val (.int p1), .val (.long q2), .second, .val (.long q3), .second, .val (.long q4), .second, .val (.long q5), .second, .val (.int p6), .val (.int (0 : Int32)), .val (.int zm), .val (.long y1), .second, .val (.long y2), .second, .val (.long y3), .second, .val (.long y4), .second, .val (.double z1), .second, .val (.double z2), .second, .val (.double z3), .second, .val (.ref b7), .val (.int (0 : Int32)), .val (.int (0 : Int32)), .val (.int (0 : Int32))] [(.int (0 : Int32)), (.long y4), (.double (own_f6 y4 (fun _ => (-1 : Int64)) (fun _ => 0)))]))
    refine own_go (fun _ => XS.lload X15.here hx rfl (hb hby at_350) rfl) ?_
    show own_Go p.tables e below _ (T15.setTop (mkF m 352 #[.val (.int p1), .val (.long q2), .second, .val (.long q3), .second, .val (.long q4), .second, .val (.long q5), .second, .val (.int p6), .val (.int (0 : Int32)), .val (.int zm), .val (.long y1), .second, .val (.long y2), .second, .val (.long y3), .second, .val (.long y4), .second, .val (.double z1), .second, .val (.double z2), .second, .val (.double z3), .second, .val (.ref b7), .val (.int (0 : Int32)), .val (.int (0 : Int32)), .val (.int (0 : Int32))] [(.long y1), (.int (0 : Int32)), (.long y4), (.double (own_f6 y4 (fun _ => (-1 : Int64)) (fun _ => 0)))]))
    refine own_go (fun _ => XS.dload X15.here hx rfl (hb hby at_352) rfl) ?_
    show own_Go p.tables e below _ (T15.setTop (mkF m 354 #[.val (.int p1), .val (.long q2), .second, .val (.long q3), .second, .val (.long q4), .second, .val (.long q5), .second, .val (.int p6), .val (.int (0 : Int32)), .val (.int zm), .val (.long y1), .second, .val (.long y2), .second, .val (.long y3), .second, .val (.long y4), .second, .val (.double z1), .second, .val (.double z2), .second, .val (.double z3), .second, .val (.ref b7), .val (.int (0 : Int32)), .val (.int (0 : Int32)), .val (.int (0 : Int32))] [(.double z1), (.long y1), (.int (0 : Int32)), (.long y4), (.double (own_f6 y4 (fun _ => (-1 : Int64)) (fun _ => 0)))]))
    refine own_go (fun _ => XS.iload X15.here hx rfl (hb hby at_354) rfl) ?_
    show own_Go p.tables e below _ (T15.setTop (mkF m 356 #[.val (.int p1), .val (.long q2), .second, .val (.long q3), .second, .val (.long q4), .second, .val (.long q5), .second, .val (.int p6), .val (.int (0 : Int32)), .val (.int zm), .val (.long y1), .second, .val (.long y2), .second, .val (.long y3), .second, .val (.long y4), .second, .val (.double z1), .second, .val (.double z2), .second, .val (.double z3), .second, .val (.ref b7), .val (.int (0 : Int32)), .val (.int (0 : Int32)), .val (.int (0 : Int32))] [(.int (0 : Int32)), (.double z1), (.long y1), (.int (0 : Int32)), (.long y4), (.double (own_f6 y4 (fun _ => (-1 : Int64)) (fun _ => 0)))]))
    refine own_go (fun _ => XS.lload X15.here hx rfl (hb hby at_356) rfl) ?_
    show own_Go p.tables e below _ (T15.setTop (mkF m 358 #[.val (.int p1), .val (.long q2), .second, .val (.long q3), .second, .val (.long q4), .second, .val (.long q5), .second, .val (.int p6), .val (.int (0 : Int32)), .val (.int zm), .val (.long y1), .second, .val (.long y2), .second, .val (.long y3), .second, .val (.long y4), .second, .val (.double z1), .second, .val (.double z2), .second, .val (.double z3), .second, .val (.ref b7), .val (.int (0 : Int32)), .val (.int (0 : Int32)), .val (.int (0 : Int32))] [(.long y2), (.int (0 : Int32)), (.double z1), (.long y1), (.int (0 : Int32)), (.long y4), (.double (own_f6 y4 (fun _ => (-1 : Int64)) (fun _ => 0)))]))
    refine own_go (fun _ => XS.dload X15.here hx rfl (hb hby at_358) rfl) ?_
    show own_Go p.tables e below _ (T15.setTop (mkF m 360 #[.val (.int p1), .val (.long q2), .second, .val (.long q3), .second, .val (.long q4), .second, .val (.long q5), .second, .val (.int p6), .val (.int (0 : Int32)), .val (.int zm), .val (.long y1), .second, .val (.long y2), .second, .val (.long y3), .second, .val (.long y4), .second, .val (.double z1), .second, .val (.double z2), .second, .val (.double z3), .second, .val (.ref b7), .val (.int (0 : Int32)), .val (.int (0 : Int32)), .val (.int (0 : Int32))] [(.double z2), (.long y2), (.int (0 : Int32)), (.double z1), (.long y1), (.int (0 : Int32)), (.long y4), (.double (own_f6 y4 (fun _ => (-1 : Int64)) (fun _ => 0)))]))
    refine own_go (fun _ => XS.iload X15.here hx rfl (hb hby at_360) rfl) ?_
    show own_Go p.tables e below _ (T15.setTop (mkF m 362 #[.val (.int p1), .val (.long q2), .second, .val (.long q3), .second, .val (.long q4), .second, .val (.long q5), .second, .val (.int p6), .val (.int (0 : Int32)), .val (.int zm), .val (.long y1), .second, .val (.long y2), .second, .val (.long y3), .second, .val (.long y4), .second, .val (.double z1), .second, .val (.double z2), .second, .val (.double z3), .second, .val (.ref b7), .val (.int (0 : Int32)), .val (.int (0 : Int32)), .val (.int (0 : Int32))] [(.int (0 : Int32)), (.double z2), (.long y2), (.int (0 : Int32)), (.double z1), (.long y1), (.int (0 : Int32)), (.long y4), (.double (own_f6 y4 (fun _ => (-1 : Int64)) (fun _ => 0)))]))
    refine own_go (fun _ => XS.lload X15.here hx rfl (hb hby at_362) rfl) ?_
    show own_Go p.tables e below _ (T15.setTop (mkF m 364 #[.val (.int p1), .val (.long q2), .second, .val (.long q3), .second, .val (.long q4), .second, .val (.long q5), .second, .val (.int p6), .val (.int (0 : Int32)), .val (.int zm), .val (.long y1), .second, .val (.long y2), .second, .val (.long y3), .second, .val (.long y4), .second, .val (.double z1), .second, .val (.double z2), .second, .val (.double z3), .second, .val (.ref b7), .val (.int (0 : Int32)), .val (.int (0 : Int32)), .val (.int (0 : Int32))] [(.long y3), (.int (0 : Int32)), (.double z2), (.long y2), (.int (0 : Int32)), (.double z1), (.long y1), (.int (0 : Int32)), (.long y4), (.double (own_f6 y4 (fun _ => (-1 : Int64)) (fun _ => 0)))]))
    refine own_go (fun _ => XS.dload X15.here hx rfl (hb hby at_364) rfl) ?_
    show own_Go p.tables e below _ (T15.setTop (mkF m 366 #[.val (.int p1), .val (.long q2), .second, .val (.long q3), .second, .val (.long q4), .second, .val (.long q5), .second, .val (.int p6), .val (.int (0 : Int32)), .val (.int zm), .val (.long y1), .second, .val (.long y2), .second, .val (.long y3), .second, .val (.long y4), .second, .val (.double z1), .second, .val (.double z2), .second, .val (.double z3), .second, .val (.ref b7), .val (.int (0 : Int32)), .val (.int (0 : Int32)), .val (.int (0 : Int32))] [(.double z3), (.long y3), (.int (0 : Int32)), (.double z2), (.long y2), (.int (0 : Int32)), (.double z1), (.long y1), (.int (0 : Int32)), (.long y4), (.double (own_f6 y4 (fun _ => (-1 : Int64)) (fun _ => 0)))]))
    obtain ⟨v16, T16, L16, X16, hQ16, st16⟩ := own_tidyS X15 (Jvm.LawKit.callS X15 hx (y := (⟨"com/example/outis/outis/clustering/KeptChargesGetPinLaw", "check", "(DJZJDZJDZJD)Z"⟩ : MethodName)) hown (mvT hZ (hw _ (List.mem_of_getElem? (i := 45) rfl))) (mvT hZ (hw _ (List.mem_of_getElem? (i := 46) rfl))) (mvT hZ (hw _ (List.mem_of_getElem? (i := 47) rfl))) (mvT hZ (hw _ (List.mem_of_getElem? (i := 48) rfl))) (by decide) (backOf (W := 0) (rm8 l Z a0 hw [] (own_f6 y4 (fun _ => (-1 : Int64)) (fun _ => 0)) y4 (0 : Int32) y1 z1 (0 : Int32) y2 z2 (0 : Int32) y3 z3 T8.heap n0 (Nat.le_trans (Nat.le_trans Z0 E7.1) Kc8.1) ) hZ (hw _ (List.mem_of_getElem? (i := 48) rfl)) (hw _ (List.mem_of_getElem? (i := 47) rfl)) (by decide) (by decide)) (g := (mkF m 366 #[.val (.int p1), .val (.long q2), .second, .val (.long q3), .second, .val (.long q4), .second, .val (.long q5), .second, .val (.int p6), .val (.int (0 : Int32)), .val (.int zm), .val (.long y1), .second, .val (.long y2), .second, .val (.long y3), .second, .val (.long y4), .second, .val (.double z1), .second, .val (.double z2), .second, .val (.double z3), .second, .val (.ref b7), .val (.int (0 : Int32)), .val (.int (0 : Int32)), .val (.int (0 : Int32))] [(.double z3), (.long y3), (.int (0 : Int32)), (.double z2), (.long y2), (.int (0 : Int32)), (.double z1), (.long y1), (.int (0 : Int32)), (.long y4), (.double (own_f6 y4 (fun _ => (-1 : Int64)) (fun _ => 0)))])) rfl (by rw [hml]; rfl) (argsL := [(.double (own_f6 y4 (fun _ => (-1 : Int64)) (fun _ => 0))), (.long y4), (.int (0 : Int32)), (.long y1), (.double z1), (.int (0 : Int32)), (.long y2), (.double z2), (.int (0 : Int32)), (.long y3), (.double z3)]) (rest := []) (lenOf pd_6 rfl) rfl (by show 2 * 0 + _ ≤ _; exact Nat.le_of_eq rfl) (hb hby at_366) (fun _ _ => ⟨rfl, e15, (by decide : 3 + 0 ≤ _), (by decide : 37 + 0 ≤ _)⟩)) (c' := 3) (n' := 37) rfl rfl
    obtain ⟨rfl, N16q, e16⟩ := hQ16
    have N16 := Fr.app N15 N16q
    refine own_go st16 ?_
    show own_Go p.tables e below _ (T16.setTop (mkF m 369 #[.val (.int p1), .val (.long q2), .second, .val (.long q3), .second, .val (.long q4), .second, .val (.long q5), .second, .val (.int p6), .val (.int (0 : Int32)), .val (.int zm), .val (.long y1), .second, .val (.long y2), .second, .val (.long y3), .second, .val (.long y4), .second, .val (.double z1), .second, .val (.double z2), .second, .val (.double z3), .second, .val (.ref b7), .val (.int (0 : Int32)), .val (.int (0 : Int32)), .val (.int (0 : Int32))] [(.int (own_f8 (own_f6 y4 (fun _ => (-1 : Int64)) (fun _ => 0)) y4 (0 : Int32) y1 z1 (0 : Int32) y2 z2 (0 : Int32) y3 z3))]))
    refine own_go (fun _ => XS.ifNo X16.here hx rfl (hb hby at_369) rfl ((if0 _ _).trans (feq (own_ok0 (own_J0 (fun _ => 0)) hy4 hz1 hz2 hz3)).1)) ?_
    show own_Go p.tables e below _ (T16.setTop (mkF m 372 #[.val (.int p1), .val (.long q2), .second, .val (.long q3), .second, .val (.long q4), .second, .val (.long q5), .second, .val (.int p6), .val (.int (0 : Int32)), .val (.int zm), .val (.long y1), .second, .val (.long y2), .second, .val (.long y3), .second, .val (.long y4), .second, .val (.double z1), .second, .val (.double z2), .second, .val (.double z3), .second, .val (.ref b7), .val (.int (0 : Int32)), .val (.int (0 : Int32)), .val (.int (0 : Int32))] []))
    refine own_go (fun _ => XS.iconst X16.here hx rfl (hb hby at_372)) ?_
    show own_Go p.tables e below _ (T16.setTop (mkF m 373 #[.val (.int p1), .val (.long q2), .second, .val (.long q3), .second, .val (.long q4), .second, .val (.long q5), .second, .val (.int p6), .val (.int (0 : Int32)), .val (.int zm), .val (.long y1), .second, .val (.long y2), .second, .val (.long y3), .second, .val (.long y4), .second, .val (.double z1), .second, .val (.double z2), .second, .val (.double z3), .second, .val (.ref b7), .val (.int (0 : Int32)), .val (.int (0 : Int32)), .val (.int (0 : Int32))] [(.int (1 : Int32))]))
    refine own_go (fun _ => XS.goto X16.here hx rfl (pc0 := 373) (pc' := 377) rfl (hb hby at_373) (by decide) (by decide)) ?_
    show own_Go p.tables e below _ (T16.setTop (mkF m 377 #[.val (.int p1), .val (.long q2), .second, .val (.long q3), .second, .val (.long q4), .second, .val (.long q5), .second, .val (.int p6), .val (.int (0 : Int32)), .val (.int zm), .val (.long y1), .second, .val (.long y2), .second, .val (.long y3), .second, .val (.long y4), .second, .val (.double z1), .second, .val (.double z2), .second, .val (.double z3), .second, .val (.ref b7), .val (.int (0 : Int32)), .val (.int (0 : Int32)), .val (.int (0 : Int32))] [(.int (1 : Int32))]))
    refine own_retN X16 Bd.notSynchronized hx (t := .boolean) Bd.returns (by simp) (hb hby at_377) (show Q0 Z p1 q2 q3 q4 q5 p6 h0 n0 _ T16.heap _ from by rw [e16]; exact ⟨rfl, N16⟩) (by decide) (by decide)
  · skip
    show own_Go p.tables e below _ (s₁.setTop (mkF m 44 #[.val (.int p1), .val (.long q2), .second, .val (.long q3), .second, .val (.long q4), .second, .val (.long q5), .second, .val (.int p6), .val (.int (p1 &&& (3 : Int32))), .val (.int zm), .val (.long y1), .second, .val (.long y2), .second, .val (.long y3), .second, .val (.long y4), .second, .unset, .unset, .unset, .unset, .unset, .unset, .unset, .unset, .unset, .unset] []))
    rw [hn]
    show own_Go p.tables e below _ (s₁.setTop (mkF m 44 #[.val (.int p1), .val (.long q2), .second, .val (.long q3), .second, .val (.long q4), .second, .val (.long q5), .second, .val (.int p6), .val (.int (1 : Int32)), .val (.int zm), .val (.long y1), .second, .val (.long y2), .second, .val (.long y3), .second, .val (.long y4), .second, .unset, .unset, .unset, .unset, .unset, .unset, .unset, .unset, .unset, .unset] []))
    refine own_go (fun _ => XS.iload X0.here hx rfl (hb hby at_44) rfl) ?_
    show own_Go p.tables e below _ (s₁.setTop (mkF m 46 #[.val (.int p1), .val (.long q2), .second, .val (.long q3), .second, .val (.long q4), .second, .val (.long q5), .second, .val (.int p6), .val (.int (1 : Int32)), .val (.int zm), .val (.long y1), .second, .val (.long y2), .second, .val (.long y3), .second, .val (.long y4), .second, .unset, .unset, .unset, .unset, .unset, .unset, .unset, .unset, .unset, .unset] [(.int (1 : Int32))]))
    refine own_go (fun _ => XS.iconst X0.here hx rfl (hb hby at_46)) ?_
    show own_Go p.tables e below _ (s₁.setTop (mkF m 47 #[.val (.int p1), .val (.long q2), .second, .val (.long q3), .second, .val (.long q4), .second, .val (.long q5), .second, .val (.int p6), .val (.int (1 : Int32)), .val (.int zm), .val (.long y1), .second, .val (.long y2), .second, .val (.long y3), .second, .val (.long y4), .second, .unset, .unset, .unset, .unset, .unset, .unset, .unset, .unset, .unset, .unset] [(.int (2 : Int32)), (.int (1 : Int32))]))
    refine own_go (fun _ => XS.icmpYes X0.here hx rfl (pc0 := 47) (pc' := 60) rfl (hb hby at_47) rfl (tlt (by decide : (1 : Int32) < (2 : Int32))).1 (by decide) (by decide)) ?_
    show own_Go p.tables e below _ (s₁.setTop (mkF m 60 #[.val (.int p1), .val (.long q2), .second, .val (.long q3), .second, .val (.long q4), .second, .val (.long q5), .second, .val (.int p6), .val (.int (1 : Int32)), .val (.int zm), .val (.long y1), .second, .val (.long y2), .second, .val (.long y3), .second, .val (.long y4), .second, .unset, .unset, .unset, .unset, .unset, .unset, .unset, .unset, .unset, .unset] []))
    refine own_go (fun _ => XS.iload X0.here hx rfl (hb hby at_60) rfl) ?_
    show own_Go p.tables e below _ (s₁.setTop (mkF m 62 #[.val (.int p1), .val (.long q2), .second, .val (.long q3), .second, .val (.long q4), .second, .val (.long q5), .second, .val (.int p6), .val (.int (1 : Int32)), .val (.int zm), .val (.long y1), .second, .val (.long y2), .second, .val (.long y3), .second, .val (.long y4), .second, .unset, .unset, .unset, .unset, .unset, .unset, .unset, .unset, .unset, .unset] [(.int (1 : Int32))]))
    refine own_go (fun _ => XS.iconst X0.here hx rfl (hb hby at_62)) ?_
    show own_Go p.tables e below _ (s₁.setTop (mkF m 63 #[.val (.int p1), .val (.long q2), .second, .val (.long q3), .second, .val (.long q4), .second, .val (.long q5), .second, .val (.int p6), .val (.int (1 : Int32)), .val (.int zm), .val (.long y1), .second, .val (.long y2), .second, .val (.long y3), .second, .val (.long y4), .second, .unset, .unset, .unset, .unset, .unset, .unset, .unset, .unset, .unset, .unset] [(.int (3 : Int32)), (.int (1 : Int32))]))
    refine own_go (fun _ => XS.icmpYes X0.here hx rfl (pc0 := 63) (pc' := 90) rfl (hb hby at_63) rfl (feq (by decide : ¬ ((1 : Int32) = (3 : Int32)))).2 (by decide) (by decide)) ?_
    show own_Go p.tables e below _ (s₁.setTop (mkF m 90 #[.val (.int p1), .val (.long q2), .second, .val (.long q3), .second, .val (.long q4), .second, .val (.long q5), .second, .val (.int p6), .val (.int (1 : Int32)), .val (.int zm), .val (.long y1), .second, .val (.long y2), .second, .val (.long y3), .second, .val (.long y4), .second, .unset, .unset, .unset, .unset, .unset, .unset, .unset, .unset, .unset, .unset] []))
    refine own_go (fun _ => XS.iload X0.here hx rfl (hb hby at_90) rfl) ?_
    show own_Go p.tables e below _ (s₁.setTop (mkF m 92 #[.val (.int p1), .val (.long q2), .second, .val (.long q3), .second, .val (.long q4), .second, .val (.long q5), .second, .val (.int p6), .val (.int (1 : Int32)), .val (.int zm), .val (.long y1), .second, .val (.long y2), .second, .val (.long y3), .second, .val (.long y4), .second, .unset, .unset, .unset, .unset, .unset, .unset, .unset, .unset, .unset, .unset] [(.int p6)]))
    refine own_go (fun _ => XS.i2dS X0.here hx rfl (hb hby at_92) rfl rfl) ?_
    show own_Go p.tables e below _ (s₁.setTop (mkF m 93 #[.val (.int p1), .val (.long q2), .second, .val (.long q3), .second, .val (.long q4), .second, .val (.long q5), .second, .val (.int p6), .val (.int (1 : Int32)), .val (.int zm), .val (.long y1), .second, .val (.long y2), .second, .val (.long y3), .second, .val (.long y4), .second, .unset, .unset, .unset, .unset, .unset, .unset, .unset, .unset, .unset, .unset] [(.double (FP.i2d p6))]))
    refine own_go (fun _ => XS.dstore X0.here hx rfl (hb hby at_93) rfl (l' := #[.val (.int p1), .val (.long q2), .second, .val (.long q3), .second, .val (.long q4), .second, .val (.long q5), .second, .val (.int p6), .val (.int (1 : Int32)), .val (.int zm), .val (.long y1), .second, .val (.long y2), .second, .val (.long y3), .second, .val (.long y4), .second, .val (.double (FP.i2d p6)), .second, .unset, .unset, .unset, .unset, .unset, .unset, .unset, .unset]) rfl) ?_
    show own_Go p.tables e below _ (s₁.setTop (mkF m 95 #[.val (.int p1), .val (.long q2), .second, .val (.long q3), .second, .val (.long q4), .second, .val (.long q5), .second, .val (.int p6), .val (.int (1 : Int32)), .val (.int zm), .val (.long y1), .second, .val (.long y2), .second, .val (.long y3), .second, .val (.long y4), .second, .val (.double (FP.i2d p6)), .second, .unset, .unset, .unset, .unset, .unset, .unset, .unset, .unset] []))
    refine own_go (fun _ => XS.iload X0.here hx rfl (hb hby at_95) rfl) ?_
    show own_Go p.tables e below _ (s₁.setTop (mkF m 97 #[.val (.int p1), .val (.long q2), .second, .val (.long q3), .second, .val (.long q4), .second, .val (.long q5), .second, .val (.int p6), .val (.int (1 : Int32)), .val (.int zm), .val (.long y1), .second, .val (.long y2), .second, .val (.long y3), .second, .val (.long y4), .second, .val (.double (FP.i2d p6)), .second, .unset, .unset, .unset, .unset, .unset, .unset, .unset, .unset] [(.int p6)]))
    refine own_go (fun _ => XS.iconst X0.here hx rfl (hb hby at_97)) ?_
    show own_Go p.tables e below _ (s₁.setTop (mkF m 98 #[.val (.int p1), .val (.long q2), .second, .val (.long q3), .second, .val (.long q4), .second, .val (.long q5), .second, .val (.int p6), .val (.int (1 : Int32)), .val (.int zm), .val (.long y1), .second, .val (.long y2), .second, .val (.long y3), .second, .val (.long y4), .second, .val (.double (FP.i2d p6)), .second, .unset, .unset, .unset, .unset, .unset, .unset, .unset, .unset] [(.int (1 : Int32)), (.int p6)]))
    refine own_go (fun _ => XS.iadd X0.here hx rfl (hb hby at_98) rfl) ?_
    show own_Go p.tables e below _ (s₁.setTop (mkF m 99 #[.val (.int p1), .val (.long q2), .second, .val (.long q3), .second, .val (.long q4), .second, .val (.long q5), .second, .val (.int p6), .val (.int (1 : Int32)), .val (.int zm), .val (.long y1), .second, .val (.long y2), .second, .val (.long y3), .second, .val (.long y4), .second, .val (.double (FP.i2d p6)), .second, .unset, .unset, .unset, .unset, .unset, .unset, .unset, .unset] [(.int (p6 + (1 : Int32)))]))
    refine own_go (fun _ => XS.i2dS X0.here hx rfl (hb hby at_99) rfl rfl) ?_
    show own_Go p.tables e below _ (s₁.setTop (mkF m 100 #[.val (.int p1), .val (.long q2), .second, .val (.long q3), .second, .val (.long q4), .second, .val (.long q5), .second, .val (.int p6), .val (.int (1 : Int32)), .val (.int zm), .val (.long y1), .second, .val (.long y2), .second, .val (.long y3), .second, .val (.long y4), .second, .val (.double (FP.i2d p6)), .second, .unset, .unset, .unset, .unset, .unset, .unset, .unset, .unset] [(.double (FP.i2d (p6 + (1 : Int32))))]))
    refine own_go (fun _ => XS.dstore X0.here hx rfl (hb hby at_100) rfl (l' := #[.val (.int p1), .val (.long q2), .second, .val (.long q3), .second, .val (.long q4), .second, .val (.long q5), .second, .val (.int p6), .val (.int (1 : Int32)), .val (.int zm), .val (.long y1), .second, .val (.long y2), .second, .val (.long y3), .second, .val (.long y4), .second, .val (.double (FP.i2d p6)), .second, .val (.double (FP.i2d (p6 + (1 : Int32)))), .second, .unset, .unset, .unset, .unset, .unset, .unset]) rfl) ?_
    show own_Go p.tables e below _ (s₁.setTop (mkF m 102 #[.val (.int p1), .val (.long q2), .second, .val (.long q3), .second, .val (.long q4), .second, .val (.long q5), .second, .val (.int p6), .val (.int (1 : Int32)), .val (.int zm), .val (.long y1), .second, .val (.long y2), .second, .val (.long y3), .second, .val (.long y4), .second, .val (.double (FP.i2d p6)), .second, .val (.double (FP.i2d (p6 + (1 : Int32)))), .second, .unset, .unset, .unset, .unset, .unset, .unset] []))
    refine own_go (fun _ => XS.iload X0.here hx rfl (hb hby at_102) rfl) ?_
    show own_Go p.tables e below _ (s₁.setTop (mkF m 104 #[.val (.int p1), .val (.long q2), .second, .val (.long q3), .second, .val (.long q4), .second, .val (.long q5), .second, .val (.int p6), .val (.int (1 : Int32)), .val (.int zm), .val (.long y1), .second, .val (.long y2), .second, .val (.long y3), .second, .val (.long y4), .second, .val (.double (FP.i2d p6)), .second, .val (.double (FP.i2d (p6 + (1 : Int32)))), .second, .unset, .unset, .unset, .unset, .unset, .unset] [(.int p6)]))
    refine own_go (fun _ => XS.iconst X0.here hx rfl (hb hby at_104)) ?_
    show own_Go p.tables e below _ (s₁.setTop (mkF m 105 #[.val (.int p1), .val (.long q2), .second, .val (.long q3), .second, .val (.long q4), .second, .val (.long q5), .second, .val (.int p6), .val (.int (1 : Int32)), .val (.int zm), .val (.long y1), .second, .val (.long y2), .second, .val (.long y3), .second, .val (.long y4), .second, .val (.double (FP.i2d p6)), .second, .val (.double (FP.i2d (p6 + (1 : Int32)))), .second, .unset, .unset, .unset, .unset, .unset, .unset] [(.int (2 : Int32)), (.int p6)]))
    refine own_go (fun _ => XS.iadd X0.here hx rfl (hb hby at_105) rfl) ?_
    show own_Go p.tables e below _ (s₁.setTop (mkF m 106 #[.val (.int p1), .val (.long q2), .second, .val (.long q3), .second, .val (.long q4), .second, .val (.long q5), .second, .val (.int p6), .val (.int (1 : Int32)), .val (.int zm), .val (.long y1), .second, .val (.long y2), .second, .val (.long y3), .second, .val (.long y4), .second, .val (.double (FP.i2d p6)), .second, .val (.double (FP.i2d (p6 + (1 : Int32)))), .second, .unset, .unset, .unset, .unset, .unset, .unset] [(.int (p6 + (2 : Int32)))]))
    refine own_go (fun _ => XS.i2dS X0.here hx rfl (hb hby at_106) rfl rfl) ?_
    show own_Go p.tables e below _ (s₁.setTop (mkF m 107 #[.val (.int p1), .val (.long q2), .second, .val (.long q3), .second, .val (.long q4), .second, .val (.long q5), .second, .val (.int p6), .val (.int (1 : Int32)), .val (.int zm), .val (.long y1), .second, .val (.long y2), .second, .val (.long y3), .second, .val (.long y4), .second, .val (.double (FP.i2d p6)), .second, .val (.double (FP.i2d (p6 + (1 : Int32)))), .second, .unset, .unset, .unset, .unset, .unset, .unset] [(.double (FP.i2d (p6 + (2 : Int32))))]))
    refine own_go (fun _ => XS.dstore X0.here hx rfl (hb hby at_107) rfl (l' := #[.val (.int p1), .val (.long q2), .second, .val (.long q3), .second, .val (.long q4), .second, .val (.long q5), .second, .val (.int p6), .val (.int (1 : Int32)), .val (.int zm), .val (.long y1), .second, .val (.long y2), .second, .val (.long y3), .second, .val (.long y4), .second, .val (.double (FP.i2d p6)), .second, .val (.double (FP.i2d (p6 + (1 : Int32)))), .second, .val (.double (FP.i2d (p6 + (2 : Int32)))), .second, .unset, .unset, .unset, .unset]) rfl) ?_
    show own_Go p.tables e below _ (s₁.setTop (mkF m 109 #[.val (.int p1), .val (.long q2), .second, .val (.long q3), .second, .val (.long q4), .second, .val (.long q5), .second, .val (.int p6), .val (.int (1 : Int32)), .val (.int zm), .val (.long y1), .second, .val (.long y2), .second, .val (.long y3), .second, .val (.long y4), .second, .val (.double (FP.i2d p6)), .second, .val (.double (FP.i2d (p6 + (1 : Int32)))), .second, .val (.double (FP.i2d (p6 + (2 : Int32)))), .second, .unset, .unset, .unset, .unset] []))
    obtain ⟨z1, ez1⟩ : ∃ z, z = (FP.i2d p6) := ⟨_, rfl⟩
    have hz1 : cmpValue (FP.dcmp z1 z1) .l = 0 := ez1.symm ▸ own_i2dS _
    rw [← ez1]
    obtain ⟨z2, ez2⟩ : ∃ z, z = (FP.i2d (p6 + (1 : Int32))) := ⟨_, rfl⟩
    have hz2 : cmpValue (FP.dcmp z2 z2) .l = 0 := ez2.symm ▸ own_i2dS _
    rw [← ez2]
    obtain ⟨z3, ez3⟩ : ∃ z, z = (FP.i2d (p6 + (2 : Int32))) := ⟨_, rfl⟩
    have hz3 : cmpValue (FP.dcmp z3 z3) .l = 0 := ez3.symm ▸ own_i2dS _
    rw [← ez3]
    show own_Go p.tables e below _ (s₁.setTop (mkF m 109 #[.val (.int p1), .val (.long q2), .second, .val (.long q3), .second, .val (.long q4), .second, .val (.long q5), .second, .val (.int p6), .val (.int (1 : Int32)), .val (.int zm), .val (.long y1), .second, .val (.long y2), .second, .val (.long y3), .second, .val (.long y4), .second, .val (.double z1), .second, .val (.double z2), .second, .val (.double z3), .second, .unset, .unset, .unset, .unset] []))
    obtain ⟨T17, h17, X17, e17, E17, A17, D17, -, st17⟩ := newO X0 hx hZ hown (hw _ (List.mem_of_getElem? (i := 1) rfl)) (hw _ (List.mem_of_getElem? (i := 2) rfl)) (hw _ (List.mem_of_getElem? (i := 3) rfl)) e0 (g := (mkF m 109 #[.val (.int p1), .val (.long q2), .second, .val (.long q3), .second, .val (.long q4), .second, .val (.long q5), .second, .val (.int p6), .val (.int (1 : Int32)), .val (.int zm), .val (.long y1), .second, .val (.long y2), .second, .val (.long y3), .second, .val (.long y4), .second, .val (.double z1), .second, .val (.double z2), .second, .val (.double z3), .second, .unset, .unset, .unset, .unset] [])) rfl (hb hby at_109) (by decide) (by decide)
    obtain ⟨b17, g17⟩ : ∃ z, z = h0.size := ⟨_, rfl⟩
    rw [← g17] at A17 D17 st17
    refine own_go st17 ?_
    have g_b17 : n0 ≤ b17 := Nat.le_trans Z0 (Nat.le_of_eq g17.symm)
    have sz_b17 : h0.size ≤ b17 := (Nat.le_trans (Keep.refl h0 []).1 (Nat.le_of_eq g17.symm))
    have K17 : Keep h0 h17 [] := (Keep.refl h0 []).ext E17
    have F_most_b17 : Fld Z h17 b17 "com/example/outis/outis/clustering/KeptCharges" "most" "I" (.int (0 : Int32)) := D17 (Or.inr (hw _ (List.mem_of_getElem? (i := 11) rfl))) (ty := .int) (by decide)
    have F_keys_b17 : Fld Z h17 b17 "com/example/outis/outis/clustering/KeptCharges" "keys" "[J" .null := D17 (Or.inl (hw _ (List.mem_of_getElem? (i := 18) rfl))) (ty := (.array .long)) (by decide)
    have F_charges_b17 : Fld Z h17 b17 "com/example/outis/outis/clustering/KeptCharges" "charges" "[D" .null := D17 (Or.inl (hw _ (List.mem_of_getElem? (i := 26) rfl))) (ty := (.array .double)) (by decide)
    have F_bits_b17 : Fld Z h17 b17 "com/example/outis/outis/clustering/KeptCharges" "bits" "I" (.int (0 : Int32)) := D17 (Or.inl (hw _ (List.mem_of_getElem? (i := 33) rfl))) (ty := .int) (by decide)
    have F_size_b17 : Fld Z h17 b17 "com/example/outis/outis/clustering/KeptCharges" "size" "I" (.int (0 : Int32)) := D17 (Or.inl (hw _ (List.mem_of_getElem? (i := 55) rfl))) (ty := .int) (by decide)
    show own_Go p.tables e below _ (T17.setTop (mkF m 112 #[.val (.int p1), .val (.long q2), .second, .val (.long q3), .second, .val (.long q4), .second, .val (.long q5), .second, .val (.int p6), .val (.int (1 : Int32)), .val (.int zm), .val (.long y1), .second, .val (.long y2), .second, .val (.long y3), .second, .val (.long y4), .second, .val (.double z1), .second, .val (.double z2), .second, .val (.double z3), .second, .unset, .unset, .unset, .unset] [(.ref b17)]))
    refine own_go (fun _ => XS.dup X17.here hx rfl (hb hby at_112) rfl rfl) ?_
    show own_Go p.tables e below _ (T17.setTop (mkF m 113 #[.val (.int p1), .val (.long q2), .second, .val (.long q3), .second, .val (.long q4), .second, .val (.long q5), .second, .val (.int p6), .val (.int (1 : Int32)), .val (.int zm), .val (.long y1), .second, .val (.long y2), .second, .val (.long y3), .second, .val (.long y4), .second, .val (.double z1), .second, .val (.double z2), .second, .val (.double z3), .second, .unset, .unset, .unset, .unset] [(.ref b17), (.ref b17)]))
    refine own_go (fun _ => XS.iload X17.here hx rfl (hb hby at_113) rfl) ?_
    show own_Go p.tables e below _ (T17.setTop (mkF m 115 #[.val (.int p1), .val (.long q2), .second, .val (.long q3), .second, .val (.long q4), .second, .val (.long q5), .second, .val (.int p6), .val (.int (1 : Int32)), .val (.int zm), .val (.long y1), .second, .val (.long y2), .second, .val (.long y3), .second, .val (.long y4), .second, .val (.double z1), .second, .val (.double z2), .second, .val (.double z3), .second, .unset, .unset, .unset, .unset] [(.int zm), (.ref b17), (.ref b17)]))
    obtain ⟨v18, T18, L18, X18, hQ18, st18⟩ := own_tidyV X17 (X17.specialBack hx (y := (⟨"com/example/outis/outis/clustering/KeptCharges", "<init>", "(I)V"⟩ : MethodName)) rfl hown (mvT hZ (hw _ (List.mem_of_getElem? (i := 4) rfl))) (mvT hZ (hw _ (List.mem_of_getElem? (i := 5) rfl))) (mvT hZ (hw _ (List.mem_of_getElem? (i := 6) rfl))) (by decide) (backOf (W := 1) (rm1 l Z a0 hw [] b17 zm (.int (0 : Int32)) (.int (0 : Int32)) .null .null (.int (0 : Int32)) h17 n0 (Nat.le_trans Z0 E17.1) F_size_b17 A17 F_most_b17 g_b17 F_keys_b17 F_charges_b17 F_bits_b17) hZ (hw _ (List.mem_of_getElem? (i := 6) rfl)) (hw _ (List.mem_of_getElem? (i := 3) rfl)) (by decide) (by decide)) (g := (mkF m 115 #[.val (.int p1), .val (.long q2), .second, .val (.long q3), .second, .val (.long q4), .second, .val (.long q5), .second, .val (.int p6), .val (.int (1 : Int32)), .val (.int zm), .val (.long y1), .second, .val (.long y2), .second, .val (.long y3), .second, .val (.long y4), .second, .val (.double z1), .second, .val (.double z2), .second, .val (.double z3), .second, .unset, .unset, .unset, .unset] [(.int zm), (.ref b17), (.ref b17)])) rfl (by rw [hml]; rfl) (Steps.refl _) (a := b17) (argsL := [(.int zm)]) (rest := [(.ref b17)]) (lenOf pd_0 rfl) rfl (by show 2 * 0 + _ ≤ _; exact Nat.le_of_eq rfl) (hb hby at_115) (fun _ _ => ⟨rfl, e17, (by decide : 1 + 2 ≤ _), (by decide : 5 + 32 ≤ _)⟩)) (c' := 3) (n' := 37) rfl rfl
    obtain ⟨rfl, N18q, Kc18, e18_0, e18_1, kc18_0, kc18_1, g_e18_0, se_e18_0, g_e18_1, se_e18_1, ne18_0_1, F18_0, F18_1, F18_2, F18_3, F18_4, F18_5, F18_6, F18_7, F18_8⟩ := hQ18
    have N18 := Fr.app N0 N18q
    refine own_via st18 ?_
    have K18 : Keep h0 T18.heap [] := K17.trans Kc18 (allS (Or.inr sz_b17) all0)
    have sz_e18_0 : h0.size ≤ e18_0 := Nat.le_trans K17.1 se_e18_0
    have sz_e18_1 : h0.size ≤ e18_1 := Nat.le_trans K17.1 se_e18_1
    show own_Go p.tables e below _ (T18.setTop (mkF m 118 #[.val (.int p1), .val (.long q2), .second, .val (.long q3), .second, .val (.long q4), .second, .val (.long q5), .second, .val (.int p6), .val (.int (1 : Int32)), .val (.int zm), .val (.long y1), .second, .val (.long y2), .second, .val (.long y3), .second, .val (.long y4), .second, .val (.double z1), .second, .val (.double z2), .second, .val (.double z3), .second, .unset, .unset, .unset, .unset] [(.ref b17)]))
    refine own_go (fun _ => XS.astore X18.here hx rfl (hb hby at_118) rfl rfl (l' := #[.val (.int p1), .val (.long q2), .second, .val (.long q3), .second, .val (.long q4), .second, .val (.long q5), .second, .val (.int p6), .val (.int (1 : Int32)), .val (.int zm), .val (.long y1), .second, .val (.long y2), .second, .val (.long y3), .second, .val (.long y4), .second, .val (.double z1), .second, .val (.double z2), .second, .val (.double z3), .second, .val (.ref b17), .unset, .unset, .unset]) rfl) ?_
    show own_Go p.tables e below _ (T18.setTop (mkF m 120 #[.val (.int p1), .val (.long q2), .second, .val (.long q3), .second, .val (.long q4), .second, .val (.long q5), .second, .val (.int p6), .val (.int (1 : Int32)), .val (.int zm), .val (.long y1), .second, .val (.long y2), .second, .val (.long y3), .second, .val (.long y4), .second, .val (.double z1), .second, .val (.double z2), .second, .val (.double z3), .second, .val (.ref b17), .unset, .unset, .unset] []))
    refine own_go (fun _ => XS.iload X18.here hx rfl (hb hby at_120) rfl) ?_
    show own_Go p.tables e below _ (T18.setTop (mkF m 122 #[.val (.int p1), .val (.long q2), .second, .val (.long q3), .second, .val (.long q4), .second, .val (.long q5), .second, .val (.int p6), .val (.int (1 : Int32)), .val (.int zm), .val (.long y1), .second, .val (.long y2), .second, .val (.long y3), .second, .val (.long y4), .second, .val (.double z1), .second, .val (.double z2), .second, .val (.double z3), .second, .val (.ref b17), .unset, .unset, .unset] [(.int (1 : Int32))]))
    refine own_go (fun _ => XS.iconst X18.here hx rfl (hb hby at_122)) ?_
    show own_Go p.tables e below _ (T18.setTop (mkF m 123 #[.val (.int p1), .val (.long q2), .second, .val (.long q3), .second, .val (.long q4), .second, .val (.long q5), .second, .val (.int p6), .val (.int (1 : Int32)), .val (.int zm), .val (.long y1), .second, .val (.long y2), .second, .val (.long y3), .second, .val (.long y4), .second, .val (.double z1), .second, .val (.double z2), .second, .val (.double z3), .second, .val (.ref b17), .unset, .unset, .unset] [(.int (1 : Int32)), (.int (1 : Int32))]))
    refine own_go (fun _ => XS.icmpNo X18.here hx rfl (hb hby at_123) rfl (flt (by decide : ¬ ((1 : Int32) < (1 : Int32)))).1) ?_
    show own_Go p.tables e below _ (T18.setTop (mkF m 126 #[.val (.int p1), .val (.long q2), .second, .val (.long q3), .second, .val (.long q4), .second, .val (.long q5), .second, .val (.int p6), .val (.int (1 : Int32)), .val (.int zm), .val (.long y1), .second, .val (.long y2), .second, .val (.long y3), .second, .val (.long y4), .second, .val (.double z1), .second, .val (.double z2), .second, .val (.double z3), .second, .val (.ref b17), .unset, .unset, .unset] []))
    refine own_go (fun _ => XS.aload X18.here hx rfl (hb hby at_126) rfl rfl) ?_
    show own_Go p.tables e below _ (T18.setTop (mkF m 128 #[.val (.int p1), .val (.long q2), .second, .val (.long q3), .second, .val (.long q4), .second, .val (.long q5), .second, .val (.int p6), .val (.int (1 : Int32)), .val (.int zm), .val (.long y1), .second, .val (.long y2), .second, .val (.long y3), .second, .val (.long y4), .second, .val (.double z1), .second, .val (.double z2), .second, .val (.double z3), .second, .val (.ref b17), .unset, .unset, .unset] [(.ref b17)]))
    refine own_go (fun _ => XS.lload X18.here hx rfl (hb hby at_128) rfl) ?_
    show own_Go p.tables e below _ (T18.setTop (mkF m 130 #[.val (.int p1), .val (.long q2), .second, .val (.long q3), .second, .val (.long q4), .second, .val (.long q5), .second, .val (.int p6), .val (.int (1 : Int32)), .val (.int zm), .val (.long y1), .second, .val (.long y2), .second, .val (.long y3), .second, .val (.long y4), .second, .val (.double z1), .second, .val (.double z2), .second, .val (.double z3), .second, .val (.ref b17), .unset, .unset, .unset] [(.long y1), (.ref b17)]))
    refine own_go (fun _ => XS.dload X18.here hx rfl (hb hby at_130) rfl) ?_
    show own_Go p.tables e below _ (T18.setTop (mkF m 132 #[.val (.int p1), .val (.long q2), .second, .val (.long q3), .second, .val (.long q4), .second, .val (.long q5), .second, .val (.int p6), .val (.int (1 : Int32)), .val (.int zm), .val (.long y1), .second, .val (.long y2), .second, .val (.long y3), .second, .val (.long y4), .second, .val (.double z1), .second, .val (.double z2), .second, .val (.double z3), .second, .val (.ref b17), .unset, .unset, .unset] [(.double z1), (.long y1), (.ref b17)]))
    obtain ⟨cq19, kq19, q19a, q19b, q19c⟩ := isOf hZ rfl F18_0
    obtain ⟨v19, T19, L19, X19, hQ19, st19⟩ := own_tidyV X18 (X18.virtualBack hx (y := (⟨"com/example/outis/outis/clustering/KeptCharges", "put", "(JD)V"⟩ : MethodName)) (z := (⟨"com/example/outis/outis/clustering/KeptCharges", "put", "(JD)V"⟩ : MethodName)) hown (mvT hZ (hw _ (List.mem_of_getElem? (i := 49) rfl))) (mvT hZ (hw _ (List.mem_of_getElem? (i := 50) rfl))) (notFace_of_selects (args := #[]) (mvT hZ (hw _ (List.mem_of_getElem? (i := 52) rfl)))) (mvT hZ (hw _ (List.mem_of_getElem? (i := 52) rfl))) (mvT hZ (hw _ (List.mem_of_getElem? (i := 51) rfl))) (by decide) (backOf (W := 0) (rm9 l Z a0 hw [] b17 y1 z1 (0 : Int32) zm e18_0 e18_1 (fun _ => (-1 : Int64)) (fun _ => 0) kc18_0 kc18_1 T18.heap n0 (Nat.le_trans (Nat.le_trans Z0 E17.1) Kc18.1) F18_6 F18_1 F18_4 F18_2 F18_3 F18_0 F18_7 F18_8 ne18_0_1 (by decide) (fun _ => own_finN _) g_b17 g_e18_0 g_e18_1) hZ (hw _ (List.mem_of_getElem? (i := 53) rfl)) (hw _ (List.mem_of_getElem? (i := 3) rfl)) (by decide) (by decide)) q19a q19c (g := (mkF m 132 #[.val (.int p1), .val (.long q2), .second, .val (.long q3), .second, .val (.long q4), .second, .val (.long q5), .second, .val (.int p6), .val (.int (1 : Int32)), .val (.int zm), .val (.long y1), .second, .val (.long y2), .second, .val (.long y3), .second, .val (.long y4), .second, .val (.double z1), .second, .val (.double z2), .second, .val (.double z3), .second, .val (.ref b17), .unset, .unset, .unset] [(.double z1), (.long y1), (.ref b17)])) rfl (by rw [hml]; rfl) (Steps.refl _) (argsL := [(.long y1), (.double z1)]) (rest := []) (lenOf pd_7 rfl) rfl (by show 2 * 0 + _ ≤ _; exact Nat.le_of_eq rfl) (hb hby at_132) (fun _ _ => ⟨rfl, rfl, (by decide : 3 + 0 ≤ _), (by decide : 37 + 0 ≤ _)⟩)) (c' := 3) (n' := 37) rfl rfl
    obtain ⟨rfl, N19q, Kc19, F19_0, F19_1, F19_2, F19_3, F19_4, F19_5, F19_6, F19_7⟩ := hQ19
    have N19 := Fr.app N18 N19q
    refine own_via st19 ?_
    have K19 : Keep h0 T19.heap [] := K18.trans Kc19 (allS (Or.inr sz_e18_0) (allS (Or.inr sz_b17) (allS (Or.inr sz_e18_1) all0)))
    have J1 : own_J (own_l1 zm y1 z1) (own_nk (0 : Int32) zm (fun _ => (-1 : Int64)) y1) (own_nd (0 : Int32) zm (fun _ => (-1 : Int64)) (fun _ => 0) y1 z1) := own_J1 _ hy1 _ _
    obtain ⟨fk1, efk1⟩ : ∃ z, z = (own_nk (0 : Int32) zm (fun _ => (-1 : Int64)) y1) := ⟨_, rfl⟩
    rw [← efk1] at J1 F19_6
    obtain ⟨gk1, egk1⟩ : ∃ z, z = (own_nd (0 : Int32) zm (fun _ => (-1 : Int64)) (fun _ => 0) y1 z1) := ⟨_, rfl⟩
    rw [← egk1] at J1 F19_7
    show own_Go p.tables e below _ (T19.setTop (mkF m 135 #[.val (.int p1), .val (.long q2), .second, .val (.long q3), .second, .val (.long q4), .second, .val (.long q5), .second, .val (.int p6), .val (.int (1 : Int32)), .val (.int zm), .val (.long y1), .second, .val (.long y2), .second, .val (.long y3), .second, .val (.long y4), .second, .val (.double z1), .second, .val (.double z2), .second, .val (.double z3), .second, .val (.ref b17), .unset, .unset, .unset] []))
    refine own_go (fun _ => XS.iload X19.here hx rfl (hb hby at_135) rfl) ?_
    show own_Go p.tables e below _ (T19.setTop (mkF m 137 #[.val (.int p1), .val (.long q2), .second, .val (.long q3), .second, .val (.long q4), .second, .val (.long q5), .second, .val (.int p6), .val (.int (1 : Int32)), .val (.int zm), .val (.long y1), .second, .val (.long y2), .second, .val (.long y3), .second, .val (.long y4), .second, .val (.double z1), .second, .val (.double z2), .second, .val (.double z3), .second, .val (.ref b17), .unset, .unset, .unset] [(.int (1 : Int32))]))
    refine own_go (fun _ => XS.iconst X19.here hx rfl (hb hby at_137)) ?_
    show own_Go p.tables e below _ (T19.setTop (mkF m 138 #[.val (.int p1), .val (.long q2), .second, .val (.long q3), .second, .val (.long q4), .second, .val (.long q5), .second, .val (.int p6), .val (.int (1 : Int32)), .val (.int zm), .val (.long y1), .second, .val (.long y2), .second, .val (.long y3), .second, .val (.long y4), .second, .val (.double z1), .second, .val (.double z2), .second, .val (.double z3), .second, .val (.ref b17), .unset, .unset, .unset] [(.int (2 : Int32)), (.int (1 : Int32))]))
    refine own_go (fun _ => XS.icmpYes X19.here hx rfl (pc0 := 138) (pc' := 150) rfl (hb hby at_138) rfl (tlt (by decide : (1 : Int32) < (2 : Int32))).1 (by decide) (by decide)) ?_
    show own_Go p.tables e below _ (T19.setTop (mkF m 150 #[.val (.int p1), .val (.long q2), .second, .val (.long q3), .second, .val (.long q4), .second, .val (.long q5), .second, .val (.int p6), .val (.int (1 : Int32)), .val (.int zm), .val (.long y1), .second, .val (.long y2), .second, .val (.long y3), .second, .val (.long y4), .second, .val (.double z1), .second, .val (.double z2), .second, .val (.double z3), .second, .val (.ref b17), .unset, .unset, .unset] []))
    refine own_go (fun _ => XS.iload X19.here hx rfl (hb hby at_150) rfl) ?_
    show own_Go p.tables e below _ (T19.setTop (mkF m 152 #[.val (.int p1), .val (.long q2), .second, .val (.long q3), .second, .val (.long q4), .second, .val (.long q5), .second, .val (.int p6), .val (.int (1 : Int32)), .val (.int zm), .val (.long y1), .second, .val (.long y2), .second, .val (.long y3), .second, .val (.long y4), .second, .val (.double z1), .second, .val (.double z2), .second, .val (.double z3), .second, .val (.ref b17), .unset, .unset, .unset] [(.int (1 : Int32))]))
    refine own_go (fun _ => XS.iconst X19.here hx rfl (hb hby at_152)) ?_
    show own_Go p.tables e below _ (T19.setTop (mkF m 153 #[.val (.int p1), .val (.long q2), .second, .val (.long q3), .second, .val (.long q4), .second, .val (.long q5), .second, .val (.int p6), .val (.int (1 : Int32)), .val (.int zm), .val (.long y1), .second, .val (.long y2), .second, .val (.long y3), .second, .val (.long y4), .second, .val (.double z1), .second, .val (.double z2), .second, .val (.double z3), .second, .val (.ref b17), .unset, .unset, .unset] [(.int (3 : Int32)), (.int (1 : Int32))]))
    refine own_go (fun _ => XS.icmpYes X19.here hx rfl (pc0 := 153) (pc' := 165) rfl (hb hby at_153) rfl (tlt (by decide : (1 : Int32) < (3 : Int32))).1 (by decide) (by decide)) ?_
    show own_Go p.tables e below _ (T19.setTop (mkF m 165 #[.val (.int p1), .val (.long q2), .second, .val (.long q3), .second, .val (.long q4), .second, .val (.long q5), .second, .val (.int p6), .val (.int (1 : Int32)), .val (.int zm), .val (.long y1), .second, .val (.long y2), .second, .val (.long y3), .second, .val (.long y4), .second, .val (.double z1), .second, .val (.double z2), .second, .val (.double z3), .second, .val (.ref b17), .unset, .unset, .unset] []))
    refine own_go (fun _ => XS.iload X19.here hx rfl (hb hby at_165) rfl) ?_
    show own_Go p.tables e below _ (T19.setTop (mkF m 167 #[.val (.int p1), .val (.long q2), .second, .val (.long q3), .second, .val (.long q4), .second, .val (.long q5), .second, .val (.int p6), .val (.int (1 : Int32)), .val (.int zm), .val (.long y1), .second, .val (.long y2), .second, .val (.long y3), .second, .val (.long y4), .second, .val (.double z1), .second, .val (.double z2), .second, .val (.double z3), .second, .val (.ref b17), .unset, .unset, .unset] [(.int (1 : Int32))]))
    refine own_go (fun _ => XS.iconst X19.here hx rfl (hb hby at_167)) ?_
    refine own_go (S' := T19.setTop (mkF m 200 #[.val (.int p1), .val (.long q2), .second, .val (.long q3), .second, .val (.long q4), .second, .val (.long q5), .second, .val (.int p6), .val (.int (1 : Int32)), .val (.int zm), .val (.long y1), .second, .val (.long y2), .second, .val (.long y3), .second, .val (.long y4), .second, .val (.double z1), .second, .val (.double z2), .second, .val (.double z3), .second, .val (.ref b17), .unset, .unset, .unset] [(.int (1 : Int32))])) (fun t kt => ?_) ?_
    · skip
      show Steps p.tables e below (T19.setTop (mkF m 168 #[.val (.int p1), .val (.long q2), .second, .val (.long q3), .second, .val (.long q4), .second, .val (.long q5), .second, .val (.int p6), .val (.int (1 : Int32)), .val (.int zm), .val (.long y1), .second, .val (.long y2), .second, .val (.long y3), .second, .val (.long y4), .second, .val (.double z1), .second, .val (.double z2), .second, .val (.double z3), .second, .val (.ref b17), .unset, .unset, .unset] [(.int (1 : Int32)), (.int (1 : Int32))])) _
      refine XS.icmpYes X19.here hx rfl (pc0 := 168) (pc' := 195) rfl (hb hby at_168) rfl (teq (by decide : (1 : Int32) = (1 : Int32))).1 (by decide) (by decide) ?_
      show Steps p.tables e below (T19.setTop (mkF m 195 #[.val (.int p1), .val (.long q2), .second, .val (.long q3), .second, .val (.long q4), .second, .val (.long q5), .second, .val (.int p6), .val (.int (1 : Int32)), .val (.int zm), .val (.long y1), .second, .val (.long y2), .second, .val (.long y3), .second, .val (.long y4), .second, .val (.double z1), .second, .val (.double z2), .second, .val (.double z3), .second, .val (.ref b17), .unset, .unset, .unset] [])) _
      refine XS.iconst X19.here hx rfl (hb hby at_195) ?_
      show Steps p.tables e below (T19.setTop (mkF m 196 #[.val (.int p1), .val (.long q2), .second, .val (.long q3), .second, .val (.long q4), .second, .val (.long q5), .second, .val (.int p6), .val (.int (1 : Int32)), .val (.int zm), .val (.long y1), .second, .val (.long y2), .second, .val (.long y3), .second, .val (.long y4), .second, .val (.double z1), .second, .val (.double z2), .second, .val (.double z3), .second, .val (.ref b17), .unset, .unset, .unset] [(.int (1 : Int32))])) _
      refine XS.goto X19.here hx rfl (pc0 := 196) (pc' := 200) rfl (hb hby at_196) (by decide) (by decide) ?_
      show Steps p.tables e below (T19.setTop (mkF m 200 #[.val (.int p1), .val (.long q2), .second, .val (.long q3), .second, .val (.long q4), .second, .val (.long q5), .second, .val (.int p6), .val (.int (1 : Int32)), .val (.int zm), .val (.long y1), .second, .val (.long y2), .second, .val (.long y3), .second, .val (.long y4), .second, .val (.double z1), .second, .val (.double z2), .second, .val (.double z3), .second, .val (.ref b17), .unset, .unset, .unset] [(.int (1 : Int32))])) _
      exact kt
    show own_Go p.tables e below _ (T19.setTop (mkF m 200 #[.val (.int p1), .val (.long q2), .second, .val (.long q3), .second, .val (.long q4), .second, .val (.long q5), .second, .val (.int p6), .val (.int (1 : Int32)), .val (.int zm), .val (.long y1), .second, .val (.long y2), .second, .val (.long y3), .second, .val (.long y4), .second, .val (.double z1), .second, .val (.double z2), .second, .val (.double z3), .second, .val (.ref b17), .unset, .unset, .unset] [(.int (1 : Int32))]))
    refine own_go (fun _ => XS.istore X19.here hx rfl (hb hby at_200) rfl (l' := #[.val (.int p1), .val (.long q2), .second, .val (.long q3), .second, .val (.long q4), .second, .val (.long q5), .second, .val (.int p6), .val (.int (1 : Int32)), .val (.int zm), .val (.long y1), .second, .val (.long y2), .second, .val (.long y3), .second, .val (.long y4), .second, .val (.double z1), .second, .val (.double z2), .second, .val (.double z3), .second, .val (.ref b17), .val (.int (1 : Int32)), .unset, .unset]) rfl) ?_
    show own_Go p.tables e below _ (T19.setTop (mkF m 202 #[.val (.int p1), .val (.long q2), .second, .val (.long q3), .second, .val (.long q4), .second, .val (.long q5), .second, .val (.int p6), .val (.int (1 : Int32)), .val (.int zm), .val (.long y1), .second, .val (.long y2), .second, .val (.long y3), .second, .val (.long y4), .second, .val (.double z1), .second, .val (.double z2), .second, .val (.double z3), .second, .val (.ref b17), .val (.int (1 : Int32)), .unset, .unset] []))
    refine own_go (fun _ => XS.iload X19.here hx rfl (hb hby at_202) rfl) ?_
    show own_Go p.tables e below _ (T19.setTop (mkF m 204 #[.val (.int p1), .val (.long q2), .second, .val (.long q3), .second, .val (.long q4), .second, .val (.long q5), .second, .val (.int p6), .val (.int (1 : Int32)), .val (.int zm), .val (.long y1), .second, .val (.long y2), .second, .val (.long y3), .second, .val (.long y4), .second, .val (.double z1), .second, .val (.double z2), .second, .val (.double z3), .second, .val (.ref b17), .val (.int (1 : Int32)), .unset, .unset] [(.int (1 : Int32))]))
    refine own_go (fun _ => XS.iconst X19.here hx rfl (hb hby at_204)) ?_
    refine own_go (S' := T19.setTop (mkF m 225 #[.val (.int p1), .val (.long q2), .second, .val (.long q3), .second, .val (.long q4), .second, .val (.long q5), .second, .val (.int p6), .val (.int (1 : Int32)), .val (.int zm), .val (.long y1), .second, .val (.long y2), .second, .val (.long y3), .second, .val (.long y4), .second, .val (.double z1), .second, .val (.double z2), .second, .val (.double z3), .second, .val (.ref b17), .val (.int (1 : Int32)), .unset, .unset] [(.int (0 : Int32))])) (fun t kt => ?_) ?_
    · skip
      show Steps p.tables e below (T19.setTop (mkF m 205 #[.val (.int p1), .val (.long q2), .second, .val (.long q3), .second, .val (.long q4), .second, .val (.long q5), .second, .val (.int p6), .val (.int (1 : Int32)), .val (.int zm), .val (.long y1), .second, .val (.long y2), .second, .val (.long y3), .second, .val (.long y4), .second, .val (.double z1), .second, .val (.double z2), .second, .val (.double z3), .second, .val (.ref b17), .val (.int (1 : Int32)), .unset, .unset] [(.int (2 : Int32)), (.int (1 : Int32))])) _
      refine XS.icmpNo X19.here hx rfl (hb hby at_205) rfl (feq (by decide : ¬ ((1 : Int32) = (2 : Int32)))).1 ?_
      show Steps p.tables e below (T19.setTop (mkF m 208 #[.val (.int p1), .val (.long q2), .second, .val (.long q3), .second, .val (.long q4), .second, .val (.long q5), .second, .val (.int p6), .val (.int (1 : Int32)), .val (.int zm), .val (.long y1), .second, .val (.long y2), .second, .val (.long y3), .second, .val (.long y4), .second, .val (.double z1), .second, .val (.double z2), .second, .val (.double z3), .second, .val (.ref b17), .val (.int (1 : Int32)), .unset, .unset] [])) _
      refine XS.iload X19.here hx rfl (hb hby at_208) rfl ?_
      show Steps p.tables e below (T19.setTop (mkF m 210 #[.val (.int p1), .val (.long q2), .second, .val (.long q3), .second, .val (.long q4), .second, .val (.long q5), .second, .val (.int p6), .val (.int (1 : Int32)), .val (.int zm), .val (.long y1), .second, .val (.long y2), .second, .val (.long y3), .second, .val (.long y4), .second, .val (.double z1), .second, .val (.double z2), .second, .val (.double z3), .second, .val (.ref b17), .val (.int (1 : Int32)), .unset, .unset] [(.int (1 : Int32))])) _
      refine XS.iconst X19.here hx rfl (hb hby at_210) ?_
      show Steps p.tables e below (T19.setTop (mkF m 211 #[.val (.int p1), .val (.long q2), .second, .val (.long q3), .second, .val (.long q4), .second, .val (.long q5), .second, .val (.int p6), .val (.int (1 : Int32)), .val (.int zm), .val (.long y1), .second, .val (.long y2), .second, .val (.long y3), .second, .val (.long y4), .second, .val (.double z1), .second, .val (.double z2), .second, .val (.double z3), .second, .val (.ref b17), .val (.int (1 : Int32)), .unset, .unset] [(.int (3 : Int32)), (.int (1 : Int32))])) _
      refine XS.icmpYes X19.here hx rfl (pc0 := 211) (pc' := 224) rfl (hb hby at_211) rfl (feq (by decide : ¬ ((1 : Int32) = (3 : Int32)))).2 (by decide) (by decide) ?_
      show Steps p.tables e below (T19.setTop (mkF m 224 #[.val (.int p1), .val (.long q2), .second, .val (.long q3), .second, .val (.long q4), .second, .val (.long q5), .second, .val (.int p6), .val (.int (1 : Int32)), .val (.int zm), .val (.long y1), .second, .val (.long y2), .second, .val (.long y3), .second, .val (.long y4), .second, .val (.double z1), .second, .val (.double z2), .second, .val (.double z3), .second, .val (.ref b17), .val (.int (1 : Int32)), .unset, .unset] [])) _
      refine XS.iconst X19.here hx rfl (hb hby at_224) ?_
      show Steps p.tables e below (T19.setTop (mkF m 225 #[.val (.int p1), .val (.long q2), .second, .val (.long q3), .second, .val (.long q4), .second, .val (.long q5), .second, .val (.int p6), .val (.int (1 : Int32)), .val (.int zm), .val (.long y1), .second, .val (.long y2), .second, .val (.long y3), .second, .val (.long y4), .second, .val (.double z1), .second, .val (.double z2), .second, .val (.double z3), .second, .val (.ref b17), .val (.int (1 : Int32)), .unset, .unset] [(.int (0 : Int32))])) _
      exact kt
    show own_Go p.tables e below _ (T19.setTop (mkF m 225 #[.val (.int p1), .val (.long q2), .second, .val (.long q3), .second, .val (.long q4), .second, .val (.long q5), .second, .val (.int p6), .val (.int (1 : Int32)), .val (.int zm), .val (.long y1), .second, .val (.long y2), .second, .val (.long y3), .second, .val (.long y4), .second, .val (.double z1), .second, .val (.double z2), .second, .val (.double z3), .second, .val (.ref b17), .val (.int (1 : Int32)), .unset, .unset] [(.int (0 : Int32))]))
    refine own_go (fun _ => XS.istore X19.here hx rfl (hb hby at_225) rfl (l' := #[.val (.int p1), .val (.long q2), .second, .val (.long q3), .second, .val (.long q4), .second, .val (.long q5), .second, .val (.int p6), .val (.int (1 : Int32)), .val (.int zm), .val (.long y1), .second, .val (.long y2), .second, .val (.long y3), .second, .val (.long y4), .second, .val (.double z1), .second, .val (.double z2), .second, .val (.double z3), .second, .val (.ref b17), .val (.int (1 : Int32)), .val (.int (0 : Int32)), .unset]) rfl) ?_
    show own_Go p.tables e below _ (T19.setTop (mkF m 227 #[.val (.int p1), .val (.long q2), .second, .val (.long q3), .second, .val (.long q4), .second, .val (.long q5), .second, .val (.int p6), .val (.int (1 : Int32)), .val (.int zm), .val (.long y1), .second, .val (.long y2), .second, .val (.long y3), .second, .val (.long y4), .second, .val (.double z1), .second, .val (.double z2), .second, .val (.double z3), .second, .val (.ref b17), .val (.int (1 : Int32)), .val (.int (0 : Int32)), .unset] []))
    refine own_go (fun _ => XS.iload X19.here hx rfl (hb hby at_227) rfl) ?_
    show own_Go p.tables e below _ (T19.setTop (mkF m 229 #[.val (.int p1), .val (.long q2), .second, .val (.long q3), .second, .val (.long q4), .second, .val (.long q5), .second, .val (.int p6), .val (.int (1 : Int32)), .val (.int zm), .val (.long y1), .second, .val (.long y2), .second, .val (.long y3), .second, .val (.long y4), .second, .val (.double z1), .second, .val (.double z2), .second, .val (.double z3), .second, .val (.ref b17), .val (.int (1 : Int32)), .val (.int (0 : Int32)), .unset] [(.int (1 : Int32))]))
    refine own_go (fun _ => XS.iconst X19.here hx rfl (hb hby at_229)) ?_
    refine own_go (S' := T19.setTop (mkF m 238 #[.val (.int p1), .val (.long q2), .second, .val (.long q3), .second, .val (.long q4), .second, .val (.long q5), .second, .val (.int p6), .val (.int (1 : Int32)), .val (.int zm), .val (.long y1), .second, .val (.long y2), .second, .val (.long y3), .second, .val (.long y4), .second, .val (.double z1), .second, .val (.double z2), .second, .val (.double z3), .second, .val (.ref b17), .val (.int (1 : Int32)), .val (.int (0 : Int32)), .unset] [(.int (0 : Int32))])) (fun t kt => ?_) ?_
    · skip
      show Steps p.tables e below (T19.setTop (mkF m 230 #[.val (.int p1), .val (.long q2), .second, .val (.long q3), .second, .val (.long q4), .second, .val (.long q5), .second, .val (.int p6), .val (.int (1 : Int32)), .val (.int zm), .val (.long y1), .second, .val (.long y2), .second, .val (.long y3), .second, .val (.long y4), .second, .val (.double z1), .second, .val (.double z2), .second, .val (.double z3), .second, .val (.ref b17), .val (.int (1 : Int32)), .val (.int (0 : Int32)), .unset] [(.int (3 : Int32)), (.int (1 : Int32))])) _
      refine XS.icmpYes X19.here hx rfl (pc0 := 230) (pc' := 237) rfl (hb hby at_230) rfl (feq (by decide : ¬ ((1 : Int32) = (3 : Int32)))).2 (by decide) (by decide) ?_
      show Steps p.tables e below (T19.setTop (mkF m 237 #[.val (.int p1), .val (.long q2), .second, .val (.long q3), .second, .val (.long q4), .second, .val (.long q5), .second, .val (.int p6), .val (.int (1 : Int32)), .val (.int zm), .val (.long y1), .second, .val (.long y2), .second, .val (.long y3), .second, .val (.long y4), .second, .val (.double z1), .second, .val (.double z2), .second, .val (.double z3), .second, .val (.ref b17), .val (.int (1 : Int32)), .val (.int (0 : Int32)), .unset] [])) _
      refine XS.iconst X19.here hx rfl (hb hby at_237) ?_
      show Steps p.tables e below (T19.setTop (mkF m 238 #[.val (.int p1), .val (.long q2), .second, .val (.long q3), .second, .val (.long q4), .second, .val (.long q5), .second, .val (.int p6), .val (.int (1 : Int32)), .val (.int zm), .val (.long y1), .second, .val (.long y2), .second, .val (.long y3), .second, .val (.long y4), .second, .val (.double z1), .second, .val (.double z2), .second, .val (.double z3), .second, .val (.ref b17), .val (.int (1 : Int32)), .val (.int (0 : Int32)), .unset] [(.int (0 : Int32))])) _
      exact kt
    show own_Go p.tables e below _ (T19.setTop (mkF m 238 #[.val (.int p1), .val (.long q2), .second, .val (.long q3), .second, .val (.long q4), .second, .val (.long q5), .second, .val (.int p6), .val (.int (1 : Int32)), .val (.int zm), .val (.long y1), .second, .val (.long y2), .second, .val (.long y3), .second, .val (.long y4), .second, .val (.double z1), .second, .val (.double z2), .second, .val (.double z3), .second, .val (.ref b17), .val (.int (1 : Int32)), .val (.int (0 : Int32)), .unset] [(.int (0 : Int32))]))
    refine own_go (fun _ => XS.istore X19.here hx rfl (hb hby at_238) rfl (l' := #[.val (.int p1), .val (.long q2), .second, .val (.long q3), .second, .val (.long q4), .second, .val (.long q5), .second, .val (.int p6), .val (.int (1 : Int32)), .val (.int zm), .val (.long y1), .second, .val (.long y2), .second, .val (.long y3), .second, .val (.long y4), .second, .val (.double z1), .second, .val (.double z2), .second, .val (.double z3), .second, .val (.ref b17), .val (.int (1 : Int32)), .val (.int (0 : Int32)), .val (.int (0 : Int32))]) rfl) ?_
    show own_Go p.tables e below _ (T19.setTop (mkF m 240 #[.val (.int p1), .val (.long q2), .second, .val (.long q3), .second, .val (.long q4), .second, .val (.long q5), .second, .val (.int p6), .val (.int (1 : Int32)), .val (.int zm), .val (.long y1), .second, .val (.long y2), .second, .val (.long y3), .second, .val (.long y4), .second, .val (.double z1), .second, .val (.double z2), .second, .val (.double z3), .second, .val (.ref b17), .val (.int (1 : Int32)), .val (.int (0 : Int32)), .val (.int (0 : Int32))] []))
    refine own_go (fun _ => XS.aload X19.here hx rfl (hb hby at_240) rfl rfl) ?_
    show own_Go p.tables e below _ (T19.setTop (mkF m 242 #[.val (.int p1), .val (.long q2), .second, .val (.long q3), .second, .val (.long q4), .second, .val (.long q5), .second, .val (.int p6), .val (.int (1 : Int32)), .val (.int zm), .val (.long y1), .second, .val (.long y2), .second, .val (.long y3), .second, .val (.long y4), .second, .val (.double z1), .second, .val (.double z2), .second, .val (.double z3), .second, .val (.ref b17), .val (.int (1 : Int32)), .val (.int (0 : Int32)), .val (.int (0 : Int32))] [(.ref b17)]))
    refine own_go (fun _ => XS.lload X19.here hx rfl (hb hby at_242) rfl) ?_
    show own_Go p.tables e below _ (T19.setTop (mkF m 244 #[.val (.int p1), .val (.long q2), .second, .val (.long q3), .second, .val (.long q4), .second, .val (.long q5), .second, .val (.int p6), .val (.int (1 : Int32)), .val (.int zm), .val (.long y1), .second, .val (.long y2), .second, .val (.long y3), .second, .val (.long y4), .second, .val (.double z1), .second, .val (.double z2), .second, .val (.double z3), .second, .val (.ref b17), .val (.int (1 : Int32)), .val (.int (0 : Int32)), .val (.int (0 : Int32))] [(.long y1), (.ref b17)]))
    obtain ⟨cq20, kq20, q20a, q20b, q20c⟩ := isOf hZ rfl F19_0
    obtain ⟨v20, T20, L20, X20, hQ20, st20⟩ := own_tidyV X19 (X19.virtualBack hx (y := (⟨"com/example/outis/outis/clustering/KeptCharges", "get", "(J)D"⟩ : MethodName)) (z := (⟨"com/example/outis/outis/clustering/KeptCharges", "get", "(J)D"⟩ : MethodName)) hown (mvT hZ (hw _ (List.mem_of_getElem? (i := 34) rfl))) (mvT hZ (hw _ (List.mem_of_getElem? (i := 35) rfl))) (notFace_of_selects (args := #[]) (mvT hZ (hw _ (List.mem_of_getElem? (i := 37) rfl)))) (mvT hZ (hw _ (List.mem_of_getElem? (i := 37) rfl))) (mvT hZ (hw _ (List.mem_of_getElem? (i := 36) rfl))) (by decide) (backOf (W := 0) (rm6 l Z a0 hw [] b17 y1 e18_0 e18_1 fk1 gk1 kc18_0 kc18_1 T19.heap n0 (Nat.le_trans (Nat.le_trans (Nat.le_trans Z0 E17.1) Kc18.1) Kc19.1) F19_3 F19_4 F19_5 F19_0 F19_6 F19_7 (own_J.fin J1 own_le1 _)) hZ (hw _ (List.mem_of_getElem? (i := 38) rfl)) (hw _ (List.mem_of_getElem? (i := 3) rfl)) (by decide) (by decide)) q20a q20c (g := (mkF m 244 #[.val (.int p1), .val (.long q2), .second, .val (.long q3), .second, .val (.long q4), .second, .val (.long q5), .second, .val (.int p6), .val (.int (1 : Int32)), .val (.int zm), .val (.long y1), .second, .val (.long y2), .second, .val (.long y3), .second, .val (.long y4), .second, .val (.double z1), .second, .val (.double z2), .second, .val (.double z3), .second, .val (.ref b17), .val (.int (1 : Int32)), .val (.int (0 : Int32)), .val (.int (0 : Int32))] [(.long y1), (.ref b17)])) rfl (by rw [hml]; rfl) (Steps.refl _) (argsL := [(.long y1)]) (rest := []) (lenOf pd_4 rfl) rfl (by show 2 * 0 + _ ≤ _; exact Nat.le_of_eq rfl) (hb hby at_244) (fun _ _ => ⟨rfl, rfl, (by decide : 3 + 0 ≤ _), (by decide : 37 + 0 ≤ _)⟩)) (c' := 3) (n' := 37) rfl rfl
    obtain ⟨rfl, N20q, e20⟩ := hQ20
    have N20 := Fr.app N19 N20q
    refine own_via st20 ?_
    show own_Go p.tables e below _ (T20.setTop (mkF m 247 #[.val (.int p1), .val (.long q2), .second, .val (.long q3), .second, .val (.long q4), .second, .val (.long q5), .second, .val (.int p6), .val (.int (1 : Int32)), .val (.int zm), .val (.long y1), .second, .val (.long y2), .second, .val (.long y3), .second, .val (.long y4), .second, .val (.double z1), .second, .val (.double z2), .second, .val (.double z3), .second, .val (.ref b17), .val (.int (1 : Int32)), .val (.int (0 : Int32)), .val (.int (0 : Int32))] [(.double (own_f6 y1 fk1 gk1))]))
    refine own_go (fun _ => XS.lload X20.here hx rfl (hb hby at_247) rfl) ?_
    show own_Go p.tables e below _ (T20.setTop (mkF m 249 #[.val (.int p1), .val (.long q2), .second, .val (.long q3), .second, .val (.long q4), .second, .val (.long q5), .second, .val (.int p6), .val (.int (1 : Int32)), .val (.int zm), .val (.long y1), .second, .val (.long y2), .second, .val (.long y3), .second, .val (.long y4), .second, .val (.double z1), .second, .val (.double z2), .second, .val (.double z3), .second, .val (.ref b17), .val (.int (1 : Int32)), .val (.int (0 : Int32)), .val (.int (0 : Int32))] [(.long y1), (.double (own_f6 y1 fk1 gk1))]))
    refine own_go (fun _ => XS.iload X20.here hx rfl (hb hby at_249) rfl) ?_
    show own_Go p.tables e below _ (T20.setTop (mkF m 251 #[.val (.int p1), .val (.long q2), .second, .val (.long q3), .second, .val (.long q4), .second, .val (.long q5), .second, .val (.int p6), .val (.int (1 : Int32)), .val (.int zm), .val (.long y1), .second, .val (.long y2), .second, .val (.long y3), .second, .val (.long y4), .second, .val (.double z1), .second, .val (.double z2), .second, .val (.double z3), .second, .val (.ref b17), .val (.int (1 : Int32)), .val (.int (0 : Int32)), .val (.int (0 : Int32))] [(.int (1 : Int32)), (.long y1), (.double (own_f6 y1 fk1 gk1))]))
    refine own_go (fun _ => XS.lload X20.here hx rfl (hb hby at_251) rfl) ?_
    show own_Go p.tables e below _ (T20.setTop (mkF m 253 #[.val (.int p1), .val (.long q2), .second, .val (.long q3), .second, .val (.long q4), .second, .val (.long q5), .second, .val (.int p6), .val (.int (1 : Int32)), .val (.int zm), .val (.long y1), .second, .val (.long y2), .second, .val (.long y3), .second, .val (.long y4), .second, .val (.double z1), .second, .val (.double z2), .second, .val (.double z3), .second, .val (.ref b17), .val (.int (1 : Int32)), .val (.int (0 : Int32)), .val (.int (0 : Int32))] [(.long y1), (.int (1 : Int32)), (.long y1), (.double (own_f6 y1 fk1 gk1))]))
    refine own_go (fun _ => XS.dload X20.here hx rfl (hb hby at_253) rfl) ?_
    show own_Go p.tables e below _ (T20.setTop (mkF m 255 #[.val (.int p1), .val (.long q2), .second, .val (.long q3), .second, .val (.long q4), .second, .val (.long q5), .second, .val (.int p6), .val (.int (1 : Int32)), .val (.int zm), .val (.long y1), .second, .val (.long y2), .second, .val (.long y3), .second, .val (.long y4), .second, .val (.double z1), .second, .val (.double z2), .second, .val (.double z3), .second, .val (.ref b17), .val (.int (1 : Int32)), .val (.int (0 : Int32)), .val (.int (0 : Int32))] [(.double z1), (.long y1), (.int (1 : Int32)), (.long y1), (.double (own_f6 y1 fk1 gk1))]))
    refine own_go (fun _ => XS.iload X20.here hx rfl (hb hby at_255) rfl) ?_
    show own_Go p.tables e below _ (T20.setTop (mkF m 257 #[.val (.int p1), .val (.long q2), .second, .val (.long q3), .second, .val (.long q4), .second, .val (.long q5), .second, .val (.int p6), .val (.int (1 : Int32)), .val (.int zm), .val (.long y1), .second, .val (.long y2), .second, .val (.long y3), .second, .val (.long y4), .second, .val (.double z1), .second, .val (.double z2), .second, .val (.double z3), .second, .val (.ref b17), .val (.int (1 : Int32)), .val (.int (0 : Int32)), .val (.int (0 : Int32))] [(.int (0 : Int32)), (.double z1), (.long y1), (.int (1 : Int32)), (.long y1), (.double (own_f6 y1 fk1 gk1))]))
    refine own_go (fun _ => XS.lload X20.here hx rfl (hb hby at_257) rfl) ?_
    show own_Go p.tables e below _ (T20.setTop (mkF m 259 #[.val (.int p1), .val (.long q2), .second, .val (.long q3), .second, .val (.long q4), .second, .val (.long q5), .second, .val (.int p6), .val (.int (1 : Int32)), .val (.int zm), .val (.long y1), .second, .val (.long y2), .second, .val (.long y3), .second, .val (.long y4), .second, .val (.double z1), .second, .val (.double z2), .second, .val (.double z3), .second, .val (.ref b17), .val (.int (1 : Int32)), .val (.int (0 : Int32)), .val (.int (0 : Int32))] [(.long y2), (.int (0 : Int32)), (.double z1), (.long y1), (.int (1 : Int32)), (.long y1), (.double (own_f6 y1 fk1 gk1))]))
    refine own_go (fun _ => XS.dload X20.here hx rfl (hb hby at_259) rfl) ?_
    show own_Go p.tables e below _ (T20.setTop (mkF m 261 #[.val (.int p1), .val (.long q2), .second, .val (.long q3), .second, .val (.long q4), .second, .val (.long q5), .second, .val (.int p6), .val (.int (1 : Int32)), .val (.int zm), .val (.long y1), .second, .val (.long y2), .second, .val (.long y3), .second, .val (.long y4), .second, .val (.double z1), .second, .val (.double z2), .second, .val (.double z3), .second, .val (.ref b17), .val (.int (1 : Int32)), .val (.int (0 : Int32)), .val (.int (0 : Int32))] [(.double z2), (.long y2), (.int (0 : Int32)), (.double z1), (.long y1), (.int (1 : Int32)), (.long y1), (.double (own_f6 y1 fk1 gk1))]))
    refine own_go (fun _ => XS.iload X20.here hx rfl (hb hby at_261) rfl) ?_
    show own_Go p.tables e below _ (T20.setTop (mkF m 263 #[.val (.int p1), .val (.long q2), .second, .val (.long q3), .second, .val (.long q4), .second, .val (.long q5), .second, .val (.int p6), .val (.int (1 : Int32)), .val (.int zm), .val (.long y1), .second, .val (.long y2), .second, .val (.long y3), .second, .val (.long y4), .second, .val (.double z1), .second, .val (.double z2), .second, .val (.double z3), .second, .val (.ref b17), .val (.int (1 : Int32)), .val (.int (0 : Int32)), .val (.int (0 : Int32))] [(.int (0 : Int32)), (.double z2), (.long y2), (.int (0 : Int32)), (.double z1), (.long y1), (.int (1 : Int32)), (.long y1), (.double (own_f6 y1 fk1 gk1))]))
    refine own_go (fun _ => XS.lload X20.here hx rfl (hb hby at_263) rfl) ?_
    show own_Go p.tables e below _ (T20.setTop (mkF m 265 #[.val (.int p1), .val (.long q2), .second, .val (.long q3), .second, .val (.long q4), .second, .val (.long q5), .second, .val (.int p6), .val (.int (1 : Int32)), .val (.int zm), .val (.long y1), .second, .val (.long y2), .second, .val (.long y3), .second, .val (.long y4), .second, .val (.double z1), .second, .val (.double z2), .second, .val (.double z3), .second, .val (.ref b17), .val (.int (1 : Int32)), .val (.int (0 : Int32)), .val (.int (0 : Int32))] [(.long y3), (.int (0 : Int32)), (.double z2), (.long y2), (.int (0 : Int32)), (.double z1), (.long y1), (.int (1 : Int32)), (.long y1), (.double (own_f6 y1 fk1 gk1))]))
    refine own_go (fun _ => XS.dload X20.here hx rfl (hb hby at_265) rfl) ?_
    show own_Go p.tables e below _ (T20.setTop (mkF m 267 #[.val (.int p1), .val (.long q2), .second, .val (.long q3), .second, .val (.long q4), .second, .val (.long q5), .second, .val (.int p6), .val (.int (1 : Int32)), .val (.int zm), .val (.long y1), .second, .val (.long y2), .second, .val (.long y3), .second, .val (.long y4), .second, .val (.double z1), .second, .val (.double z2), .second, .val (.double z3), .second, .val (.ref b17), .val (.int (1 : Int32)), .val (.int (0 : Int32)), .val (.int (0 : Int32))] [(.double z3), (.long y3), (.int (0 : Int32)), (.double z2), (.long y2), (.int (0 : Int32)), (.double z1), (.long y1), (.int (1 : Int32)), (.long y1), (.double (own_f6 y1 fk1 gk1))]))
    obtain ⟨v21, T21, L21, X21, hQ21, st21⟩ := own_tidyS X20 (Jvm.LawKit.callS X20 hx (y := (⟨"com/example/outis/outis/clustering/KeptChargesGetPinLaw", "check", "(DJZJDZJDZJD)Z"⟩ : MethodName)) hown (mvT hZ (hw _ (List.mem_of_getElem? (i := 45) rfl))) (mvT hZ (hw _ (List.mem_of_getElem? (i := 46) rfl))) (mvT hZ (hw _ (List.mem_of_getElem? (i := 47) rfl))) (mvT hZ (hw _ (List.mem_of_getElem? (i := 48) rfl))) (by decide) (backOf (W := 0) (rm8 l Z a0 hw [] (own_f6 y1 fk1 gk1) y1 (1 : Int32) y1 z1 (0 : Int32) y2 z2 (0 : Int32) y3 z3 T19.heap n0 (Nat.le_trans (Nat.le_trans (Nat.le_trans Z0 E17.1) Kc18.1) Kc19.1) ) hZ (hw _ (List.mem_of_getElem? (i := 48) rfl)) (hw _ (List.mem_of_getElem? (i := 47) rfl)) (by decide) (by decide)) (g := (mkF m 267 #[.val (.int p1), .val (.long q2), .second, .val (.long q3), .second, .val (.long q4), .second, .val (.long q5), .second, .val (.int p6), .val (.int (1 : Int32)), .val (.int zm), .val (.long y1), .second, .val (.long y2), .second, .val (.long y3), .second, .val (.long y4), .second, .val (.double z1), .second, .val (.double z2), .second, .val (.double z3), .second, .val (.ref b17), .val (.int (1 : Int32)), .val (.int (0 : Int32)), .val (.int (0 : Int32))] [(.double z3), (.long y3), (.int (0 : Int32)), (.double z2), (.long y2), (.int (0 : Int32)), (.double z1), (.long y1), (.int (1 : Int32)), (.long y1), (.double (own_f6 y1 fk1 gk1))])) rfl (by rw [hml]; rfl) (argsL := [(.double (own_f6 y1 fk1 gk1)), (.long y1), (.int (1 : Int32)), (.long y1), (.double z1), (.int (0 : Int32)), (.long y2), (.double z2), (.int (0 : Int32)), (.long y3), (.double z3)]) (rest := []) (lenOf pd_6 rfl) rfl (by show 2 * 0 + _ ≤ _; exact Nat.le_of_eq rfl) (hb hby at_267) (fun _ _ => ⟨rfl, e20, (by decide : 3 + 0 ≤ _), (by decide : 37 + 0 ≤ _)⟩)) (c' := 3) (n' := 37) rfl rfl
    obtain ⟨rfl, N21q, e21⟩ := hQ21
    have N21 := Fr.app N20 N21q
    refine own_go st21 ?_
    show own_Go p.tables e below _ (T21.setTop (mkF m 270 #[.val (.int p1), .val (.long q2), .second, .val (.long q3), .second, .val (.long q4), .second, .val (.long q5), .second, .val (.int p6), .val (.int (1 : Int32)), .val (.int zm), .val (.long y1), .second, .val (.long y2), .second, .val (.long y3), .second, .val (.long y4), .second, .val (.double z1), .second, .val (.double z2), .second, .val (.double z3), .second, .val (.ref b17), .val (.int (1 : Int32)), .val (.int (0 : Int32)), .val (.int (0 : Int32))] [(.int (own_f8 (own_f6 y1 fk1 gk1) y1 (1 : Int32) y1 z1 (0 : Int32) y2 z2 (0 : Int32) y3 z3))]))
    refine own_go (fun _ => XS.ifNo X21.here hx rfl (hb hby at_270) rfl ((if0 _ _).trans (feq (own_ok1 J1 hy1 hz1 hz2 hz3)).1)) ?_
    show own_Go p.tables e below _ (T21.setTop (mkF m 273 #[.val (.int p1), .val (.long q2), .second, .val (.long q3), .second, .val (.long q4), .second, .val (.long q5), .second, .val (.int p6), .val (.int (1 : Int32)), .val (.int zm), .val (.long y1), .second, .val (.long y2), .second, .val (.long y3), .second, .val (.long y4), .second, .val (.double z1), .second, .val (.double z2), .second, .val (.double z3), .second, .val (.ref b17), .val (.int (1 : Int32)), .val (.int (0 : Int32)), .val (.int (0 : Int32))] []))
    refine own_go (fun _ => XS.aload X21.here hx rfl (hb hby at_273) rfl rfl) ?_
    show own_Go p.tables e below _ (T21.setTop (mkF m 275 #[.val (.int p1), .val (.long q2), .second, .val (.long q3), .second, .val (.long q4), .second, .val (.long q5), .second, .val (.int p6), .val (.int (1 : Int32)), .val (.int zm), .val (.long y1), .second, .val (.long y2), .second, .val (.long y3), .second, .val (.long y4), .second, .val (.double z1), .second, .val (.double z2), .second, .val (.double z3), .second, .val (.ref b17), .val (.int (1 : Int32)), .val (.int (0 : Int32)), .val (.int (0 : Int32))] [(.ref b17)]))
    refine own_go (fun _ => XS.lload X21.here hx rfl (hb hby at_275) rfl) ?_
    show own_Go p.tables e below _ (T21.setTop (mkF m 277 #[.val (.int p1), .val (.long q2), .second, .val (.long q3), .second, .val (.long q4), .second, .val (.long q5), .second, .val (.int p6), .val (.int (1 : Int32)), .val (.int zm), .val (.long y1), .second, .val (.long y2), .second, .val (.long y3), .second, .val (.long y4), .second, .val (.double z1), .second, .val (.double z2), .second, .val (.double z3), .second, .val (.ref b17), .val (.int (1 : Int32)), .val (.int (0 : Int32)), .val (.int (0 : Int32))] [(.long y2), (.ref b17)]))
    obtain ⟨cq22, kq22, q22a, q22b, q22c⟩ := isOf hZ e21 F19_0
    obtain ⟨v22, T22, L22, X22, hQ22, st22⟩ := own_tidyV X21 (X21.virtualBack hx (y := (⟨"com/example/outis/outis/clustering/KeptCharges", "get", "(J)D"⟩ : MethodName)) (z := (⟨"com/example/outis/outis/clustering/KeptCharges", "get", "(J)D"⟩ : MethodName)) hown (mvT hZ (hw _ (List.mem_of_getElem? (i := 34) rfl))) (mvT hZ (hw _ (List.mem_of_getElem? (i := 35) rfl))) (notFace_of_selects (args := #[]) (mvT hZ (hw _ (List.mem_of_getElem? (i := 37) rfl)))) (mvT hZ (hw _ (List.mem_of_getElem? (i := 37) rfl))) (mvT hZ (hw _ (List.mem_of_getElem? (i := 36) rfl))) (by decide) (backOf (W := 0) (rm6 l Z a0 hw [] b17 y2 e18_0 e18_1 fk1 gk1 kc18_0 kc18_1 T19.heap n0 (Nat.le_trans (Nat.le_trans (Nat.le_trans Z0 E17.1) Kc18.1) Kc19.1) F19_3 F19_4 F19_5 F19_0 F19_6 F19_7 (own_J.fin J1 own_le1 _)) hZ (hw _ (List.mem_of_getElem? (i := 38) rfl)) (hw _ (List.mem_of_getElem? (i := 3) rfl)) (by decide) (by decide)) q22a q22c (g := (mkF m 277 #[.val (.int p1), .val (.long q2), .second, .val (.long q3), .second, .val (.long q4), .second, .val (.long q5), .second, .val (.int p6), .val (.int (1 : Int32)), .val (.int zm), .val (.long y1), .second, .val (.long y2), .second, .val (.long y3), .second, .val (.long y4), .second, .val (.double z1), .second, .val (.double z2), .second, .val (.double z3), .second, .val (.ref b17), .val (.int (1 : Int32)), .val (.int (0 : Int32)), .val (.int (0 : Int32))] [(.long y2), (.ref b17)])) rfl (by rw [hml]; rfl) (Steps.refl _) (argsL := [(.long y2)]) (rest := []) (lenOf pd_4 rfl) rfl (by show 2 * 0 + _ ≤ _; exact Nat.le_of_eq rfl) (hb hby at_277) (fun _ _ => ⟨rfl, e21, (by decide : 3 + 0 ≤ _), (by decide : 37 + 0 ≤ _)⟩)) (c' := 3) (n' := 37) rfl rfl
    obtain ⟨rfl, N22q, e22⟩ := hQ22
    have N22 := Fr.app N21 N22q
    refine own_via st22 ?_
    show own_Go p.tables e below _ (T22.setTop (mkF m 280 #[.val (.int p1), .val (.long q2), .second, .val (.long q3), .second, .val (.long q4), .second, .val (.long q5), .second, .val (.int p6), .val (.int (1 : Int32)), .val (.int zm), .val (.long y1), .second, .val (.long y2), .second, .val (.long y3), .second, .val (.long y4), .second, .val (.double z1), .second, .val (.double z2), .second, .val (.double z3), .second, .val (.ref b17), .val (.int (1 : Int32)), .val (.int (0 : Int32)), .val (.int (0 : Int32))] [(.double (own_f6 y2 fk1 gk1))]))
    refine own_go (fun _ => XS.lload X22.here hx rfl (hb hby at_280) rfl) ?_
    show own_Go p.tables e below _ (T22.setTop (mkF m 282 #[.val (.int p1), .val (.long q2), .second, .val (.long q3), .second, .val (.long q4), .second, .val (.long q5), .second, .val (.int p6), .val (.int (1 : Int32)), .val (.int zm), .val (.long y1), .second, .val (.long y2), .second, .val (.long y3), .second, .val (.long y4), .second, .val (.double z1), .second, .val (.double z2), .second, .val (.double z3), .second, .val (.ref b17), .val (.int (1 : Int32)), .val (.int (0 : Int32)), .val (.int (0 : Int32))] [(.long y2), (.double (own_f6 y2 fk1 gk1))]))
    refine own_go (fun _ => XS.iload X22.here hx rfl (hb hby at_282) rfl) ?_
    show own_Go p.tables e below _ (T22.setTop (mkF m 284 #[.val (.int p1), .val (.long q2), .second, .val (.long q3), .second, .val (.long q4), .second, .val (.long q5), .second, .val (.int p6), .val (.int (1 : Int32)), .val (.int zm), .val (.long y1), .second, .val (.long y2), .second, .val (.long y3), .second, .val (.long y4), .second, .val (.double z1), .second, .val (.double z2), .second, .val (.double z3), .second, .val (.ref b17), .val (.int (1 : Int32)), .val (.int (0 : Int32)), .val (.int (0 : Int32))] [(.int (1 : Int32)), (.long y2), (.double (own_f6 y2 fk1 gk1))]))
    refine own_go (fun _ => XS.lload X22.here hx rfl (hb hby at_284) rfl) ?_
    show own_Go p.tables e below _ (T22.setTop (mkF m 286 #[.val (.int p1), .val (.long q2), .second, .val (.long q3), .second, .val (.long q4), .second, .val (.long q5), .second, .val (.int p6), .val (.int (1 : Int32)), .val (.int zm), .val (.long y1), .second, .val (.long y2), .second, .val (.long y3), .second, .val (.long y4), .second, .val (.double z1), .second, .val (.double z2), .second, .val (.double z3), .second, .val (.ref b17), .val (.int (1 : Int32)), .val (.int (0 : Int32)), .val (.int (0 : Int32))] [(.long y1), (.int (1 : Int32)), (.long y2), (.double (own_f6 y2 fk1 gk1))]))
    refine own_go (fun _ => XS.dload X22.here hx rfl (hb hby at_286) rfl) ?_
    show own_Go p.tables e below _ (T22.setTop (mkF m 288 #[.val (.int p1), .val (.long q2), .second, .val (.long q3), .second, .val (.long q4), .second, .val (.long q5), .second, .val (.int p6), .val (.int (1 : Int32)), .val (.int zm), .val (.long y1), .second, .val (.long y2), .second, .val (.long y3), .second, .val (.long y4), .second, .val (.double z1), .second, .val (.double z2), .second, .val (.double z3), .second, .val (.ref b17), .val (.int (1 : Int32)), .val (.int (0 : Int32)), .val (.int (0 : Int32))] [(.double z1), (.long y1), (.int (1 : Int32)), (.long y2), (.double (own_f6 y2 fk1 gk1))]))
    refine own_go (fun _ => XS.iload X22.here hx rfl (hb hby at_288) rfl) ?_
    show own_Go p.tables e below _ (T22.setTop (mkF m 290 #[.val (.int p1), .val (.long q2), .second, .val (.long q3), .second, .val (.long q4), .second, .val (.long q5), .second, .val (.int p6), .val (.int (1 : Int32)), .val (.int zm), .val (.long y1), .second, .val (.long y2), .second, .val (.long y3), .second, .val (.long y4), .second, .val (.double z1), .second, .val (.double z2), .second, .val (.double z3), .second, .val (.ref b17), .val (.int (1 : Int32)), .val (.int (0 : Int32)), .val (.int (0 : Int32))] [(.int (0 : Int32)), (.double z1), (.long y1), (.int (1 : Int32)), (.long y2), (.double (own_f6 y2 fk1 gk1))]))
    refine own_go (fun _ => XS.lload X22.here hx rfl (hb hby at_290) rfl) ?_
    show own_Go p.tables e below _ (T22.setTop (mkF m 292 #[.val (.int p1), .val (.long q2), .second, .val (.long q3), .second, .val (.long q4), .second, .val (.long q5), .second, .val (.int p6), .val (.int (1 : Int32)), .val (.int zm), .val (.long y1), .second, .val (.long y2), .second, .val (.long y3), .second, .val (.long y4), .second, .val (.double z1), .second, .val (.double z2), .second, .val (.double z3), .second, .val (.ref b17), .val (.int (1 : Int32)), .val (.int (0 : Int32)), .val (.int (0 : Int32))] [(.long y2), (.int (0 : Int32)), (.double z1), (.long y1), (.int (1 : Int32)), (.long y2), (.double (own_f6 y2 fk1 gk1))]))
    refine own_go (fun _ => XS.dload X22.here hx rfl (hb hby at_292) rfl) ?_
    show own_Go p.tables e below _ (T22.setTop (mkF m 294 #[.val (.int p1), .val (.long q2), .second, .val (.long q3), .second, .val (.long q4), .second, .val (.long q5), .second, .val (.int p6), .val (.int (1 : Int32)), .val (.int zm), .val (.long y1), .second, .val (.long y2), .second, .val (.long y3), .second, .val (.long y4), .second, .val (.double z1), .second, .val (.double z2), .second, .val (.double z3), .second, .val (.ref b17), .val (.int (1 : Int32)), .val (.int (0 : Int32)), .val (.int (0 : Int32))] [(.double z2), (.long y2), (.int (0 : Int32)), (.double z1), (.long y1), (.int (1 : Int32)), (.long y2), (.double (own_f6 y2 fk1 gk1))]))
    refine own_go (fun _ => XS.iload X22.here hx rfl (hb hby at_294) rfl) ?_
    show own_Go p.tables e below _ (T22.setTop (mkF m 296 #[.val (.int p1), .val (.long q2), .second, .val (.long q3), .second, .val (.long q4), .second, .val (.long q5), .second, .val (.int p6), .val (.int (1 : Int32)), .val (.int zm), .val (.long y1), .second, .val (.long y2), .second, .val (.long y3), .second, .val (.long y4), .second, .val (.double z1), .second, .val (.double z2), .second, .val (.double z3), .second, .val (.ref b17), .val (.int (1 : Int32)), .val (.int (0 : Int32)), .val (.int (0 : Int32))] [(.int (0 : Int32)), (.double z2), (.long y2), (.int (0 : Int32)), (.double z1), (.long y1), (.int (1 : Int32)), (.long y2), (.double (own_f6 y2 fk1 gk1))]))
    refine own_go (fun _ => XS.lload X22.here hx rfl (hb hby at_296) rfl) ?_
    show own_Go p.tables e below _ (T22.setTop (mkF m 298 #[.val (.int p1), .val (.long q2), .second, .val (.long q3), .second, .val (.long q4), .second, .val (.long q5), .second, .val (.int p6), .val (.int (1 : Int32)), .val (.int zm), .val (.long y1), .second, .val (.long y2), .second, .val (.long y3), .second, .val (.long y4), .second, .val (.double z1), .second, .val (.double z2), .second, .val (.double z3), .second, .val (.ref b17), .val (.int (1 : Int32)), .val (.int (0 : Int32)), .val (.int (0 : Int32))] [(.long y3), (.int (0 : Int32)), (.double z2), (.long y2), (.int (0 : Int32)), (.double z1), (.long y1), (.int (1 : Int32)), (.long y2), (.double (own_f6 y2 fk1 gk1))]))
    refine own_go (fun _ => XS.dload X22.here hx rfl (hb hby at_298) rfl) ?_
    show own_Go p.tables e below _ (T22.setTop (mkF m 300 #[.val (.int p1), .val (.long q2), .second, .val (.long q3), .second, .val (.long q4), .second, .val (.long q5), .second, .val (.int p6), .val (.int (1 : Int32)), .val (.int zm), .val (.long y1), .second, .val (.long y2), .second, .val (.long y3), .second, .val (.long y4), .second, .val (.double z1), .second, .val (.double z2), .second, .val (.double z3), .second, .val (.ref b17), .val (.int (1 : Int32)), .val (.int (0 : Int32)), .val (.int (0 : Int32))] [(.double z3), (.long y3), (.int (0 : Int32)), (.double z2), (.long y2), (.int (0 : Int32)), (.double z1), (.long y1), (.int (1 : Int32)), (.long y2), (.double (own_f6 y2 fk1 gk1))]))
    obtain ⟨v23, T23, L23, X23, hQ23, st23⟩ := own_tidyS X22 (Jvm.LawKit.callS X22 hx (y := (⟨"com/example/outis/outis/clustering/KeptChargesGetPinLaw", "check", "(DJZJDZJDZJD)Z"⟩ : MethodName)) hown (mvT hZ (hw _ (List.mem_of_getElem? (i := 45) rfl))) (mvT hZ (hw _ (List.mem_of_getElem? (i := 46) rfl))) (mvT hZ (hw _ (List.mem_of_getElem? (i := 47) rfl))) (mvT hZ (hw _ (List.mem_of_getElem? (i := 48) rfl))) (by decide) (backOf (W := 0) (rm8 l Z a0 hw [] (own_f6 y2 fk1 gk1) y2 (1 : Int32) y1 z1 (0 : Int32) y2 z2 (0 : Int32) y3 z3 T19.heap n0 (Nat.le_trans (Nat.le_trans (Nat.le_trans Z0 E17.1) Kc18.1) Kc19.1) ) hZ (hw _ (List.mem_of_getElem? (i := 48) rfl)) (hw _ (List.mem_of_getElem? (i := 47) rfl)) (by decide) (by decide)) (g := (mkF m 300 #[.val (.int p1), .val (.long q2), .second, .val (.long q3), .second, .val (.long q4), .second, .val (.long q5), .second, .val (.int p6), .val (.int (1 : Int32)), .val (.int zm), .val (.long y1), .second, .val (.long y2), .second, .val (.long y3), .second, .val (.long y4), .second, .val (.double z1), .second, .val (.double z2), .second, .val (.double z3), .second, .val (.ref b17), .val (.int (1 : Int32)), .val (.int (0 : Int32)), .val (.int (0 : Int32))] [(.double z3), (.long y3), (.int (0 : Int32)), (.double z2), (.long y2), (.int (0 : Int32)), (.double z1), (.long y1), (.int (1 : Int32)), (.long y2), (.double (own_f6 y2 fk1 gk1))])) rfl (by rw [hml]; rfl) (argsL := [(.double (own_f6 y2 fk1 gk1)), (.long y2), (.int (1 : Int32)), (.long y1), (.double z1), (.int (0 : Int32)), (.long y2), (.double z2), (.int (0 : Int32)), (.long y3), (.double z3)]) (rest := []) (lenOf pd_6 rfl) rfl (by show 2 * 0 + _ ≤ _; exact Nat.le_of_eq rfl) (hb hby at_300) (fun _ _ => ⟨rfl, e22, (by decide : 3 + 0 ≤ _), (by decide : 37 + 0 ≤ _)⟩)) (c' := 3) (n' := 37) rfl rfl
    obtain ⟨rfl, N23q, e23⟩ := hQ23
    have N23 := Fr.app N22 N23q
    refine own_go st23 ?_
    show own_Go p.tables e below _ (T23.setTop (mkF m 303 #[.val (.int p1), .val (.long q2), .second, .val (.long q3), .second, .val (.long q4), .second, .val (.long q5), .second, .val (.int p6), .val (.int (1 : Int32)), .val (.int zm), .val (.long y1), .second, .val (.long y2), .second, .val (.long y3), .second, .val (.long y4), .second, .val (.double z1), .second, .val (.double z2), .second, .val (.double z3), .second, .val (.ref b17), .val (.int (1 : Int32)), .val (.int (0 : Int32)), .val (.int (0 : Int32))] [(.int (own_f8 (own_f6 y2 fk1 gk1) y2 (1 : Int32) y1 z1 (0 : Int32) y2 z2 (0 : Int32) y3 z3))]))
    refine own_go (fun _ => XS.ifNo X23.here hx rfl (hb hby at_303) rfl ((if0 _ _).trans (feq (own_ok1 J1 hy2 hz1 hz2 hz3)).1)) ?_
    show own_Go p.tables e below _ (T23.setTop (mkF m 306 #[.val (.int p1), .val (.long q2), .second, .val (.long q3), .second, .val (.long q4), .second, .val (.long q5), .second, .val (.int p6), .val (.int (1 : Int32)), .val (.int zm), .val (.long y1), .second, .val (.long y2), .second, .val (.long y3), .second, .val (.long y4), .second, .val (.double z1), .second, .val (.double z2), .second, .val (.double z3), .second, .val (.ref b17), .val (.int (1 : Int32)), .val (.int (0 : Int32)), .val (.int (0 : Int32))] []))
    refine own_go (fun _ => XS.aload X23.here hx rfl (hb hby at_306) rfl rfl) ?_
    show own_Go p.tables e below _ (T23.setTop (mkF m 308 #[.val (.int p1), .val (.long q2), .second, .val (.long q3), .second, .val (.long q4), .second, .val (.long q5), .second, .val (.int p6), .val (.int (1 : Int32)), .val (.int zm), .val (.long y1), .second, .val (.long y2), .second, .val (.long y3), .second, .val (.long y4), .second, .val (.double z1), .second, .val (.double z2), .second, .val (.double z3), .second, .val (.ref b17), .val (.int (1 : Int32)), .val (.int (0 : Int32)), .val (.int (0 : Int32))] [(.ref b17)]))
    refine own_go (fun _ => XS.lload X23.here hx rfl (hb hby at_308) rfl) ?_
    show own_Go p.tables e below _ (T23.setTop (mkF m 310 #[.val (.int p1), .val (.long q2), .second, .val (.long q3), .second, .val (.long q4), .second, .val (.long q5), .second, .val (.int p6), .val (.int (1 : Int32)), .val (.int zm), .val (.long y1), .second, .val (.long y2), .second, .val (.long y3), .second, .val (.long y4), .second, .val (.double z1), .second, .val (.double z2), .second, .val (.double z3), .second, .val (.ref b17), .val (.int (1 : Int32)), .val (.int (0 : Int32)), .val (.int (0 : Int32))] [(.long y3), (.ref b17)]))
    obtain ⟨cq24, kq24, q24a, q24b, q24c⟩ := isOf hZ e23 F19_0
    obtain ⟨v24, T24, L24, X24, hQ24, st24⟩ := own_tidyV X23 (X23.virtualBack hx (y := (⟨"com/example/outis/outis/clustering/KeptCharges", "get", "(J)D"⟩ : MethodName)) (z := (⟨"com/example/outis/outis/clustering/KeptCharges", "get", "(J)D"⟩ : MethodName)) hown (mvT hZ (hw _ (List.mem_of_getElem? (i := 34) rfl))) (mvT hZ (hw _ (List.mem_of_getElem? (i := 35) rfl))) (notFace_of_selects (args := #[]) (mvT hZ (hw _ (List.mem_of_getElem? (i := 37) rfl)))) (mvT hZ (hw _ (List.mem_of_getElem? (i := 37) rfl))) (mvT hZ (hw _ (List.mem_of_getElem? (i := 36) rfl))) (by decide) (backOf (W := 0) (rm6 l Z a0 hw [] b17 y3 e18_0 e18_1 fk1 gk1 kc18_0 kc18_1 T19.heap n0 (Nat.le_trans (Nat.le_trans (Nat.le_trans Z0 E17.1) Kc18.1) Kc19.1) F19_3 F19_4 F19_5 F19_0 F19_6 F19_7 (own_J.fin J1 own_le1 _)) hZ (hw _ (List.mem_of_getElem? (i := 38) rfl)) (hw _ (List.mem_of_getElem? (i := 3) rfl)) (by decide) (by decide)) q24a q24c (g := (mkF m 310 #[.val (.int p1), .val (.long q2), .second, .val (.long q3), .second, .val (.long q4), .second, .val (.long q5), .second, .val (.int p6), .val (.int (1 : Int32)), .val (.int zm), .val (.long y1), .second, .val (.long y2), .second, .val (.long y3), .second, .val (.long y4), .second, .val (.double z1), .second, .val (.double z2), .second, .val (.double z3), .second, .val (.ref b17), .val (.int (1 : Int32)), .val (.int (0 : Int32)), .val (.int (0 : Int32))] [(.long y3), (.ref b17)])) rfl (by rw [hml]; rfl) (Steps.refl _) (argsL := [(.long y3)]) (rest := []) (lenOf pd_4 rfl) rfl (by show 2 * 0 + _ ≤ _; exact Nat.le_of_eq rfl) (hb hby at_310) (fun _ _ => ⟨rfl, e23, (by decide : 3 + 0 ≤ _), (by decide : 37 + 0 ≤ _)⟩)) (c' := 3) (n' := 37) rfl rfl
    obtain ⟨rfl, N24q, e24⟩ := hQ24
    have N24 := Fr.app N23 N24q
    refine own_via st24 ?_
    show own_Go p.tables e below _ (T24.setTop (mkF m 313 #[.val (.int p1), .val (.long q2), .second, .val (.long q3), .second, .val (.long q4), .second, .val (.long q5), .second, .val (.int p6), .val (.int (1 : Int32)), .val (.int zm), .val (.long y1), .second, .val (.long y2), .second, .val (.long y3), .second, .val (.long y4), .second, .val (.double z1), .second, .val (.double z2), .second, .val (.double z3), .second, .val (.ref b17), .val (.int (1 : Int32)), .val (.int (0 : Int32)), .val (.int (0 : Int32))] [(.double (own_f6 y3 fk1 gk1))]))
    refine own_go (fun _ => XS.lload X24.here hx rfl (hb hby at_313) rfl) ?_
    show own_Go p.tables e below _ (T24.setTop (mkF m 315 #[.val (.int p1), .val (.long q2), .second, .val (.long q3), .second, .val (.long q4), .second, .val (.long q5), .second, .val (.int p6), .val (.int (1 : Int32)), .val (.int zm), .val (.long y1), .second, .val (.long y2), .second, .val (.long y3), .second, .val (.long y4), .second, .val (.double z1), .second, .val (.double z2), .second, .val (.double z3), .second, .val (.ref b17), .val (.int (1 : Int32)), .val (.int (0 : Int32)), .val (.int (0 : Int32))] [(.long y3), (.double (own_f6 y3 fk1 gk1))]))
    refine own_go (fun _ => XS.iload X24.here hx rfl (hb hby at_315) rfl) ?_
    show own_Go p.tables e below _ (T24.setTop (mkF m 317 #[.val (.int p1), .val (.long q2), .second, .val (.long q3), .second, .val (.long q4), .second, .val (.long q5), .second, .val (.int p6), .val (.int (1 : Int32)), .val (.int zm), .val (.long y1), .second, .val (.long y2), .second, .val (.long y3), .second, .val (.long y4), .second, .val (.double z1), .second, .val (.double z2), .second, .val (.double z3), .second, .val (.ref b17), .val (.int (1 : Int32)), .val (.int (0 : Int32)), .val (.int (0 : Int32))] [(.int (1 : Int32)), (.long y3), (.double (own_f6 y3 fk1 gk1))]))
    refine own_go (fun _ => XS.lload X24.here hx rfl (hb hby at_317) rfl) ?_
    show own_Go p.tables e below _ (T24.setTop (mkF m 319 #[.val (.int p1), .val (.long q2), .second, .val (.long q3), .second, .val (.long q4), .second, .val (.long q5), .second, .val (.int p6), .val (.int (1 : Int32)), .val (.int zm), .val (.long y1), .second, .val (.long y2), .second, .val (.long y3), .second, .val (.long y4), .second, .val (.double z1), .second, .val (.double z2), .second, .val (.double z3), .second, .val (.ref b17), .val (.int (1 : Int32)), .val (.int (0 : Int32)), .val (.int (0 : Int32))] [(.long y1), (.int (1 : Int32)), (.long y3), (.double (own_f6 y3 fk1 gk1))]))
    refine own_go (fun _ => XS.dload X24.here hx rfl (hb hby at_319) rfl) ?_
    show own_Go p.tables e below _ (T24.setTop (mkF m 321 #[.val (.int p1), .val (.long q2), .second, .val (.long q3), .second, .val (.long q4), .second, .val (.long q5), .second, .val (.int p6), .val (.int (1 : Int32)), .val (.int zm), .val (.long y1), .second, .val (.long y2), .second, .val (.long y3), .second, .val (.long y4), .second, .val (.double z1), .second, .val (.double z2), .second, .val (.double z3), .second, .val (.ref b17), .val (.int (1 : Int32)), .val (.int (0 : Int32)), .val (.int (0 : Int32))] [(.double z1), (.long y1), (.int (1 : Int32)), (.long y3), (.double (own_f6 y3 fk1 gk1))]))
    refine own_go (fun _ => XS.iload X24.here hx rfl (hb hby at_321) rfl) ?_
    show own_Go p.tables e below _ (T24.setTop (mkF m 323 #[.val (.int p1), .val (.long q2), .second, .val (.long q3), .second, .val (.long q4), .second, .val (.long q5), .second, .val (.int p6), .val (.int (1 : Int32)), .val (.int zm), .val (.long y1), .second, .val (.long y2), .second, .val (.long y3), .second, .val (.long y4), .second, .val (.double z1), .second, .val (.double z2), .second, .val (.double z3), .second, .val (.ref b17), .val (.int (1 : Int32)), .val (.int (0 : Int32)), .val (.int (0 : Int32))] [(.int (0 : Int32)), (.double z1), (.long y1), (.int (1 : Int32)), (.long y3), (.double (own_f6 y3 fk1 gk1))]))
    refine own_go (fun _ => XS.lload X24.here hx rfl (hb hby at_323) rfl) ?_
    show own_Go p.tables e below _ (T24.setTop (mkF m 325 #[.val (.int p1), .val (.long q2), .second, .val (.long q3), .second, .val (.long q4), .second, .val (.long q5), .second, .val (.int p6), .val (.int (1 : Int32)), .val (.int zm), .val (.long y1), .second, .val (.long y2), .second, .val (.long y3), .second, .val (.long y4), .second, .val (.double z1), .second, .val (.double z2), .second, .val (.double z3), .second, .val (.ref b17), .val (.int (1 : Int32)), .val (.int (0 : Int32)), .val (.int (0 : Int32))] [(.long y2), (.int (0 : Int32)), (.double z1), (.long y1), (.int (1 : Int32)), (.long y3), (.double (own_f6 y3 fk1 gk1))]))
    refine own_go (fun _ => XS.dload X24.here hx rfl (hb hby at_325) rfl) ?_
    show own_Go p.tables e below _ (T24.setTop (mkF m 327 #[.val (.int p1), .val (.long q2), .second, .val (.long q3), .second, .val (.long q4), .second, .val (.long q5), .second, .val (.int p6), .val (.int (1 : Int32)), .val (.int zm), .val (.long y1), .second, .val (.long y2), .second, .val (.long y3), .second, .val (.long y4), .second, .val (.double z1), .second, .val (.double z2), .second, .val (.double z3), .second, .val (.ref b17), .val (.int (1 : Int32)), .val (.int (0 : Int32)), .val (.int (0 : Int32))] [(.double z2), (.long y2), (.int (0 : Int32)), (.double z1), (.long y1), (.int (1 : Int32)), (.long y3), (.double (own_f6 y3 fk1 gk1))]))
    refine own_go (fun _ => XS.iload X24.here hx rfl (hb hby at_327) rfl) ?_
    show own_Go p.tables e below _ (T24.setTop (mkF m 329 #[.val (.int p1), .val (.long q2), .second, .val (.long q3), .second, .val (.long q4), .second, .val (.long q5), .second, .val (.int p6), .val (.int (1 : Int32)), .val (.int zm), .val (.long y1), .second, .val (.long y2), .second, .val (.long y3), .second, .val (.long y4), .second, .val (.double z1), .second, .val (.double z2), .second, .val (.double z3), .second, .val (.ref b17), .val (.int (1 : Int32)), .val (.int (0 : Int32)), .val (.int (0 : Int32))] [(.int (0 : Int32)), (.double z2), (.long y2), (.int (0 : Int32)), (.double z1), (.long y1), (.int (1 : Int32)), (.long y3), (.double (own_f6 y3 fk1 gk1))]))
    refine own_go (fun _ => XS.lload X24.here hx rfl (hb hby at_329) rfl) ?_
    show own_Go p.tables e below _ (T24.setTop (mkF m 331 #[.val (.int p1), .val (.long q2), .second, .val (.long q3), .second, .val (.long q4), .second, .val (.long q5), .second, .val (.int p6), .val (.int (1 : Int32)), .val (.int zm), .val (.long y1), .second, .val (.long y2), .second, .val (.long y3), .second, .val (.long y4), .second, .val (.double z1), .second, .val (.double z2), .second, .val (.double z3), .second, .val (.ref b17), .val (.int (1 : Int32)), .val (.int (0 : Int32)), .val (.int (0 : Int32))] [(.long y3), (.int (0 : Int32)), (.double z2), (.long y2), (.int (0 : Int32)), (.double z1), (.long y1), (.int (1 : Int32)), (.long y3), (.double (own_f6 y3 fk1 gk1))]))
    refine own_go (fun _ => XS.dload X24.here hx rfl (hb hby at_331) rfl) ?_
    show own_Go p.tables e below _ (T24.setTop (mkF m 333 #[.val (.int p1), .val (.long q2), .second, .val (.long q3), .second, .val (.long q4), .second, .val (.long q5), .second, .val (.int p6), .val (.int (1 : Int32)), .val (.int zm), .val (.long y1), .second, .val (.long y2), .second, .val (.long y3), .second, .val (.long y4), .second, .val (.double z1), .second, .val (.double z2), .second, .val (.double z3), .second, .val (.ref b17), .val (.int (1 : Int32)), .val (.int (0 : Int32)), .val (.int (0 : Int32))] [(.double z3), (.long y3), (.int (0 : Int32)), (.double z2), (.long y2), (.int (0 : Int32)), (.double z1), (.long y1), (.int (1 : Int32)), (.long y3), (.double (own_f6 y3 fk1 gk1))]))
    obtain ⟨v25, T25, L25, X25, hQ25, st25⟩ := own_tidyS X24 (Jvm.LawKit.callS X24 hx (y := (⟨"com/example/outis/outis/clustering/KeptChargesGetPinLaw", "check", "(DJZJDZJDZJD)Z"⟩ : MethodName)) hown (mvT hZ (hw _ (List.mem_of_getElem? (i := 45) rfl))) (mvT hZ (hw _ (List.mem_of_getElem? (i := 46) rfl))) (mvT hZ (hw _ (List.mem_of_getElem? (i := 47) rfl))) (mvT hZ (hw _ (List.mem_of_getElem? (i := 48) rfl))) (by decide) (backOf (W := 0) (rm8 l Z a0 hw [] (own_f6 y3 fk1 gk1) y3 (1 : Int32) y1 z1 (0 : Int32) y2 z2 (0 : Int32) y3 z3 T19.heap n0 (Nat.le_trans (Nat.le_trans (Nat.le_trans Z0 E17.1) Kc18.1) Kc19.1) ) hZ (hw _ (List.mem_of_getElem? (i := 48) rfl)) (hw _ (List.mem_of_getElem? (i := 47) rfl)) (by decide) (by decide)) (g := (mkF m 333 #[.val (.int p1), .val (.long q2), .second, .val (.long q3), .second, .val (.long q4), .second, .val (.long q5), .second, .val (.int p6), .val (.int (1 : Int32)), .val (.int zm), .val (.long y1), .second, .val (.long y2), .second, .val (.long y3), .second, .val (.long y4), .second, .val (.double z1), .second, .val (.double z2), .second, .val (.double z3), .second, .val (.ref b17), .val (.int (1 : Int32)), .val (.int (0 : Int32)), .val (.int (0 : Int32))] [(.double z3), (.long y3), (.int (0 : Int32)), (.double z2), (.long y2), (.int (0 : Int32)), (.double z1), (.long y1), (.int (1 : Int32)), (.long y3), (.double (own_f6 y3 fk1 gk1))])) rfl (by rw [hml]; rfl) (argsL := [(.double (own_f6 y3 fk1 gk1)), (.long y3), (.int (1 : Int32)), (.long y1), (.double z1), (.int (0 : Int32)), (.long y2), (.double z2), (.int (0 : Int32)), (.long y3), (.double z3)]) (rest := []) (lenOf pd_6 rfl) rfl (by show 2 * 0 + _ ≤ _; exact Nat.le_of_eq rfl) (hb hby at_333) (fun _ _ => ⟨rfl, e24, (by decide : 3 + 0 ≤ _), (by decide : 37 + 0 ≤ _)⟩)) (c' := 3) (n' := 37) rfl rfl
    obtain ⟨rfl, N25q, e25⟩ := hQ25
    have N25 := Fr.app N24 N25q
    refine own_go st25 ?_
    show own_Go p.tables e below _ (T25.setTop (mkF m 336 #[.val (.int p1), .val (.long q2), .second, .val (.long q3), .second, .val (.long q4), .second, .val (.long q5), .second, .val (.int p6), .val (.int (1 : Int32)), .val (.int zm), .val (.long y1), .second, .val (.long y2), .second, .val (.long y3), .second, .val (.long y4), .second, .val (.double z1), .second, .val (.double z2), .second, .val (.double z3), .second, .val (.ref b17), .val (.int (1 : Int32)), .val (.int (0 : Int32)), .val (.int (0 : Int32))] [(.int (own_f8 (own_f6 y3 fk1 gk1) y3 (1 : Int32) y1 z1 (0 : Int32) y2 z2 (0 : Int32) y3 z3))]))
    refine own_go (fun _ => XS.ifNo X25.here hx rfl (hb hby at_336) rfl ((if0 _ _).trans (feq (own_ok1 J1 hy3 hz1 hz2 hz3)).1)) ?_
    show own_Go p.tables e below _ (T25.setTop (mkF m 339 #[.val (.int p1), .val (.long q2), .second, .val (.long q3), .second, .val (.long q4), .second, .val (.long q5), .second, .val (.int p6), .val (.int (1 : Int32)), .val (.int zm), .val (.long y1), .second, .val (.long y2), .second, .val (.long y3), .second, .val (.long y4), .second, .val (.double z1), .second, .val (.double z2), .second, .val (.double z3), .second, .val (.ref b17), .val (.int (1 : Int32)), .val (.int (0 : Int32)), .val (.int (0 : Int32))] []))
    refine own_go (fun _ => XS.aload X25.here hx rfl (hb hby at_339) rfl rfl) ?_
    show own_Go p.tables e below _ (T25.setTop (mkF m 341 #[.val (.int p1), .val (.long q2), .second, .val (.long q3), .second, .val (.long q4), .second, .val (.long q5), .second, .val (.int p6), .val (.int (1 : Int32)), .val (.int zm), .val (.long y1), .second, .val (.long y2), .second, .val (.long y3), .second, .val (.long y4), .second, .val (.double z1), .second, .val (.double z2), .second, .val (.double z3), .second, .val (.ref b17), .val (.int (1 : Int32)), .val (.int (0 : Int32)), .val (.int (0 : Int32))] [(.ref b17)]))
    refine own_go (fun _ => XS.lload X25.here hx rfl (hb hby at_341) rfl) ?_
    show own_Go p.tables e below _ (T25.setTop (mkF m 343 #[.val (.int p1), .val (.long q2), .second, .val (.long q3), .second, .val (.long q4), .second, .val (.long q5), .second, .val (.int p6), .val (.int (1 : Int32)), .val (.int zm), .val (.long y1), .second, .val (.long y2), .second, .val (.long y3), .second, .val (.long y4), .second, .val (.double z1), .second, .val (.double z2), .second, .val (.double z3), .second, .val (.ref b17), .val (.int (1 : Int32)), .val (.int (0 : Int32)), .val (.int (0 : Int32))] [(.long y4), (.ref b17)]))
    obtain ⟨cq26, kq26, q26a, q26b, q26c⟩ := isOf hZ e25 F19_0
    obtain ⟨v26, T26, L26, X26, hQ26, st26⟩ := own_tidyV X25 (X25.virtualBack hx (y := (⟨"com/example/outis/outis/clustering/KeptCharges", "get", "(J)D"⟩ : MethodName)) (z := (⟨"com/example/outis/outis/clustering/KeptCharges", "get", "(J)D"⟩ : MethodName)) hown (mvT hZ (hw _ (List.mem_of_getElem? (i := 34) rfl))) (mvT hZ (hw _ (List.mem_of_getElem? (i := 35) rfl))) (notFace_of_selects (args := #[]) (mvT hZ (hw _ (List.mem_of_getElem? (i := 37) rfl)))) (mvT hZ (hw _ (List.mem_of_getElem? (i := 37) rfl))) (mvT hZ (hw _ (List.mem_of_getElem? (i := 36) rfl))) (by decide) (backOf (W := 0) (rm6 l Z a0 hw [] b17 y4 e18_0 e18_1 fk1 gk1 kc18_0 kc18_1 T19.heap n0 (Nat.le_trans (Nat.le_trans (Nat.le_trans Z0 E17.1) Kc18.1) Kc19.1) F19_3 F19_4 F19_5 F19_0 F19_6 F19_7 (own_J.fin J1 own_le1 _)) hZ (hw _ (List.mem_of_getElem? (i := 38) rfl)) (hw _ (List.mem_of_getElem? (i := 3) rfl)) (by decide) (by decide)) q26a q26c (g := (mkF m 343 #[.val (.int p1), .val (.long q2), .second, .val (.long q3), .second, .val (.long q4), .second, .val (.long q5), .second, .val (.int p6), .val (.int (1 : Int32)), .val (.int zm), .val (.long y1), .second, .val (.long y2), .second, .val (.long y3), .second, .val (.long y4), .second, .val (.double z1), .second, .val (.double z2), .second, .val (.double z3), .second, .val (.ref b17), .val (.int (1 : Int32)), .val (.int (0 : Int32)), .val (.int (0 : Int32))] [(.long y4), (.ref b17)])) rfl (by rw [hml]; rfl) (Steps.refl _) (argsL := [(.long y4)]) (rest := []) (lenOf pd_4 rfl) rfl (by show 2 * 0 + _ ≤ _; exact Nat.le_of_eq rfl) (hb hby at_343) (fun _ _ => ⟨rfl, e25, (by decide : 3 + 0 ≤ _), (by decide : 37 + 0 ≤ _)⟩)) (c' := 3) (n' := 37) rfl rfl
    obtain ⟨rfl, N26q, e26⟩ := hQ26
    have N26 := Fr.app N25 N26q
    refine own_via st26 ?_
    show own_Go p.tables e below _ (T26.setTop (mkF m 346 #[.val (.int p1), .val (.long q2), .second, .val (.long q3), .second, .val (.long q4), .second, .val (.long q5), .second, .val (.int p6), .val (.int (1 : Int32)), .val (.int zm), .val (.long y1), .second, .val (.long y2), .second, .val (.long y3), .second, .val (.long y4), .second, .val (.double z1), .second, .val (.double z2), .second, .val (.double z3), .second, .val (.ref b17), .val (.int (1 : Int32)), .val (.int (0 : Int32)), .val (.int (0 : Int32))] [(.double (own_f6 y4 fk1 gk1))]))
    refine own_go (fun _ => XS.lload X26.here hx rfl (hb hby at_346) rfl) ?_
    show own_Go p.tables e below _ (T26.setTop (mkF m 348 #[.val (.int p1), .val (.long q2), .second, .val (.long q3), .second, .val (.long q4), .second, .val (.long q5), .second, .val (.int p6), .val (.int (1 : Int32)), .val (.int zm), .val (.long y1), .second, .val (.long y2), .second, .val (.long y3), .second, .val (.long y4), .second, .val (.double z1), .second, .val (.double z2), .second, .val (.double z3), .second, .val (.ref b17), .val (.int (1 : Int32)), .val (.int (0 : Int32)), .val (.int (0 : Int32))] [(.long y4), (.double (own_f6 y4 fk1 gk1))]))
    refine own_go (fun _ => XS.iload X26.here hx rfl (hb hby at_348) rfl) ?_
    show own_Go p.tables e below _ (T26.setTop (mkF m 350 #[.val (.int p1), .val (.long q2), .second, .val (.long q3), .second, .val (.long q4), .second, .val (.long q5), .second, .val (.int p6), .val (.int (1 : Int32)), .val (.int zm), .val (.long y1), .second, .val (.long y2), .second, .val (.long y3), .second, .val (.long y4), .second, .val (.double z1), .second, .val (.double z2), .second, .val (.double z3), .second, .val (.ref b17), .val (.int (1 : Int32)), .val (.int (0 : Int32)), .val (.int (0 : Int32))] [(.int (1 : Int32)), (.long y4), (.double (own_f6 y4 fk1 gk1))]))
    refine own_go (fun _ => XS.lload X26.here hx rfl (hb hby at_350) rfl) ?_
    show own_Go p.tables e below _ (T26.setTop (mkF m 352 #[.val (.int p1), .val (.long q2), .second, .val (.long q3), .second, .val (.long q4), .second, .val (.long q5), .second, .val (.int p6), .val (.int (1 : Int32)), .val (.int zm), .val (.long y1), .second, .val (.long y2), .second, .val (.long y3), .second, .val (.long y4), .second, .val (.double z1), .second, .val (.double z2), .second, .val (.double z3), .second, .val (.ref b17), .val (.int (1 : Int32)), .val (.int (0 : Int32)), .val (.int (0 : Int32))] [(.long y1), (.int (1 : Int32)), (.long y4), (.double (own_f6 y4 fk1 gk1))]))
    refine own_go (fun _ => XS.dload X26.here hx rfl (hb hby at_352) rfl) ?_
    show own_Go p.tables e below _ (T26.setTop (mkF m 354 #[.val (.int p1), .val (.long q2), .second, .val (.long q3), .second, .val (.long q4), .second, .val (.long q5), .second, .val (.int p6), .val (.int (1 : Int32)), .val (.int zm), .val (.long y1), .second, .val (.long y2), .second, .val (.long y3), .second, .val (.long y4), .second, .val (.double z1), .second, .val (.double z2), .second, .val (.double z3), .second, .val (.ref b17), .val (.int (1 : Int32)), .val (.int (0 : Int32)), .val (.int (0 : Int32))] [(.double z1), (.long y1), (.int (1 : Int32)), (.long y4), (.double (own_f6 y4 fk1 gk1))]))
    refine own_go (fun _ => XS.iload X26.here hx rfl (hb hby at_354) rfl) ?_
    show own_Go p.tables e below _ (T26.setTop (mkF m 356 #[.val (.int p1), .val (.long q2), .second, .val (.long q3), .second, .val (.long q4), .second, .val (.long q5), .second, .val (.int p6), .val (.int (1 : Int32)), .val (.int zm), .val (.long y1), .second, .val (.long y2), .second, .val (.long y3), .second, .val (.long y4), .second, .val (.double z1), .second, .val (.double z2), .second, .val (.double z3), .second, .val (.ref b17), .val (.int (1 : Int32)), .val (.int (0 : Int32)), .val (.int (0 : Int32))] [(.int (0 : Int32)), (.double z1), (.long y1), (.int (1 : Int32)), (.long y4), (.double (own_f6 y4 fk1 gk1))]))
    refine own_go (fun _ => XS.lload X26.here hx rfl (hb hby at_356) rfl) ?_
    show own_Go p.tables e below _ (T26.setTop (mkF m 358 #[.val (.int p1), .val (.long q2), .second, .val (.long q3), .second, .val (.long q4), .second, .val (.long q5), .second, .val (.int p6), .val (.int (1 : Int32)), .val (.int zm), .val (.long y1), .second, .val (.long y2), .second, .val (.long y3), .second, .val (.long y4), .second, .val (.double z1), .second, .val (.double z2), .second, .val (.double z3), .second, .val (.ref b17), .val (.int (1 : Int32)), .val (.int (0 : Int32)), .val (.int (0 : Int32))] [(.long y2), (.int (0 : Int32)), (.double z1), (.long y1), (.int (1 : Int32)), (.long y4), (.double (own_f6 y4 fk1 gk1))]))
    refine own_go (fun _ => XS.dload X26.here hx rfl (hb hby at_358) rfl) ?_
    show own_Go p.tables e below _ (T26.setTop (mkF m 360 #[.val (.int p1), .val (.long q2), .second, .val (.long q3), .second, .val (.long q4), .second, .val (.long q5), .second, .val (.int p6), .val (.int (1 : Int32)), .val (.int zm), .val (.long y1), .second, .val (.long y2), .second, .val (.long y3), .second, .val (.long y4), .second, .val (.double z1), .second, .val (.double z2), .second, .val (.double z3), .second, .val (.ref b17), .val (.int (1 : Int32)), .val (.int (0 : Int32)), .val (.int (0 : Int32))] [(.double z2), (.long y2), (.int (0 : Int32)), (.double z1), (.long y1), (.int (1 : Int32)), (.long y4), (.double (own_f6 y4 fk1 gk1))]))
    refine own_go (fun _ => XS.iload X26.here hx rfl (hb hby at_360) rfl) ?_
    show own_Go p.tables e below _ (T26.setTop (mkF m 362 #[.val (.int p1), .val (.long q2), .second, .val (.long q3), .second, .val (.long q4), .second, .val (.long q5), .second, .val (.int p6), .val (.int (1 : Int32)), .val (.int zm), .val (.long y1), .second, .val (.long y2), .second, .val (.long y3), .second, .val (.long y4), .second, .val (.double z1), .second, .val (.double z2), .second, .val (.double z3), .second, .val (.ref b17), .val (.int (1 : Int32)), .val (.int (0 : Int32)), .val (.int (0 : Int32))] [(.int (0 : Int32)), (.double z2), (.long y2), (.int (0 : Int32)), (.double z1), (.long y1), (.int (1 : Int32)), (.long y4), (.double (own_f6 y4 fk1 gk1))]))
    refine own_go (fun _ => XS.lload X26.here hx rfl (hb hby at_362) rfl) ?_
    show own_Go p.tables e below _ (T26.setTop (mkF m 364 #[.val (.int p1), .val (.long q2), .second, .val (.long q3), .second, .val (.long q4), .second, .val (.long q5), .second, .val (.int p6), .val (.int (1 : Int32)), .val (.int zm), .val (.long y1), .second, .val (.long y2), .second, .val (.long y3), .second, .val (.long y4), .second, .val (.double z1), .second, .val (.double z2), .second, .val (.double z3), .second, .val (.ref b17), .val (.int (1 : Int32)), .val (.int (0 : Int32)), .val (.int (0 : Int32))] [(.long y3), (.int (0 : Int32)), (.double z2), (.long y2), (.int (0 : Int32)), (.double z1), (.long y1), (.int (1 : Int32)), (.long y4), (.double (own_f6 y4 fk1 gk1))]))
    refine own_go (fun _ => XS.dload X26.here hx rfl (hb hby at_364) rfl) ?_
    show own_Go p.tables e below _ (T26.setTop (mkF m 366 #[.val (.int p1), .val (.long q2), .second, .val (.long q3), .second, .val (.long q4), .second, .val (.long q5), .second, .val (.int p6), .val (.int (1 : Int32)), .val (.int zm), .val (.long y1), .second, .val (.long y2), .second, .val (.long y3), .second, .val (.long y4), .second, .val (.double z1), .second, .val (.double z2), .second, .val (.double z3), .second, .val (.ref b17), .val (.int (1 : Int32)), .val (.int (0 : Int32)), .val (.int (0 : Int32))] [(.double z3), (.long y3), (.int (0 : Int32)), (.double z2), (.long y2), (.int (0 : Int32)), (.double z1), (.long y1), (.int (1 : Int32)), (.long y4), (.double (own_f6 y4 fk1 gk1))]))
    obtain ⟨v27, T27, L27, X27, hQ27, st27⟩ := own_tidyS X26 (Jvm.LawKit.callS X26 hx (y := (⟨"com/example/outis/outis/clustering/KeptChargesGetPinLaw", "check", "(DJZJDZJDZJD)Z"⟩ : MethodName)) hown (mvT hZ (hw _ (List.mem_of_getElem? (i := 45) rfl))) (mvT hZ (hw _ (List.mem_of_getElem? (i := 46) rfl))) (mvT hZ (hw _ (List.mem_of_getElem? (i := 47) rfl))) (mvT hZ (hw _ (List.mem_of_getElem? (i := 48) rfl))) (by decide) (backOf (W := 0) (rm8 l Z a0 hw [] (own_f6 y4 fk1 gk1) y4 (1 : Int32) y1 z1 (0 : Int32) y2 z2 (0 : Int32) y3 z3 T19.heap n0 (Nat.le_trans (Nat.le_trans (Nat.le_trans Z0 E17.1) Kc18.1) Kc19.1) ) hZ (hw _ (List.mem_of_getElem? (i := 48) rfl)) (hw _ (List.mem_of_getElem? (i := 47) rfl)) (by decide) (by decide)) (g := (mkF m 366 #[.val (.int p1), .val (.long q2), .second, .val (.long q3), .second, .val (.long q4), .second, .val (.long q5), .second, .val (.int p6), .val (.int (1 : Int32)), .val (.int zm), .val (.long y1), .second, .val (.long y2), .second, .val (.long y3), .second, .val (.long y4), .second, .val (.double z1), .second, .val (.double z2), .second, .val (.double z3), .second, .val (.ref b17), .val (.int (1 : Int32)), .val (.int (0 : Int32)), .val (.int (0 : Int32))] [(.double z3), (.long y3), (.int (0 : Int32)), (.double z2), (.long y2), (.int (0 : Int32)), (.double z1), (.long y1), (.int (1 : Int32)), (.long y4), (.double (own_f6 y4 fk1 gk1))])) rfl (by rw [hml]; rfl) (argsL := [(.double (own_f6 y4 fk1 gk1)), (.long y4), (.int (1 : Int32)), (.long y1), (.double z1), (.int (0 : Int32)), (.long y2), (.double z2), (.int (0 : Int32)), (.long y3), (.double z3)]) (rest := []) (lenOf pd_6 rfl) rfl (by show 2 * 0 + _ ≤ _; exact Nat.le_of_eq rfl) (hb hby at_366) (fun _ _ => ⟨rfl, e26, (by decide : 3 + 0 ≤ _), (by decide : 37 + 0 ≤ _)⟩)) (c' := 3) (n' := 37) rfl rfl
    obtain ⟨rfl, N27q, e27⟩ := hQ27
    have N27 := Fr.app N26 N27q
    refine own_go st27 ?_
    show own_Go p.tables e below _ (T27.setTop (mkF m 369 #[.val (.int p1), .val (.long q2), .second, .val (.long q3), .second, .val (.long q4), .second, .val (.long q5), .second, .val (.int p6), .val (.int (1 : Int32)), .val (.int zm), .val (.long y1), .second, .val (.long y2), .second, .val (.long y3), .second, .val (.long y4), .second, .val (.double z1), .second, .val (.double z2), .second, .val (.double z3), .second, .val (.ref b17), .val (.int (1 : Int32)), .val (.int (0 : Int32)), .val (.int (0 : Int32))] [(.int (own_f8 (own_f6 y4 fk1 gk1) y4 (1 : Int32) y1 z1 (0 : Int32) y2 z2 (0 : Int32) y3 z3))]))
    refine own_go (fun _ => XS.ifNo X27.here hx rfl (hb hby at_369) rfl ((if0 _ _).trans (feq (own_ok1 J1 hy4 hz1 hz2 hz3)).1)) ?_
    show own_Go p.tables e below _ (T27.setTop (mkF m 372 #[.val (.int p1), .val (.long q2), .second, .val (.long q3), .second, .val (.long q4), .second, .val (.long q5), .second, .val (.int p6), .val (.int (1 : Int32)), .val (.int zm), .val (.long y1), .second, .val (.long y2), .second, .val (.long y3), .second, .val (.long y4), .second, .val (.double z1), .second, .val (.double z2), .second, .val (.double z3), .second, .val (.ref b17), .val (.int (1 : Int32)), .val (.int (0 : Int32)), .val (.int (0 : Int32))] []))
    refine own_go (fun _ => XS.iconst X27.here hx rfl (hb hby at_372)) ?_
    show own_Go p.tables e below _ (T27.setTop (mkF m 373 #[.val (.int p1), .val (.long q2), .second, .val (.long q3), .second, .val (.long q4), .second, .val (.long q5), .second, .val (.int p6), .val (.int (1 : Int32)), .val (.int zm), .val (.long y1), .second, .val (.long y2), .second, .val (.long y3), .second, .val (.long y4), .second, .val (.double z1), .second, .val (.double z2), .second, .val (.double z3), .second, .val (.ref b17), .val (.int (1 : Int32)), .val (.int (0 : Int32)), .val (.int (0 : Int32))] [(.int (1 : Int32))]))
    refine own_go (fun _ => XS.goto X27.here hx rfl (pc0 := 373) (pc' := 377) rfl (hb hby at_373) (by decide) (by decide)) ?_
    show own_Go p.tables e below _ (T27.setTop (mkF m 377 #[.val (.int p1), .val (.long q2), .second, .val (.long q3), .second, .val (.long q4), .second, .val (.long q5), .second, .val (.int p6), .val (.int (1 : Int32)), .val (.int zm), .val (.long y1), .second, .val (.long y2), .second, .val (.long y3), .second, .val (.long y4), .second, .val (.double z1), .second, .val (.double z2), .second, .val (.double z3), .second, .val (.ref b17), .val (.int (1 : Int32)), .val (.int (0 : Int32)), .val (.int (0 : Int32))] [(.int (1 : Int32))]))
    refine own_retN X27 Bd.notSynchronized hx (t := .boolean) Bd.returns (by simp) (hb hby at_377) (show Q0 Z p1 q2 q3 q4 q5 p6 h0 n0 _ T27.heap _ from by rw [e27]; exact ⟨rfl, N27⟩) (by decide) (by decide)
  · skip
    show own_Go p.tables e below _ (s₁.setTop (mkF m 44 #[.val (.int p1), .val (.long q2), .second, .val (.long q3), .second, .val (.long q4), .second, .val (.long q5), .second, .val (.int p6), .val (.int (p1 &&& (3 : Int32))), .val (.int zm), .val (.long y1), .second, .val (.long y2), .second, .val (.long y3), .second, .val (.long y4), .second, .unset, .unset, .unset, .unset, .unset, .unset, .unset, .unset, .unset, .unset] []))
    rw [hn]
    show own_Go p.tables e below _ (s₁.setTop (mkF m 44 #[.val (.int p1), .val (.long q2), .second, .val (.long q3), .second, .val (.long q4), .second, .val (.long q5), .second, .val (.int p6), .val (.int (2 : Int32)), .val (.int zm), .val (.long y1), .second, .val (.long y2), .second, .val (.long y3), .second, .val (.long y4), .second, .unset, .unset, .unset, .unset, .unset, .unset, .unset, .unset, .unset, .unset] []))
    refine own_go (fun _ => XS.iload X0.here hx rfl (hb hby at_44) rfl) ?_
    show own_Go p.tables e below _ (s₁.setTop (mkF m 46 #[.val (.int p1), .val (.long q2), .second, .val (.long q3), .second, .val (.long q4), .second, .val (.long q5), .second, .val (.int p6), .val (.int (2 : Int32)), .val (.int zm), .val (.long y1), .second, .val (.long y2), .second, .val (.long y3), .second, .val (.long y4), .second, .unset, .unset, .unset, .unset, .unset, .unset, .unset, .unset, .unset, .unset] [(.int (2 : Int32))]))
    refine own_go (fun _ => XS.iconst X0.here hx rfl (hb hby at_46)) ?_
    show own_Go p.tables e below _ (s₁.setTop (mkF m 47 #[.val (.int p1), .val (.long q2), .second, .val (.long q3), .second, .val (.long q4), .second, .val (.long q5), .second, .val (.int p6), .val (.int (2 : Int32)), .val (.int zm), .val (.long y1), .second, .val (.long y2), .second, .val (.long y3), .second, .val (.long y4), .second, .unset, .unset, .unset, .unset, .unset, .unset, .unset, .unset, .unset, .unset] [(.int (2 : Int32)), (.int (2 : Int32))]))
    refine own_go (fun _ => XS.icmpNo X0.here hx rfl (hb hby at_47) rfl (flt (by decide : ¬ ((2 : Int32) < (2 : Int32)))).1) ?_
    show own_Go p.tables e below _ (s₁.setTop (mkF m 50 #[.val (.int p1), .val (.long q2), .second, .val (.long q3), .second, .val (.long q4), .second, .val (.long q5), .second, .val (.int p6), .val (.int (2 : Int32)), .val (.int zm), .val (.long y1), .second, .val (.long y2), .second, .val (.long y3), .second, .val (.long y4), .second, .unset, .unset, .unset, .unset, .unset, .unset, .unset, .unset, .unset, .unset] []))
    refine own_go (fun _ => XS.lload X0.here hx rfl (hb hby at_50) rfl) ?_
    show own_Go p.tables e below _ (s₁.setTop (mkF m 52 #[.val (.int p1), .val (.long q2), .second, .val (.long q3), .second, .val (.long q4), .second, .val (.long q5), .second, .val (.int p6), .val (.int (2 : Int32)), .val (.int zm), .val (.long y1), .second, .val (.long y2), .second, .val (.long y3), .second, .val (.long y4), .second, .unset, .unset, .unset, .unset, .unset, .unset, .unset, .unset, .unset, .unset] [(.long y1)]))
    refine own_go (fun _ => XS.lload X0.here hx rfl (hb hby at_52) rfl) ?_
    show own_Go p.tables e below _ (s₁.setTop (mkF m 54 #[.val (.int p1), .val (.long q2), .second, .val (.long q3), .second, .val (.long q4), .second, .val (.long q5), .second, .val (.int p6), .val (.int (2 : Int32)), .val (.int zm), .val (.long y1), .second, .val (.long y2), .second, .val (.long y3), .second, .val (.long y4), .second, .unset, .unset, .unset, .unset, .unset, .unset, .unset, .unset, .unset, .unset] [(.long y2), (.long y1)]))
    refine own_go (fun _ => XS.lcmp X0.here hx rfl (hb hby at_54) rfl) ?_
    show own_Go p.tables e below _ (s₁.setTop (mkF m 55 #[.val (.int p1), .val (.long q2), .second, .val (.long q3), .second, .val (.long q4), .second, .val (.long q5), .second, .val (.int p6), .val (.int (2 : Int32)), .val (.int zm), .val (.long y1), .second, .val (.long y2), .second, .val (.long y3), .second, .val (.long y4), .second, .unset, .unset, .unset, .unset, .unset, .unset, .unset, .unset, .unset, .unset] [(.int (lcmpW y1 y2))]))
    by_cases hc28_55 : (lcmpW y1 y2) = (0 : Int32)
    · skip
      refine own_go (fun _ => XS.ifNo X0.here hx rfl (hb hby at_55) rfl ((if0 _ _).trans (teq hc28_55).2)) ?_
      show own_Go p.tables e below _ (s₁.setTop (mkF m 58 #[.val (.int p1), .val (.long q2), .second, .val (.long q3), .second, .val (.long q4), .second, .val (.long q5), .second, .val (.int p6), .val (.int (2 : Int32)), .val (.int zm), .val (.long y1), .second, .val (.long y2), .second, .val (.long y3), .second, .val (.long y4), .second, .unset, .unset, .unset, .unset, .unset, .unset, .unset, .unset, .unset, .unset] []))
      refine own_go (fun _ => XS.iconst X0.here hx rfl (hb hby at_58)) ?_
      show own_Go p.tables e below _ (s₁.setTop (mkF m 59 #[.val (.int p1), .val (.long q2), .second, .val (.long q3), .second, .val (.long q4), .second, .val (.long q5), .second, .val (.int p6), .val (.int (2 : Int32)), .val (.int zm), .val (.long y1), .second, .val (.long y2), .second, .val (.long y3), .second, .val (.long y4), .second, .unset, .unset, .unset, .unset, .unset, .unset, .unset, .unset, .unset, .unset] [(.int (1 : Int32))]))
      refine own_retN X0 Bd.notSynchronized hx (t := .boolean) Bd.returns (by simp) (hb hby at_59) (show Q0 Z p1 q2 q3 q4 q5 p6 h0 n0 _ s₁.heap _ from by rw [e0]; exact ⟨rfl, N0⟩) (by decide) (by decide)
    · skip
      refine own_go (fun _ => XS.ifYes X0.here hx rfl (pc0 := 55) (pc' := 60) rfl (hb hby at_55) rfl ((if0 _ _).trans (feq hc28_55).2) (by decide) (by decide)) ?_
      show own_Go p.tables e below _ (s₁.setTop (mkF m 60 #[.val (.int p1), .val (.long q2), .second, .val (.long q3), .second, .val (.long q4), .second, .val (.long q5), .second, .val (.int p6), .val (.int (2 : Int32)), .val (.int zm), .val (.long y1), .second, .val (.long y2), .second, .val (.long y3), .second, .val (.long y4), .second, .unset, .unset, .unset, .unset, .unset, .unset, .unset, .unset, .unset, .unset] []))
      refine own_go (fun _ => XS.iload X0.here hx rfl (hb hby at_60) rfl) ?_
      show own_Go p.tables e below _ (s₁.setTop (mkF m 62 #[.val (.int p1), .val (.long q2), .second, .val (.long q3), .second, .val (.long q4), .second, .val (.long q5), .second, .val (.int p6), .val (.int (2 : Int32)), .val (.int zm), .val (.long y1), .second, .val (.long y2), .second, .val (.long y3), .second, .val (.long y4), .second, .unset, .unset, .unset, .unset, .unset, .unset, .unset, .unset, .unset, .unset] [(.int (2 : Int32))]))
      refine own_go (fun _ => XS.iconst X0.here hx rfl (hb hby at_62)) ?_
      show own_Go p.tables e below _ (s₁.setTop (mkF m 63 #[.val (.int p1), .val (.long q2), .second, .val (.long q3), .second, .val (.long q4), .second, .val (.long q5), .second, .val (.int p6), .val (.int (2 : Int32)), .val (.int zm), .val (.long y1), .second, .val (.long y2), .second, .val (.long y3), .second, .val (.long y4), .second, .unset, .unset, .unset, .unset, .unset, .unset, .unset, .unset, .unset, .unset] [(.int (3 : Int32)), (.int (2 : Int32))]))
      refine own_go (fun _ => XS.icmpYes X0.here hx rfl (pc0 := 63) (pc' := 90) rfl (hb hby at_63) rfl (feq (by decide : ¬ ((2 : Int32) = (3 : Int32)))).2 (by decide) (by decide)) ?_
      show own_Go p.tables e below _ (s₁.setTop (mkF m 90 #[.val (.int p1), .val (.long q2), .second, .val (.long q3), .second, .val (.long q4), .second, .val (.long q5), .second, .val (.int p6), .val (.int (2 : Int32)), .val (.int zm), .val (.long y1), .second, .val (.long y2), .second, .val (.long y3), .second, .val (.long y4), .second, .unset, .unset, .unset, .unset, .unset, .unset, .unset, .unset, .unset, .unset] []))
      refine own_go (fun _ => XS.iload X0.here hx rfl (hb hby at_90) rfl) ?_
      show own_Go p.tables e below _ (s₁.setTop (mkF m 92 #[.val (.int p1), .val (.long q2), .second, .val (.long q3), .second, .val (.long q4), .second, .val (.long q5), .second, .val (.int p6), .val (.int (2 : Int32)), .val (.int zm), .val (.long y1), .second, .val (.long y2), .second, .val (.long y3), .second, .val (.long y4), .second, .unset, .unset, .unset, .unset, .unset, .unset, .unset, .unset, .unset, .unset] [(.int p6)]))
      refine own_go (fun _ => XS.i2dS X0.here hx rfl (hb hby at_92) rfl rfl) ?_
      show own_Go p.tables e below _ (s₁.setTop (mkF m 93 #[.val (.int p1), .val (.long q2), .second, .val (.long q3), .second, .val (.long q4), .second, .val (.long q5), .second, .val (.int p6), .val (.int (2 : Int32)), .val (.int zm), .val (.long y1), .second, .val (.long y2), .second, .val (.long y3), .second, .val (.long y4), .second, .unset, .unset, .unset, .unset, .unset, .unset, .unset, .unset, .unset, .unset] [(.double (FP.i2d p6))]))
      refine own_go (fun _ => XS.dstore X0.here hx rfl (hb hby at_93) rfl (l' := #[.val (.int p1), .val (.long q2), .second, .val (.long q3), .second, .val (.long q4), .second, .val (.long q5), .second, .val (.int p6), .val (.int (2 : Int32)), .val (.int zm), .val (.long y1), .second, .val (.long y2), .second, .val (.long y3), .second, .val (.long y4), .second, .val (.double (FP.i2d p6)), .second, .unset, .unset, .unset, .unset, .unset, .unset, .unset, .unset]) rfl) ?_
      show own_Go p.tables e below _ (s₁.setTop (mkF m 95 #[.val (.int p1), .val (.long q2), .second, .val (.long q3), .second, .val (.long q4), .second, .val (.long q5), .second, .val (.int p6), .val (.int (2 : Int32)), .val (.int zm), .val (.long y1), .second, .val (.long y2), .second, .val (.long y3), .second, .val (.long y4), .second, .val (.double (FP.i2d p6)), .second, .unset, .unset, .unset, .unset, .unset, .unset, .unset, .unset] []))
      refine own_go (fun _ => XS.iload X0.here hx rfl (hb hby at_95) rfl) ?_
      show own_Go p.tables e below _ (s₁.setTop (mkF m 97 #[.val (.int p1), .val (.long q2), .second, .val (.long q3), .second, .val (.long q4), .second, .val (.long q5), .second, .val (.int p6), .val (.int (2 : Int32)), .val (.int zm), .val (.long y1), .second, .val (.long y2), .second, .val (.long y3), .second, .val (.long y4), .second, .val (.double (FP.i2d p6)), .second, .unset, .unset, .unset, .unset, .unset, .unset, .unset, .unset] [(.int p6)]))
      refine own_go (fun _ => XS.iconst X0.here hx rfl (hb hby at_97)) ?_
      show own_Go p.tables e below _ (s₁.setTop (mkF m 98 #[.val (.int p1), .val (.long q2), .second, .val (.long q3), .second, .val (.long q4), .second, .val (.long q5), .second, .val (.int p6), .val (.int (2 : Int32)), .val (.int zm), .val (.long y1), .second, .val (.long y2), .second, .val (.long y3), .second, .val (.long y4), .second, .val (.double (FP.i2d p6)), .second, .unset, .unset, .unset, .unset, .unset, .unset, .unset, .unset] [(.int (1 : Int32)), (.int p6)]))
      refine own_go (fun _ => XS.iadd X0.here hx rfl (hb hby at_98) rfl) ?_
      show own_Go p.tables e below _ (s₁.setTop (mkF m 99 #[.val (.int p1), .val (.long q2), .second, .val (.long q3), .second, .val (.long q4), .second, .val (.long q5), .second, .val (.int p6), .val (.int (2 : Int32)), .val (.int zm), .val (.long y1), .second, .val (.long y2), .second, .val (.long y3), .second, .val (.long y4), .second, .val (.double (FP.i2d p6)), .second, .unset, .unset, .unset, .unset, .unset, .unset, .unset, .unset] [(.int (p6 + (1 : Int32)))]))
      refine own_go (fun _ => XS.i2dS X0.here hx rfl (hb hby at_99) rfl rfl) ?_
      show own_Go p.tables e below _ (s₁.setTop (mkF m 100 #[.val (.int p1), .val (.long q2), .second, .val (.long q3), .second, .val (.long q4), .second, .val (.long q5), .second, .val (.int p6), .val (.int (2 : Int32)), .val (.int zm), .val (.long y1), .second, .val (.long y2), .second, .val (.long y3), .second, .val (.long y4), .second, .val (.double (FP.i2d p6)), .second, .unset, .unset, .unset, .unset, .unset, .unset, .unset, .unset] [(.double (FP.i2d (p6 + (1 : Int32))))]))
      refine own_go (fun _ => XS.dstore X0.here hx rfl (hb hby at_100) rfl (l' := #[.val (.int p1), .val (.long q2), .second, .val (.long q3), .second, .val (.long q4), .second, .val (.long q5), .second, .val (.int p6), .val (.int (2 : Int32)), .val (.int zm), .val (.long y1), .second, .val (.long y2), .second, .val (.long y3), .second, .val (.long y4), .second, .val (.double (FP.i2d p6)), .second, .val (.double (FP.i2d (p6 + (1 : Int32)))), .second, .unset, .unset, .unset, .unset, .unset, .unset]) rfl) ?_
      show own_Go p.tables e below _ (s₁.setTop (mkF m 102 #[.val (.int p1), .val (.long q2), .second, .val (.long q3), .second, .val (.long q4), .second, .val (.long q5), .second, .val (.int p6), .val (.int (2 : Int32)), .val (.int zm), .val (.long y1), .second, .val (.long y2), .second, .val (.long y3), .second, .val (.long y4), .second, .val (.double (FP.i2d p6)), .second, .val (.double (FP.i2d (p6 + (1 : Int32)))), .second, .unset, .unset, .unset, .unset, .unset, .unset] []))
      refine own_go (fun _ => XS.iload X0.here hx rfl (hb hby at_102) rfl) ?_
      show own_Go p.tables e below _ (s₁.setTop (mkF m 104 #[.val (.int p1), .val (.long q2), .second, .val (.long q3), .second, .val (.long q4), .second, .val (.long q5), .second, .val (.int p6), .val (.int (2 : Int32)), .val (.int zm), .val (.long y1), .second, .val (.long y2), .second, .val (.long y3), .second, .val (.long y4), .second, .val (.double (FP.i2d p6)), .second, .val (.double (FP.i2d (p6 + (1 : Int32)))), .second, .unset, .unset, .unset, .unset, .unset, .unset] [(.int p6)]))
      refine own_go (fun _ => XS.iconst X0.here hx rfl (hb hby at_104)) ?_
      show own_Go p.tables e below _ (s₁.setTop (mkF m 105 #[.val (.int p1), .val (.long q2), .second, .val (.long q3), .second, .val (.long q4), .second, .val (.long q5), .second, .val (.int p6), .val (.int (2 : Int32)), .val (.int zm), .val (.long y1), .second, .val (.long y2), .second, .val (.long y3), .second, .val (.long y4), .second, .val (.double (FP.i2d p6)), .second, .val (.double (FP.i2d (p6 + (1 : Int32)))), .second, .unset, .unset, .unset, .unset, .unset, .unset] [(.int (2 : Int32)), (.int p6)]))
      refine own_go (fun _ => XS.iadd X0.here hx rfl (hb hby at_105) rfl) ?_
      show own_Go p.tables e below _ (s₁.setTop (mkF m 106 #[.val (.int p1), .val (.long q2), .second, .val (.long q3), .second, .val (.long q4), .second, .val (.long q5), .second, .val (.int p6), .val (.int (2 : Int32)), .val (.int zm), .val (.long y1), .second, .val (.long y2), .second, .val (.long y3), .second, .val (.long y4), .second, .val (.double (FP.i2d p6)), .second, .val (.double (FP.i2d (p6 + (1 : Int32)))), .second, .unset, .unset, .unset, .unset, .unset, .unset] [(.int (p6 + (2 : Int32)))]))
      refine own_go (fun _ => XS.i2dS X0.here hx rfl (hb hby at_106) rfl rfl) ?_
      show own_Go p.tables e below _ (s₁.setTop (mkF m 107 #[.val (.int p1), .val (.long q2), .second, .val (.long q3), .second, .val (.long q4), .second, .val (.long q5), .second, .val (.int p6), .val (.int (2 : Int32)), .val (.int zm), .val (.long y1), .second, .val (.long y2), .second, .val (.long y3), .second, .val (.long y4), .second, .val (.double (FP.i2d p6)), .second, .val (.double (FP.i2d (p6 + (1 : Int32)))), .second, .unset, .unset, .unset, .unset, .unset, .unset] [(.double (FP.i2d (p6 + (2 : Int32))))]))
      refine own_go (fun _ => XS.dstore X0.here hx rfl (hb hby at_107) rfl (l' := #[.val (.int p1), .val (.long q2), .second, .val (.long q3), .second, .val (.long q4), .second, .val (.long q5), .second, .val (.int p6), .val (.int (2 : Int32)), .val (.int zm), .val (.long y1), .second, .val (.long y2), .second, .val (.long y3), .second, .val (.long y4), .second, .val (.double (FP.i2d p6)), .second, .val (.double (FP.i2d (p6 + (1 : Int32)))), .second, .val (.double (FP.i2d (p6 + (2 : Int32)))), .second, .unset, .unset, .unset, .unset]) rfl) ?_
      show own_Go p.tables e below _ (s₁.setTop (mkF m 109 #[.val (.int p1), .val (.long q2), .second, .val (.long q3), .second, .val (.long q4), .second, .val (.long q5), .second, .val (.int p6), .val (.int (2 : Int32)), .val (.int zm), .val (.long y1), .second, .val (.long y2), .second, .val (.long y3), .second, .val (.long y4), .second, .val (.double (FP.i2d p6)), .second, .val (.double (FP.i2d (p6 + (1 : Int32)))), .second, .val (.double (FP.i2d (p6 + (2 : Int32)))), .second, .unset, .unset, .unset, .unset] []))
      obtain ⟨z1, ez1⟩ : ∃ z, z = (FP.i2d p6) := ⟨_, rfl⟩
      have hz1 : cmpValue (FP.dcmp z1 z1) .l = 0 := ez1.symm ▸ own_i2dS _
      rw [← ez1]
      obtain ⟨z2, ez2⟩ : ∃ z, z = (FP.i2d (p6 + (1 : Int32))) := ⟨_, rfl⟩
      have hz2 : cmpValue (FP.dcmp z2 z2) .l = 0 := ez2.symm ▸ own_i2dS _
      rw [← ez2]
      obtain ⟨z3, ez3⟩ : ∃ z, z = (FP.i2d (p6 + (2 : Int32))) := ⟨_, rfl⟩
      have hz3 : cmpValue (FP.dcmp z3 z3) .l = 0 := ez3.symm ▸ own_i2dS _
      rw [← ez3]
      show own_Go p.tables e below _ (s₁.setTop (mkF m 109 #[.val (.int p1), .val (.long q2), .second, .val (.long q3), .second, .val (.long q4), .second, .val (.long q5), .second, .val (.int p6), .val (.int (2 : Int32)), .val (.int zm), .val (.long y1), .second, .val (.long y2), .second, .val (.long y3), .second, .val (.long y4), .second, .val (.double z1), .second, .val (.double z2), .second, .val (.double z3), .second, .unset, .unset, .unset, .unset] []))
      obtain ⟨T29, h29, X29, e29, E29, A29, D29, -, st29⟩ := newO X0 hx hZ hown (hw _ (List.mem_of_getElem? (i := 1) rfl)) (hw _ (List.mem_of_getElem? (i := 2) rfl)) (hw _ (List.mem_of_getElem? (i := 3) rfl)) e0 (g := (mkF m 109 #[.val (.int p1), .val (.long q2), .second, .val (.long q3), .second, .val (.long q4), .second, .val (.long q5), .second, .val (.int p6), .val (.int (2 : Int32)), .val (.int zm), .val (.long y1), .second, .val (.long y2), .second, .val (.long y3), .second, .val (.long y4), .second, .val (.double z1), .second, .val (.double z2), .second, .val (.double z3), .second, .unset, .unset, .unset, .unset] [])) rfl (hb hby at_109) (by decide) (by decide)
      obtain ⟨b29, g29⟩ : ∃ z, z = h0.size := ⟨_, rfl⟩
      rw [← g29] at A29 D29 st29
      refine own_go st29 ?_
      have g_b29 : n0 ≤ b29 := Nat.le_trans Z0 (Nat.le_of_eq g29.symm)
      have sz_b29 : h0.size ≤ b29 := (Nat.le_trans (Keep.refl h0 []).1 (Nat.le_of_eq g29.symm))
      have K29 : Keep h0 h29 [] := (Keep.refl h0 []).ext E29
      have F_most_b29 : Fld Z h29 b29 "com/example/outis/outis/clustering/KeptCharges" "most" "I" (.int (0 : Int32)) := D29 (Or.inr (hw _ (List.mem_of_getElem? (i := 11) rfl))) (ty := .int) (by decide)
      have F_keys_b29 : Fld Z h29 b29 "com/example/outis/outis/clustering/KeptCharges" "keys" "[J" .null := D29 (Or.inl (hw _ (List.mem_of_getElem? (i := 18) rfl))) (ty := (.array .long)) (by decide)
      have F_charges_b29 : Fld Z h29 b29 "com/example/outis/outis/clustering/KeptCharges" "charges" "[D" .null := D29 (Or.inl (hw _ (List.mem_of_getElem? (i := 26) rfl))) (ty := (.array .double)) (by decide)
      have F_bits_b29 : Fld Z h29 b29 "com/example/outis/outis/clustering/KeptCharges" "bits" "I" (.int (0 : Int32)) := D29 (Or.inl (hw _ (List.mem_of_getElem? (i := 33) rfl))) (ty := .int) (by decide)
      have F_size_b29 : Fld Z h29 b29 "com/example/outis/outis/clustering/KeptCharges" "size" "I" (.int (0 : Int32)) := D29 (Or.inl (hw _ (List.mem_of_getElem? (i := 55) rfl))) (ty := .int) (by decide)
      show own_Go p.tables e below _ (T29.setTop (mkF m 112 #[.val (.int p1), .val (.long q2), .second, .val (.long q3), .second, .val (.long q4), .second, .val (.long q5), .second, .val (.int p6), .val (.int (2 : Int32)), .val (.int zm), .val (.long y1), .second, .val (.long y2), .second, .val (.long y3), .second, .val (.long y4), .second, .val (.double z1), .second, .val (.double z2), .second, .val (.double z3), .second, .unset, .unset, .unset, .unset] [(.ref b29)]))
      refine own_go (fun _ => XS.dup X29.here hx rfl (hb hby at_112) rfl rfl) ?_
      show own_Go p.tables e below _ (T29.setTop (mkF m 113 #[.val (.int p1), .val (.long q2), .second, .val (.long q3), .second, .val (.long q4), .second, .val (.long q5), .second, .val (.int p6), .val (.int (2 : Int32)), .val (.int zm), .val (.long y1), .second, .val (.long y2), .second, .val (.long y3), .second, .val (.long y4), .second, .val (.double z1), .second, .val (.double z2), .second, .val (.double z3), .second, .unset, .unset, .unset, .unset] [(.ref b29), (.ref b29)]))
      refine own_go (fun _ => XS.iload X29.here hx rfl (hb hby at_113) rfl) ?_
      show own_Go p.tables e below _ (T29.setTop (mkF m 115 #[.val (.int p1), .val (.long q2), .second, .val (.long q3), .second, .val (.long q4), .second, .val (.long q5), .second, .val (.int p6), .val (.int (2 : Int32)), .val (.int zm), .val (.long y1), .second, .val (.long y2), .second, .val (.long y3), .second, .val (.long y4), .second, .val (.double z1), .second, .val (.double z2), .second, .val (.double z3), .second, .unset, .unset, .unset, .unset] [(.int zm), (.ref b29), (.ref b29)]))
      obtain ⟨v30, T30, L30, X30, hQ30, st30⟩ := own_tidyV X29 (X29.specialBack hx (y := (⟨"com/example/outis/outis/clustering/KeptCharges", "<init>", "(I)V"⟩ : MethodName)) rfl hown (mvT hZ (hw _ (List.mem_of_getElem? (i := 4) rfl))) (mvT hZ (hw _ (List.mem_of_getElem? (i := 5) rfl))) (mvT hZ (hw _ (List.mem_of_getElem? (i := 6) rfl))) (by decide) (backOf (W := 1) (rm1 l Z a0 hw [] b29 zm (.int (0 : Int32)) (.int (0 : Int32)) .null .null (.int (0 : Int32)) h29 n0 (Nat.le_trans Z0 E29.1) F_size_b29 A29 F_most_b29 g_b29 F_keys_b29 F_charges_b29 F_bits_b29) hZ (hw _ (List.mem_of_getElem? (i := 6) rfl)) (hw _ (List.mem_of_getElem? (i := 3) rfl)) (by decide) (by decide)) (g := (mkF m 115 #[.val (.int p1), .val (.long q2), .second, .val (.long q3), .second, .val (.long q4), .second, .val (.long q5), .second, .val (.int p6), .val (.int (2 : Int32)), .val (.int zm), .val (.long y1), .second, .val (.long y2), .second, .val (.long y3), .second, .val (.long y4), .second, .val (.double z1), .second, .val (.double z2), .second, .val (.double z3), .second, .unset, .unset, .unset, .unset] [(.int zm), (.ref b29), (.ref b29)])) rfl (by rw [hml]; rfl) (Steps.refl _) (a := b29) (argsL := [(.int zm)]) (rest := [(.ref b29)]) (lenOf pd_0 rfl) rfl (by show 2 * 0 + _ ≤ _; exact Nat.le_of_eq rfl) (hb hby at_115) (fun _ _ => ⟨rfl, e29, (by decide : 1 + 2 ≤ _), (by decide : 5 + 32 ≤ _)⟩)) (c' := 3) (n' := 37) rfl rfl
      obtain ⟨rfl, N30q, Kc30, e30_0, e30_1, kc30_0, kc30_1, g_e30_0, se_e30_0, g_e30_1, se_e30_1, ne30_0_1, F30_0, F30_1, F30_2, F30_3, F30_4, F30_5, F30_6, F30_7, F30_8⟩ := hQ30
      have N30 := Fr.app N0 N30q
      refine own_via st30 ?_
      have K30 : Keep h0 T30.heap [] := K29.trans Kc30 (allS (Or.inr sz_b29) all0)
      have sz_e30_0 : h0.size ≤ e30_0 := Nat.le_trans K29.1 se_e30_0
      have sz_e30_1 : h0.size ≤ e30_1 := Nat.le_trans K29.1 se_e30_1
      show own_Go p.tables e below _ (T30.setTop (mkF m 118 #[.val (.int p1), .val (.long q2), .second, .val (.long q3), .second, .val (.long q4), .second, .val (.long q5), .second, .val (.int p6), .val (.int (2 : Int32)), .val (.int zm), .val (.long y1), .second, .val (.long y2), .second, .val (.long y3), .second, .val (.long y4), .second, .val (.double z1), .second, .val (.double z2), .second, .val (.double z3), .second, .unset, .unset, .unset, .unset] [(.ref b29)]))
      refine own_go (fun _ => XS.astore X30.here hx rfl (hb hby at_118) rfl rfl (l' := #[.val (.int p1), .val (.long q2), .second, .val (.long q3), .second, .val (.long q4), .second, .val (.long q5), .second, .val (.int p6), .val (.int (2 : Int32)), .val (.int zm), .val (.long y1), .second, .val (.long y2), .second, .val (.long y3), .second, .val (.long y4), .second, .val (.double z1), .second, .val (.double z2), .second, .val (.double z3), .second, .val (.ref b29), .unset, .unset, .unset]) rfl) ?_
      show own_Go p.tables e below _ (T30.setTop (mkF m 120 #[.val (.int p1), .val (.long q2), .second, .val (.long q3), .second, .val (.long q4), .second, .val (.long q5), .second, .val (.int p6), .val (.int (2 : Int32)), .val (.int zm), .val (.long y1), .second, .val (.long y2), .second, .val (.long y3), .second, .val (.long y4), .second, .val (.double z1), .second, .val (.double z2), .second, .val (.double z3), .second, .val (.ref b29), .unset, .unset, .unset] []))
      refine own_go (fun _ => XS.iload X30.here hx rfl (hb hby at_120) rfl) ?_
      show own_Go p.tables e below _ (T30.setTop (mkF m 122 #[.val (.int p1), .val (.long q2), .second, .val (.long q3), .second, .val (.long q4), .second, .val (.long q5), .second, .val (.int p6), .val (.int (2 : Int32)), .val (.int zm), .val (.long y1), .second, .val (.long y2), .second, .val (.long y3), .second, .val (.long y4), .second, .val (.double z1), .second, .val (.double z2), .second, .val (.double z3), .second, .val (.ref b29), .unset, .unset, .unset] [(.int (2 : Int32))]))
      refine own_go (fun _ => XS.iconst X30.here hx rfl (hb hby at_122)) ?_
      show own_Go p.tables e below _ (T30.setTop (mkF m 123 #[.val (.int p1), .val (.long q2), .second, .val (.long q3), .second, .val (.long q4), .second, .val (.long q5), .second, .val (.int p6), .val (.int (2 : Int32)), .val (.int zm), .val (.long y1), .second, .val (.long y2), .second, .val (.long y3), .second, .val (.long y4), .second, .val (.double z1), .second, .val (.double z2), .second, .val (.double z3), .second, .val (.ref b29), .unset, .unset, .unset] [(.int (1 : Int32)), (.int (2 : Int32))]))
      refine own_go (fun _ => XS.icmpNo X30.here hx rfl (hb hby at_123) rfl (flt (by decide : ¬ ((2 : Int32) < (1 : Int32)))).1) ?_
      show own_Go p.tables e below _ (T30.setTop (mkF m 126 #[.val (.int p1), .val (.long q2), .second, .val (.long q3), .second, .val (.long q4), .second, .val (.long q5), .second, .val (.int p6), .val (.int (2 : Int32)), .val (.int zm), .val (.long y1), .second, .val (.long y2), .second, .val (.long y3), .second, .val (.long y4), .second, .val (.double z1), .second, .val (.double z2), .second, .val (.double z3), .second, .val (.ref b29), .unset, .unset, .unset] []))
      refine own_go (fun _ => XS.aload X30.here hx rfl (hb hby at_126) rfl rfl) ?_
      show own_Go p.tables e below _ (T30.setTop (mkF m 128 #[.val (.int p1), .val (.long q2), .second, .val (.long q3), .second, .val (.long q4), .second, .val (.long q5), .second, .val (.int p6), .val (.int (2 : Int32)), .val (.int zm), .val (.long y1), .second, .val (.long y2), .second, .val (.long y3), .second, .val (.long y4), .second, .val (.double z1), .second, .val (.double z2), .second, .val (.double z3), .second, .val (.ref b29), .unset, .unset, .unset] [(.ref b29)]))
      refine own_go (fun _ => XS.lload X30.here hx rfl (hb hby at_128) rfl) ?_
      show own_Go p.tables e below _ (T30.setTop (mkF m 130 #[.val (.int p1), .val (.long q2), .second, .val (.long q3), .second, .val (.long q4), .second, .val (.long q5), .second, .val (.int p6), .val (.int (2 : Int32)), .val (.int zm), .val (.long y1), .second, .val (.long y2), .second, .val (.long y3), .second, .val (.long y4), .second, .val (.double z1), .second, .val (.double z2), .second, .val (.double z3), .second, .val (.ref b29), .unset, .unset, .unset] [(.long y1), (.ref b29)]))
      refine own_go (fun _ => XS.dload X30.here hx rfl (hb hby at_130) rfl) ?_
      show own_Go p.tables e below _ (T30.setTop (mkF m 132 #[.val (.int p1), .val (.long q2), .second, .val (.long q3), .second, .val (.long q4), .second, .val (.long q5), .second, .val (.int p6), .val (.int (2 : Int32)), .val (.int zm), .val (.long y1), .second, .val (.long y2), .second, .val (.long y3), .second, .val (.long y4), .second, .val (.double z1), .second, .val (.double z2), .second, .val (.double z3), .second, .val (.ref b29), .unset, .unset, .unset] [(.double z1), (.long y1), (.ref b29)]))
      obtain ⟨cq31, kq31, q31a, q31b, q31c⟩ := isOf hZ rfl F30_0
      obtain ⟨v31, T31, L31, X31, hQ31, st31⟩ := own_tidyV X30 (X30.virtualBack hx (y := (⟨"com/example/outis/outis/clustering/KeptCharges", "put", "(JD)V"⟩ : MethodName)) (z := (⟨"com/example/outis/outis/clustering/KeptCharges", "put", "(JD)V"⟩ : MethodName)) hown (mvT hZ (hw _ (List.mem_of_getElem? (i := 49) rfl))) (mvT hZ (hw _ (List.mem_of_getElem? (i := 50) rfl))) (notFace_of_selects (args := #[]) (mvT hZ (hw _ (List.mem_of_getElem? (i := 52) rfl)))) (mvT hZ (hw _ (List.mem_of_getElem? (i := 52) rfl))) (mvT hZ (hw _ (List.mem_of_getElem? (i := 51) rfl))) (by decide) (backOf (W := 0) (rm9 l Z a0 hw [] b29 y1 z1 (0 : Int32) zm e30_0 e30_1 (fun _ => (-1 : Int64)) (fun _ => 0) kc30_0 kc30_1 T30.heap n0 (Nat.le_trans (Nat.le_trans Z0 E29.1) Kc30.1) F30_6 F30_1 F30_4 F30_2 F30_3 F30_0 F30_7 F30_8 ne30_0_1 (by decide) (fun _ => own_finN _) g_b29 g_e30_0 g_e30_1) hZ (hw _ (List.mem_of_getElem? (i := 53) rfl)) (hw _ (List.mem_of_getElem? (i := 3) rfl)) (by decide) (by decide)) q31a q31c (g := (mkF m 132 #[.val (.int p1), .val (.long q2), .second, .val (.long q3), .second, .val (.long q4), .second, .val (.long q5), .second, .val (.int p6), .val (.int (2 : Int32)), .val (.int zm), .val (.long y1), .second, .val (.long y2), .second, .val (.long y3), .second, .val (.long y4), .second, .val (.double z1), .second, .val (.double z2), .second, .val (.double z3), .second, .val (.ref b29), .unset, .unset, .unset] [(.double z1), (.long y1), (.ref b29)])) rfl (by rw [hml]; rfl) (Steps.refl _) (argsL := [(.long y1), (.double z1)]) (rest := []) (lenOf pd_7 rfl) rfl (by show 2 * 0 + _ ≤ _; exact Nat.le_of_eq rfl) (hb hby at_132) (fun _ _ => ⟨rfl, rfl, (by decide : 3 + 0 ≤ _), (by decide : 37 + 0 ≤ _)⟩)) (c' := 3) (n' := 37) rfl rfl
      obtain ⟨rfl, N31q, Kc31, F31_0, F31_1, F31_2, F31_3, F31_4, F31_5, F31_6, F31_7⟩ := hQ31
      have N31 := Fr.app N30 N31q
      refine own_via st31 ?_
      have K31 : Keep h0 T31.heap [] := K30.trans Kc31 (allS (Or.inr sz_e30_0) (allS (Or.inr sz_b29) (allS (Or.inr sz_e30_1) all0)))
      have J1 : own_J (own_l1 zm y1 z1) (own_nk (0 : Int32) zm (fun _ => (-1 : Int64)) y1) (own_nd (0 : Int32) zm (fun _ => (-1 : Int64)) (fun _ => 0) y1 z1) := own_J1 _ hy1 _ _
      obtain ⟨fk1, efk1⟩ : ∃ z, z = (own_nk (0 : Int32) zm (fun _ => (-1 : Int64)) y1) := ⟨_, rfl⟩
      rw [← efk1] at J1 F31_6
      obtain ⟨gk1, egk1⟩ : ∃ z, z = (own_nd (0 : Int32) zm (fun _ => (-1 : Int64)) (fun _ => 0) y1 z1) := ⟨_, rfl⟩
      rw [← egk1] at J1 F31_7
      show own_Go p.tables e below _ (T31.setTop (mkF m 135 #[.val (.int p1), .val (.long q2), .second, .val (.long q3), .second, .val (.long q4), .second, .val (.long q5), .second, .val (.int p6), .val (.int (2 : Int32)), .val (.int zm), .val (.long y1), .second, .val (.long y2), .second, .val (.long y3), .second, .val (.long y4), .second, .val (.double z1), .second, .val (.double z2), .second, .val (.double z3), .second, .val (.ref b29), .unset, .unset, .unset] []))
      refine own_go (fun _ => XS.iload X31.here hx rfl (hb hby at_135) rfl) ?_
      show own_Go p.tables e below _ (T31.setTop (mkF m 137 #[.val (.int p1), .val (.long q2), .second, .val (.long q3), .second, .val (.long q4), .second, .val (.long q5), .second, .val (.int p6), .val (.int (2 : Int32)), .val (.int zm), .val (.long y1), .second, .val (.long y2), .second, .val (.long y3), .second, .val (.long y4), .second, .val (.double z1), .second, .val (.double z2), .second, .val (.double z3), .second, .val (.ref b29), .unset, .unset, .unset] [(.int (2 : Int32))]))
      refine own_go (fun _ => XS.iconst X31.here hx rfl (hb hby at_137)) ?_
      show own_Go p.tables e below _ (T31.setTop (mkF m 138 #[.val (.int p1), .val (.long q2), .second, .val (.long q3), .second, .val (.long q4), .second, .val (.long q5), .second, .val (.int p6), .val (.int (2 : Int32)), .val (.int zm), .val (.long y1), .second, .val (.long y2), .second, .val (.long y3), .second, .val (.long y4), .second, .val (.double z1), .second, .val (.double z2), .second, .val (.double z3), .second, .val (.ref b29), .unset, .unset, .unset] [(.int (2 : Int32)), (.int (2 : Int32))]))
      refine own_go (fun _ => XS.icmpNo X31.here hx rfl (hb hby at_138) rfl (flt (by decide : ¬ ((2 : Int32) < (2 : Int32)))).1) ?_
      show own_Go p.tables e below _ (T31.setTop (mkF m 141 #[.val (.int p1), .val (.long q2), .second, .val (.long q3), .second, .val (.long q4), .second, .val (.long q5), .second, .val (.int p6), .val (.int (2 : Int32)), .val (.int zm), .val (.long y1), .second, .val (.long y2), .second, .val (.long y3), .second, .val (.long y4), .second, .val (.double z1), .second, .val (.double z2), .second, .val (.double z3), .second, .val (.ref b29), .unset, .unset, .unset] []))
      refine own_go (fun _ => XS.aload X31.here hx rfl (hb hby at_141) rfl rfl) ?_
      show own_Go p.tables e below _ (T31.setTop (mkF m 143 #[.val (.int p1), .val (.long q2), .second, .val (.long q3), .second, .val (.long q4), .second, .val (.long q5), .second, .val (.int p6), .val (.int (2 : Int32)), .val (.int zm), .val (.long y1), .second, .val (.long y2), .second, .val (.long y3), .second, .val (.long y4), .second, .val (.double z1), .second, .val (.double z2), .second, .val (.double z3), .second, .val (.ref b29), .unset, .unset, .unset] [(.ref b29)]))
      refine own_go (fun _ => XS.lload X31.here hx rfl (hb hby at_143) rfl) ?_
      show own_Go p.tables e below _ (T31.setTop (mkF m 145 #[.val (.int p1), .val (.long q2), .second, .val (.long q3), .second, .val (.long q4), .second, .val (.long q5), .second, .val (.int p6), .val (.int (2 : Int32)), .val (.int zm), .val (.long y1), .second, .val (.long y2), .second, .val (.long y3), .second, .val (.long y4), .second, .val (.double z1), .second, .val (.double z2), .second, .val (.double z3), .second, .val (.ref b29), .unset, .unset, .unset] [(.long y2), (.ref b29)]))
      refine own_go (fun _ => XS.dload X31.here hx rfl (hb hby at_145) rfl) ?_
      show own_Go p.tables e below _ (T31.setTop (mkF m 147 #[.val (.int p1), .val (.long q2), .second, .val (.long q3), .second, .val (.long q4), .second, .val (.long q5), .second, .val (.int p6), .val (.int (2 : Int32)), .val (.int zm), .val (.long y1), .second, .val (.long y2), .second, .val (.long y3), .second, .val (.long y4), .second, .val (.double z1), .second, .val (.double z2), .second, .val (.double z3), .second, .val (.ref b29), .unset, .unset, .unset] [(.double z2), (.long y2), (.ref b29)]))
      obtain ⟨cq32, kq32, q32a, q32b, q32c⟩ := isOf hZ rfl F31_0
      obtain ⟨v32, T32, L32, X32, hQ32, st32⟩ := own_tidyV X31 (X31.virtualBack hx (y := (⟨"com/example/outis/outis/clustering/KeptCharges", "put", "(JD)V"⟩ : MethodName)) (z := (⟨"com/example/outis/outis/clustering/KeptCharges", "put", "(JD)V"⟩ : MethodName)) hown (mvT hZ (hw _ (List.mem_of_getElem? (i := 49) rfl))) (mvT hZ (hw _ (List.mem_of_getElem? (i := 50) rfl))) (notFace_of_selects (args := #[]) (mvT hZ (hw _ (List.mem_of_getElem? (i := 52) rfl)))) (mvT hZ (hw _ (List.mem_of_getElem? (i := 52) rfl))) (mvT hZ (hw _ (List.mem_of_getElem? (i := 51) rfl))) (by decide) (backOf (W := 0) (rm9 l Z a0 hw [] b29 y2 z2 (own_sz (0 : Int32) zm) zm e30_0 e30_1 fk1 gk1 kc30_0 kc30_1 T31.heap n0 (Nat.le_trans (Nat.le_trans (Nat.le_trans Z0 E29.1) Kc30.1) Kc31.1) F31_1 F31_2 F31_3 F31_4 F31_5 F31_0 F31_6 F31_7 ne30_0_1 (own_lt1 _) (fun _ => own_J.fin J1 own_le1 _) g_b29 g_e30_0 g_e30_1) hZ (hw _ (List.mem_of_getElem? (i := 53) rfl)) (hw _ (List.mem_of_getElem? (i := 3) rfl)) (by decide) (by decide)) q32a q32c (g := (mkF m 147 #[.val (.int p1), .val (.long q2), .second, .val (.long q3), .second, .val (.long q4), .second, .val (.long q5), .second, .val (.int p6), .val (.int (2 : Int32)), .val (.int zm), .val (.long y1), .second, .val (.long y2), .second, .val (.long y3), .second, .val (.long y4), .second, .val (.double z1), .second, .val (.double z2), .second, .val (.double z3), .second, .val (.ref b29), .unset, .unset, .unset] [(.double z2), (.long y2), (.ref b29)])) rfl (by rw [hml]; rfl) (Steps.refl _) (argsL := [(.long y2), (.double z2)]) (rest := []) (lenOf pd_7 rfl) rfl (by show 2 * 0 + _ ≤ _; exact Nat.le_of_eq rfl) (hb hby at_147) (fun _ _ => ⟨rfl, rfl, (by decide : 3 + 0 ≤ _), (by decide : 37 + 0 ≤ _)⟩)) (c' := 3) (n' := 37) rfl rfl
      obtain ⟨rfl, N32q, Kc32, F32_0, F32_1, F32_2, F32_3, F32_4, F32_5, F32_6, F32_7⟩ := hQ32
      have N32 := Fr.app N31 N32q
      refine own_via st32 ?_
      have K32 : Keep h0 T32.heap [] := K31.trans Kc32 (allS (Or.inr sz_e30_0) (allS (Or.inr sz_b29) (allS (Or.inr sz_e30_1) all0)))
      have J2 : own_J (own_l2 zm y1 z1 y2 z2) (own_nk (own_sz (0 : Int32) zm) zm fk1 y2) (own_nd (own_sz (0 : Int32) zm) zm fk1 gk1 y2 z2) := own_J2 J1 hy2 (fun h => hc28_55 ((lw_eq _ _).mpr h))
      obtain ⟨fk2, efk2⟩ : ∃ z, z = (own_nk (own_sz (0 : Int32) zm) zm fk1 y2) := ⟨_, rfl⟩
      rw [← efk2] at J2 F32_6
      obtain ⟨gk2, egk2⟩ : ∃ z, z = (own_nd (own_sz (0 : Int32) zm) zm fk1 gk1 y2 z2) := ⟨_, rfl⟩
      rw [← egk2] at J2 F32_7
      show own_Go p.tables e below _ (T32.setTop (mkF m 150 #[.val (.int p1), .val (.long q2), .second, .val (.long q3), .second, .val (.long q4), .second, .val (.long q5), .second, .val (.int p6), .val (.int (2 : Int32)), .val (.int zm), .val (.long y1), .second, .val (.long y2), .second, .val (.long y3), .second, .val (.long y4), .second, .val (.double z1), .second, .val (.double z2), .second, .val (.double z3), .second, .val (.ref b29), .unset, .unset, .unset] []))
      refine own_go (fun _ => XS.iload X32.here hx rfl (hb hby at_150) rfl) ?_
      show own_Go p.tables e below _ (T32.setTop (mkF m 152 #[.val (.int p1), .val (.long q2), .second, .val (.long q3), .second, .val (.long q4), .second, .val (.long q5), .second, .val (.int p6), .val (.int (2 : Int32)), .val (.int zm), .val (.long y1), .second, .val (.long y2), .second, .val (.long y3), .second, .val (.long y4), .second, .val (.double z1), .second, .val (.double z2), .second, .val (.double z3), .second, .val (.ref b29), .unset, .unset, .unset] [(.int (2 : Int32))]))
      refine own_go (fun _ => XS.iconst X32.here hx rfl (hb hby at_152)) ?_
      show own_Go p.tables e below _ (T32.setTop (mkF m 153 #[.val (.int p1), .val (.long q2), .second, .val (.long q3), .second, .val (.long q4), .second, .val (.long q5), .second, .val (.int p6), .val (.int (2 : Int32)), .val (.int zm), .val (.long y1), .second, .val (.long y2), .second, .val (.long y3), .second, .val (.long y4), .second, .val (.double z1), .second, .val (.double z2), .second, .val (.double z3), .second, .val (.ref b29), .unset, .unset, .unset] [(.int (3 : Int32)), (.int (2 : Int32))]))
      refine own_go (fun _ => XS.icmpYes X32.here hx rfl (pc0 := 153) (pc' := 165) rfl (hb hby at_153) rfl (tlt (by decide : (2 : Int32) < (3 : Int32))).1 (by decide) (by decide)) ?_
      show own_Go p.tables e below _ (T32.setTop (mkF m 165 #[.val (.int p1), .val (.long q2), .second, .val (.long q3), .second, .val (.long q4), .second, .val (.long q5), .second, .val (.int p6), .val (.int (2 : Int32)), .val (.int zm), .val (.long y1), .second, .val (.long y2), .second, .val (.long y3), .second, .val (.long y4), .second, .val (.double z1), .second, .val (.double z2), .second, .val (.double z3), .second, .val (.ref b29), .unset, .unset, .unset] []))
      refine own_go (fun _ => XS.iload X32.here hx rfl (hb hby at_165) rfl) ?_
      show own_Go p.tables e below _ (T32.setTop (mkF m 167 #[.val (.int p1), .val (.long q2), .second, .val (.long q3), .second, .val (.long q4), .second, .val (.long q5), .second, .val (.int p6), .val (.int (2 : Int32)), .val (.int zm), .val (.long y1), .second, .val (.long y2), .second, .val (.long y3), .second, .val (.long y4), .second, .val (.double z1), .second, .val (.double z2), .second, .val (.double z3), .second, .val (.ref b29), .unset, .unset, .unset] [(.int (2 : Int32))]))
      refine own_go (fun _ => XS.iconst X32.here hx rfl (hb hby at_167)) ?_
      refine own_go (S' := T32.setTop (mkF m 200 #[.val (.int p1), .val (.long q2), .second, .val (.long q3), .second, .val (.long q4), .second, .val (.long q5), .second, .val (.int p6), .val (.int (2 : Int32)), .val (.int zm), .val (.long y1), .second, .val (.long y2), .second, .val (.long y3), .second, .val (.long y4), .second, .val (.double z1), .second, .val (.double z2), .second, .val (.double z3), .second, .val (.ref b29), .unset, .unset, .unset] [(.int (own_v0_168 zm))])) (fun t kt => ?_) ?_
      · skip
        show Steps p.tables e below (T32.setTop (mkF m 168 #[.val (.int p1), .val (.long q2), .second, .val (.long q3), .second, .val (.long q4), .second, .val (.long q5), .second, .val (.int p6), .val (.int (2 : Int32)), .val (.int zm), .val (.long y1), .second, .val (.long y2), .second, .val (.long y3), .second, .val (.long y4), .second, .val (.double z1), .second, .val (.double z2), .second, .val (.double z3), .second, .val (.ref b29), .unset, .unset, .unset] [(.int (1 : Int32)), (.int (2 : Int32))])) _
        refine XS.icmpNo X32.here hx rfl (hb hby at_168) rfl (feq (by decide : ¬ ((2 : Int32) = (1 : Int32)))).1 ?_
        show Steps p.tables e below (T32.setTop (mkF m 171 #[.val (.int p1), .val (.long q2), .second, .val (.long q3), .second, .val (.long q4), .second, .val (.long q5), .second, .val (.int p6), .val (.int (2 : Int32)), .val (.int zm), .val (.long y1), .second, .val (.long y2), .second, .val (.long y3), .second, .val (.long y4), .second, .val (.double z1), .second, .val (.double z2), .second, .val (.double z3), .second, .val (.ref b29), .unset, .unset, .unset] [])) _
        refine XS.iload X32.here hx rfl (hb hby at_171) rfl ?_
        show Steps p.tables e below (T32.setTop (mkF m 173 #[.val (.int p1), .val (.long q2), .second, .val (.long q3), .second, .val (.long q4), .second, .val (.long q5), .second, .val (.int p6), .val (.int (2 : Int32)), .val (.int zm), .val (.long y1), .second, .val (.long y2), .second, .val (.long y3), .second, .val (.long y4), .second, .val (.double z1), .second, .val (.double z2), .second, .val (.double z3), .second, .val (.ref b29), .unset, .unset, .unset] [(.int (2 : Int32))])) _
        refine XS.iconst X32.here hx rfl (hb hby at_173) ?_
        show Steps p.tables e below (T32.setTop (mkF m 174 #[.val (.int p1), .val (.long q2), .second, .val (.long q3), .second, .val (.long q4), .second, .val (.long q5), .second, .val (.int p6), .val (.int (2 : Int32)), .val (.int zm), .val (.long y1), .second, .val (.long y2), .second, .val (.long y3), .second, .val (.long y4), .second, .val (.double z1), .second, .val (.double z2), .second, .val (.double z3), .second, .val (.ref b29), .unset, .unset, .unset] [(.int (2 : Int32)), (.int (2 : Int32))])) _
        refine XS.icmpNo X32.here hx rfl (hb hby at_174) rfl (teq (by decide : (2 : Int32) = (2 : Int32))).2 ?_
        show Steps p.tables e below (T32.setTop (mkF m 177 #[.val (.int p1), .val (.long q2), .second, .val (.long q3), .second, .val (.long q4), .second, .val (.long q5), .second, .val (.int p6), .val (.int (2 : Int32)), .val (.int zm), .val (.long y1), .second, .val (.long y2), .second, .val (.long y3), .second, .val (.long y4), .second, .val (.double z1), .second, .val (.double z2), .second, .val (.double z3), .second, .val (.ref b29), .unset, .unset, .unset] [])) _
        refine XS.iload X32.here hx rfl (hb hby at_177) rfl ?_
        show Steps p.tables e below (T32.setTop (mkF m 179 #[.val (.int p1), .val (.long q2), .second, .val (.long q3), .second, .val (.long q4), .second, .val (.long q5), .second, .val (.int p6), .val (.int (2 : Int32)), .val (.int zm), .val (.long y1), .second, .val (.long y2), .second, .val (.long y3), .second, .val (.long y4), .second, .val (.double z1), .second, .val (.double z2), .second, .val (.double z3), .second, .val (.ref b29), .unset, .unset, .unset] [(.int zm)])) _
        refine XS.iconst X32.here hx rfl (hb hby at_179) ?_
        show Steps p.tables e below (T32.setTop (mkF m 180 #[.val (.int p1), .val (.long q2), .second, .val (.long q3), .second, .val (.long q4), .second, .val (.long q5), .second, .val (.int p6), .val (.int (2 : Int32)), .val (.int zm), .val (.long y1), .second, .val (.long y2), .second, .val (.long y3), .second, .val (.long y4), .second, .val (.double z1), .second, .val (.double z2), .second, .val (.double z3), .second, .val (.ref b29), .unset, .unset, .unset] [(.int (2 : Int32)), (.int zm)])) _
        by_cases hc33_180 : zm < (2 : Int32)
        · skip
          refine XS.icmpNo X32.here hx rfl (hb hby at_180) rfl (tlt hc33_180).2.1 ?_
          show Steps p.tables e below (T32.setTop (mkF m 183 #[.val (.int p1), .val (.long q2), .second, .val (.long q3), .second, .val (.long q4), .second, .val (.long q5), .second, .val (.int p6), .val (.int (2 : Int32)), .val (.int zm), .val (.long y1), .second, .val (.long y2), .second, .val (.long y3), .second, .val (.long y4), .second, .val (.double z1), .second, .val (.double z2), .second, .val (.double z3), .second, .val (.ref b29), .unset, .unset, .unset] [])) _
          refine XS.iload X32.here hx rfl (hb hby at_183) rfl ?_
          show Steps p.tables e below (T32.setTop (mkF m 185 #[.val (.int p1), .val (.long q2), .second, .val (.long q3), .second, .val (.long q4), .second, .val (.long q5), .second, .val (.int p6), .val (.int (2 : Int32)), .val (.int zm), .val (.long y1), .second, .val (.long y2), .second, .val (.long y3), .second, .val (.long y4), .second, .val (.double z1), .second, .val (.double z2), .second, .val (.double z3), .second, .val (.ref b29), .unset, .unset, .unset] [(.int (2 : Int32))])) _
          refine XS.iconst X32.here hx rfl (hb hby at_185) ?_
          show Steps p.tables e below (T32.setTop (mkF m 186 #[.val (.int p1), .val (.long q2), .second, .val (.long q3), .second, .val (.long q4), .second, .val (.long q5), .second, .val (.int p6), .val (.int (2 : Int32)), .val (.int zm), .val (.long y1), .second, .val (.long y2), .second, .val (.long y3), .second, .val (.long y4), .second, .val (.double z1), .second, .val (.double z2), .second, .val (.double z3), .second, .val (.ref b29), .unset, .unset, .unset] [(.int (3 : Int32)), (.int (2 : Int32))])) _
          refine XS.icmpYes X32.here hx rfl (pc0 := 186) (pc' := 199) rfl (hb hby at_186) rfl (feq (by decide : ¬ ((2 : Int32) = (3 : Int32)))).2 (by decide) (by decide) ?_
          show Steps p.tables e below (T32.setTop (mkF m 199 #[.val (.int p1), .val (.long q2), .second, .val (.long q3), .second, .val (.long q4), .second, .val (.long q5), .second, .val (.int p6), .val (.int (2 : Int32)), .val (.int zm), .val (.long y1), .second, .val (.long y2), .second, .val (.long y3), .second, .val (.long y4), .second, .val (.double z1), .second, .val (.double z2), .second, .val (.double z3), .second, .val (.ref b29), .unset, .unset, .unset] [])) _
          refine XS.iconst X32.here hx rfl (hb hby at_199) ?_
          show Steps p.tables e below (T32.setTop (mkF m 200 #[.val (.int p1), .val (.long q2), .second, .val (.long q3), .second, .val (.long q4), .second, .val (.long q5), .second, .val (.int p6), .val (.int (2 : Int32)), .val (.int zm), .val (.long y1), .second, .val (.long y2), .second, .val (.long y3), .second, .val (.long y4), .second, .val (.double z1), .second, .val (.double z2), .second, .val (.double z3), .second, .val (.ref b29), .unset, .unset, .unset] [(.int (0 : Int32))])) _
          rw [show (own_v0_168 zm) = (0 : Int32) from ((if_pos hc33_180).trans rfl)] at kt
          exact kt
        · skip
          refine XS.icmpYes X32.here hx rfl (pc0 := 180) (pc' := 195) rfl (hb hby at_180) rfl (flt hc33_180).2.1 (by decide) (by decide) ?_
          show Steps p.tables e below (T32.setTop (mkF m 195 #[.val (.int p1), .val (.long q2), .second, .val (.long q3), .second, .val (.long q4), .second, .val (.long q5), .second, .val (.int p6), .val (.int (2 : Int32)), .val (.int zm), .val (.long y1), .second, .val (.long y2), .second, .val (.long y3), .second, .val (.long y4), .second, .val (.double z1), .second, .val (.double z2), .second, .val (.double z3), .second, .val (.ref b29), .unset, .unset, .unset] [])) _
          refine XS.iconst X32.here hx rfl (hb hby at_195) ?_
          show Steps p.tables e below (T32.setTop (mkF m 196 #[.val (.int p1), .val (.long q2), .second, .val (.long q3), .second, .val (.long q4), .second, .val (.long q5), .second, .val (.int p6), .val (.int (2 : Int32)), .val (.int zm), .val (.long y1), .second, .val (.long y2), .second, .val (.long y3), .second, .val (.long y4), .second, .val (.double z1), .second, .val (.double z2), .second, .val (.double z3), .second, .val (.ref b29), .unset, .unset, .unset] [(.int (1 : Int32))])) _
          refine XS.goto X32.here hx rfl (pc0 := 196) (pc' := 200) rfl (hb hby at_196) (by decide) (by decide) ?_
          show Steps p.tables e below (T32.setTop (mkF m 200 #[.val (.int p1), .val (.long q2), .second, .val (.long q3), .second, .val (.long q4), .second, .val (.long q5), .second, .val (.int p6), .val (.int (2 : Int32)), .val (.int zm), .val (.long y1), .second, .val (.long y2), .second, .val (.long y3), .second, .val (.long y4), .second, .val (.double z1), .second, .val (.double z2), .second, .val (.double z3), .second, .val (.ref b29), .unset, .unset, .unset] [(.int (1 : Int32))])) _
          rw [show (own_v0_168 zm) = (1 : Int32) from ((if_neg hc33_180).trans rfl)] at kt
          exact kt
      show own_Go p.tables e below _ (T32.setTop (mkF m 200 #[.val (.int p1), .val (.long q2), .second, .val (.long q3), .second, .val (.long q4), .second, .val (.long q5), .second, .val (.int p6), .val (.int (2 : Int32)), .val (.int zm), .val (.long y1), .second, .val (.long y2), .second, .val (.long y3), .second, .val (.long y4), .second, .val (.double z1), .second, .val (.double z2), .second, .val (.double z3), .second, .val (.ref b29), .unset, .unset, .unset] [(.int (own_v0_168 zm))]))
      refine own_go (fun _ => XS.istore X32.here hx rfl (hb hby at_200) rfl (l' := #[.val (.int p1), .val (.long q2), .second, .val (.long q3), .second, .val (.long q4), .second, .val (.long q5), .second, .val (.int p6), .val (.int (2 : Int32)), .val (.int zm), .val (.long y1), .second, .val (.long y2), .second, .val (.long y3), .second, .val (.long y4), .second, .val (.double z1), .second, .val (.double z2), .second, .val (.double z3), .second, .val (.ref b29), .val (.int (own_v0_168 zm)), .unset, .unset]) rfl) ?_
      show own_Go p.tables e below _ (T32.setTop (mkF m 202 #[.val (.int p1), .val (.long q2), .second, .val (.long q3), .second, .val (.long q4), .second, .val (.long q5), .second, .val (.int p6), .val (.int (2 : Int32)), .val (.int zm), .val (.long y1), .second, .val (.long y2), .second, .val (.long y3), .second, .val (.long y4), .second, .val (.double z1), .second, .val (.double z2), .second, .val (.double z3), .second, .val (.ref b29), .val (.int (own_v0_168 zm)), .unset, .unset] []))
      refine own_go (fun _ => XS.iload X32.here hx rfl (hb hby at_202) rfl) ?_
      show own_Go p.tables e below _ (T32.setTop (mkF m 204 #[.val (.int p1), .val (.long q2), .second, .val (.long q3), .second, .val (.long q4), .second, .val (.long q5), .second, .val (.int p6), .val (.int (2 : Int32)), .val (.int zm), .val (.long y1), .second, .val (.long y2), .second, .val (.long y3), .second, .val (.long y4), .second, .val (.double z1), .second, .val (.double z2), .second, .val (.double z3), .second, .val (.ref b29), .val (.int (own_v0_168 zm)), .unset, .unset] [(.int (2 : Int32))]))
      refine own_go (fun _ => XS.iconst X32.here hx rfl (hb hby at_204)) ?_
      refine own_go (S' := T32.setTop (mkF m 225 #[.val (.int p1), .val (.long q2), .second, .val (.long q3), .second, .val (.long q4), .second, .val (.long q5), .second, .val (.int p6), .val (.int (2 : Int32)), .val (.int zm), .val (.long y1), .second, .val (.long y2), .second, .val (.long y3), .second, .val (.long y4), .second, .val (.double z1), .second, .val (.double z2), .second, .val (.double z3), .second, .val (.ref b29), .val (.int (own_v0_168 zm)), .unset, .unset] [(.int (1 : Int32))])) (fun t kt => ?_) ?_
      · skip
        show Steps p.tables e below (T32.setTop (mkF m 205 #[.val (.int p1), .val (.long q2), .second, .val (.long q3), .second, .val (.long q4), .second, .val (.long q5), .second, .val (.int p6), .val (.int (2 : Int32)), .val (.int zm), .val (.long y1), .second, .val (.long y2), .second, .val (.long y3), .second, .val (.long y4), .second, .val (.double z1), .second, .val (.double z2), .second, .val (.double z3), .second, .val (.ref b29), .val (.int (own_v0_168 zm)), .unset, .unset] [(.int (2 : Int32)), (.int (2 : Int32))])) _
        refine XS.icmpYes X32.here hx rfl (pc0 := 205) (pc' := 220) rfl (hb hby at_205) rfl (teq (by decide : (2 : Int32) = (2 : Int32))).1 (by decide) (by decide) ?_
        show Steps p.tables e below (T32.setTop (mkF m 220 #[.val (.int p1), .val (.long q2), .second, .val (.long q3), .second, .val (.long q4), .second, .val (.long q5), .second, .val (.int p6), .val (.int (2 : Int32)), .val (.int zm), .val (.long y1), .second, .val (.long y2), .second, .val (.long y3), .second, .val (.long y4), .second, .val (.double z1), .second, .val (.double z2), .second, .val (.double z3), .second, .val (.ref b29), .val (.int (own_v0_168 zm)), .unset, .unset] [])) _
        refine XS.iconst X32.here hx rfl (hb hby at_220) ?_
        show Steps p.tables e below (T32.setTop (mkF m 221 #[.val (.int p1), .val (.long q2), .second, .val (.long q3), .second, .val (.long q4), .second, .val (.long q5), .second, .val (.int p6), .val (.int (2 : Int32)), .val (.int zm), .val (.long y1), .second, .val (.long y2), .second, .val (.long y3), .second, .val (.long y4), .second, .val (.double z1), .second, .val (.double z2), .second, .val (.double z3), .second, .val (.ref b29), .val (.int (own_v0_168 zm)), .unset, .unset] [(.int (1 : Int32))])) _
        refine XS.goto X32.here hx rfl (pc0 := 221) (pc' := 225) rfl (hb hby at_221) (by decide) (by decide) ?_
        show Steps p.tables e below (T32.setTop (mkF m 225 #[.val (.int p1), .val (.long q2), .second, .val (.long q3), .second, .val (.long q4), .second, .val (.long q5), .second, .val (.int p6), .val (.int (2 : Int32)), .val (.int zm), .val (.long y1), .second, .val (.long y2), .second, .val (.long y3), .second, .val (.long y4), .second, .val (.double z1), .second, .val (.double z2), .second, .val (.double z3), .second, .val (.ref b29), .val (.int (own_v0_168 zm)), .unset, .unset] [(.int (1 : Int32))])) _
        exact kt
      show own_Go p.tables e below _ (T32.setTop (mkF m 225 #[.val (.int p1), .val (.long q2), .second, .val (.long q3), .second, .val (.long q4), .second, .val (.long q5), .second, .val (.int p6), .val (.int (2 : Int32)), .val (.int zm), .val (.long y1), .second, .val (.long y2), .second, .val (.long y3), .second, .val (.long y4), .second, .val (.double z1), .second, .val (.double z2), .second, .val (.double z3), .second, .val (.ref b29), .val (.int (own_v0_168 zm)), .unset, .unset] [(.int (1 : Int32))]))
      refine own_go (fun _ => XS.istore X32.here hx rfl (hb hby at_225) rfl (l' := #[.val (.int p1), .val (.long q2), .second, .val (.long q3), .second, .val (.long q4), .second, .val (.long q5), .second, .val (.int p6), .val (.int (2 : Int32)), .val (.int zm), .val (.long y1), .second, .val (.long y2), .second, .val (.long y3), .second, .val (.long y4), .second, .val (.double z1), .second, .val (.double z2), .second, .val (.double z3), .second, .val (.ref b29), .val (.int (own_v0_168 zm)), .val (.int (1 : Int32)), .unset]) rfl) ?_
      show own_Go p.tables e below _ (T32.setTop (mkF m 227 #[.val (.int p1), .val (.long q2), .second, .val (.long q3), .second, .val (.long q4), .second, .val (.long q5), .second, .val (.int p6), .val (.int (2 : Int32)), .val (.int zm), .val (.long y1), .second, .val (.long y2), .second, .val (.long y3), .second, .val (.long y4), .second, .val (.double z1), .second, .val (.double z2), .second, .val (.double z3), .second, .val (.ref b29), .val (.int (own_v0_168 zm)), .val (.int (1 : Int32)), .unset] []))
      refine own_go (fun _ => XS.iload X32.here hx rfl (hb hby at_227) rfl) ?_
      show own_Go p.tables e below _ (T32.setTop (mkF m 229 #[.val (.int p1), .val (.long q2), .second, .val (.long q3), .second, .val (.long q4), .second, .val (.long q5), .second, .val (.int p6), .val (.int (2 : Int32)), .val (.int zm), .val (.long y1), .second, .val (.long y2), .second, .val (.long y3), .second, .val (.long y4), .second, .val (.double z1), .second, .val (.double z2), .second, .val (.double z3), .second, .val (.ref b29), .val (.int (own_v0_168 zm)), .val (.int (1 : Int32)), .unset] [(.int (2 : Int32))]))
      refine own_go (fun _ => XS.iconst X32.here hx rfl (hb hby at_229)) ?_
      refine own_go (S' := T32.setTop (mkF m 238 #[.val (.int p1), .val (.long q2), .second, .val (.long q3), .second, .val (.long q4), .second, .val (.long q5), .second, .val (.int p6), .val (.int (2 : Int32)), .val (.int zm), .val (.long y1), .second, .val (.long y2), .second, .val (.long y3), .second, .val (.long y4), .second, .val (.double z1), .second, .val (.double z2), .second, .val (.double z3), .second, .val (.ref b29), .val (.int (own_v0_168 zm)), .val (.int (1 : Int32)), .unset] [(.int (0 : Int32))])) (fun t kt => ?_) ?_
      · skip
        show Steps p.tables e below (T32.setTop (mkF m 230 #[.val (.int p1), .val (.long q2), .second, .val (.long q3), .second, .val (.long q4), .second, .val (.long q5), .second, .val (.int p6), .val (.int (2 : Int32)), .val (.int zm), .val (.long y1), .second, .val (.long y2), .second, .val (.long y3), .second, .val (.long y4), .second, .val (.double z1), .second, .val (.double z2), .second, .val (.double z3), .second, .val (.ref b29), .val (.int (own_v0_168 zm)), .val (.int (1 : Int32)), .unset] [(.int (3 : Int32)), (.int (2 : Int32))])) _
        refine XS.icmpYes X32.here hx rfl (pc0 := 230) (pc' := 237) rfl (hb hby at_230) rfl (feq (by decide : ¬ ((2 : Int32) = (3 : Int32)))).2 (by decide) (by decide) ?_
        show Steps p.tables e below (T32.setTop (mkF m 237 #[.val (.int p1), .val (.long q2), .second, .val (.long q3), .second, .val (.long q4), .second, .val (.long q5), .second, .val (.int p6), .val (.int (2 : Int32)), .val (.int zm), .val (.long y1), .second, .val (.long y2), .second, .val (.long y3), .second, .val (.long y4), .second, .val (.double z1), .second, .val (.double z2), .second, .val (.double z3), .second, .val (.ref b29), .val (.int (own_v0_168 zm)), .val (.int (1 : Int32)), .unset] [])) _
        refine XS.iconst X32.here hx rfl (hb hby at_237) ?_
        show Steps p.tables e below (T32.setTop (mkF m 238 #[.val (.int p1), .val (.long q2), .second, .val (.long q3), .second, .val (.long q4), .second, .val (.long q5), .second, .val (.int p6), .val (.int (2 : Int32)), .val (.int zm), .val (.long y1), .second, .val (.long y2), .second, .val (.long y3), .second, .val (.long y4), .second, .val (.double z1), .second, .val (.double z2), .second, .val (.double z3), .second, .val (.ref b29), .val (.int (own_v0_168 zm)), .val (.int (1 : Int32)), .unset] [(.int (0 : Int32))])) _
        exact kt
      show own_Go p.tables e below _ (T32.setTop (mkF m 238 #[.val (.int p1), .val (.long q2), .second, .val (.long q3), .second, .val (.long q4), .second, .val (.long q5), .second, .val (.int p6), .val (.int (2 : Int32)), .val (.int zm), .val (.long y1), .second, .val (.long y2), .second, .val (.long y3), .second, .val (.long y4), .second, .val (.double z1), .second, .val (.double z2), .second, .val (.double z3), .second, .val (.ref b29), .val (.int (own_v0_168 zm)), .val (.int (1 : Int32)), .unset] [(.int (0 : Int32))]))
      refine own_go (fun _ => XS.istore X32.here hx rfl (hb hby at_238) rfl (l' := #[.val (.int p1), .val (.long q2), .second, .val (.long q3), .second, .val (.long q4), .second, .val (.long q5), .second, .val (.int p6), .val (.int (2 : Int32)), .val (.int zm), .val (.long y1), .second, .val (.long y2), .second, .val (.long y3), .second, .val (.long y4), .second, .val (.double z1), .second, .val (.double z2), .second, .val (.double z3), .second, .val (.ref b29), .val (.int (own_v0_168 zm)), .val (.int (1 : Int32)), .val (.int (0 : Int32))]) rfl) ?_
      show own_Go p.tables e below _ (T32.setTop (mkF m 240 #[.val (.int p1), .val (.long q2), .second, .val (.long q3), .second, .val (.long q4), .second, .val (.long q5), .second, .val (.int p6), .val (.int (2 : Int32)), .val (.int zm), .val (.long y1), .second, .val (.long y2), .second, .val (.long y3), .second, .val (.long y4), .second, .val (.double z1), .second, .val (.double z2), .second, .val (.double z3), .second, .val (.ref b29), .val (.int (own_v0_168 zm)), .val (.int (1 : Int32)), .val (.int (0 : Int32))] []))
      refine own_go (fun _ => XS.aload X32.here hx rfl (hb hby at_240) rfl rfl) ?_
      show own_Go p.tables e below _ (T32.setTop (mkF m 242 #[.val (.int p1), .val (.long q2), .second, .val (.long q3), .second, .val (.long q4), .second, .val (.long q5), .second, .val (.int p6), .val (.int (2 : Int32)), .val (.int zm), .val (.long y1), .second, .val (.long y2), .second, .val (.long y3), .second, .val (.long y4), .second, .val (.double z1), .second, .val (.double z2), .second, .val (.double z3), .second, .val (.ref b29), .val (.int (own_v0_168 zm)), .val (.int (1 : Int32)), .val (.int (0 : Int32))] [(.ref b29)]))
      refine own_go (fun _ => XS.lload X32.here hx rfl (hb hby at_242) rfl) ?_
      show own_Go p.tables e below _ (T32.setTop (mkF m 244 #[.val (.int p1), .val (.long q2), .second, .val (.long q3), .second, .val (.long q4), .second, .val (.long q5), .second, .val (.int p6), .val (.int (2 : Int32)), .val (.int zm), .val (.long y1), .second, .val (.long y2), .second, .val (.long y3), .second, .val (.long y4), .second, .val (.double z1), .second, .val (.double z2), .second, .val (.double z3), .second, .val (.ref b29), .val (.int (own_v0_168 zm)), .val (.int (1 : Int32)), .val (.int (0 : Int32))] [(.long y1), (.ref b29)]))
      obtain ⟨cq34, kq34, q34a, q34b, q34c⟩ := isOf hZ rfl F32_0
      obtain ⟨v34, T34, L34, X34, hQ34, st34⟩ := own_tidyV X32 (X32.virtualBack hx (y := (⟨"com/example/outis/outis/clustering/KeptCharges", "get", "(J)D"⟩ : MethodName)) (z := (⟨"com/example/outis/outis/clustering/KeptCharges", "get", "(J)D"⟩ : MethodName)) hown (mvT hZ (hw _ (List.mem_of_getElem? (i := 34) rfl))) (mvT hZ (hw _ (List.mem_of_getElem? (i := 35) rfl))) (notFace_of_selects (args := #[]) (mvT hZ (hw _ (List.mem_of_getElem? (i := 37) rfl)))) (mvT hZ (hw _ (List.mem_of_getElem? (i := 37) rfl))) (mvT hZ (hw _ (List.mem_of_getElem? (i := 36) rfl))) (by decide) (backOf (W := 0) (rm6 l Z a0 hw [] b29 y1 e30_0 e30_1 fk2 gk2 kc30_0 kc30_1 T32.heap n0 (Nat.le_trans (Nat.le_trans (Nat.le_trans (Nat.le_trans Z0 E29.1) Kc30.1) Kc31.1) Kc32.1) F32_3 F32_4 F32_5 F32_0 F32_6 F32_7 (own_J.fin J2 own_le2 _)) hZ (hw _ (List.mem_of_getElem? (i := 38) rfl)) (hw _ (List.mem_of_getElem? (i := 3) rfl)) (by decide) (by decide)) q34a q34c (g := (mkF m 244 #[.val (.int p1), .val (.long q2), .second, .val (.long q3), .second, .val (.long q4), .second, .val (.long q5), .second, .val (.int p6), .val (.int (2 : Int32)), .val (.int zm), .val (.long y1), .second, .val (.long y2), .second, .val (.long y3), .second, .val (.long y4), .second, .val (.double z1), .second, .val (.double z2), .second, .val (.double z3), .second, .val (.ref b29), .val (.int (own_v0_168 zm)), .val (.int (1 : Int32)), .val (.int (0 : Int32))] [(.long y1), (.ref b29)])) rfl (by rw [hml]; rfl) (Steps.refl _) (argsL := [(.long y1)]) (rest := []) (lenOf pd_4 rfl) rfl (by show 2 * 0 + _ ≤ _; exact Nat.le_of_eq rfl) (hb hby at_244) (fun _ _ => ⟨rfl, rfl, (by decide : 3 + 0 ≤ _), (by decide : 37 + 0 ≤ _)⟩)) (c' := 3) (n' := 37) rfl rfl
      obtain ⟨rfl, N34q, e34⟩ := hQ34
      have N34 := Fr.app N32 N34q
      refine own_via st34 ?_
      show own_Go p.tables e below _ (T34.setTop (mkF m 247 #[.val (.int p1), .val (.long q2), .second, .val (.long q3), .second, .val (.long q4), .second, .val (.long q5), .second, .val (.int p6), .val (.int (2 : Int32)), .val (.int zm), .val (.long y1), .second, .val (.long y2), .second, .val (.long y3), .second, .val (.long y4), .second, .val (.double z1), .second, .val (.double z2), .second, .val (.double z3), .second, .val (.ref b29), .val (.int (own_v0_168 zm)), .val (.int (1 : Int32)), .val (.int (0 : Int32))] [(.double (own_f6 y1 fk2 gk2))]))
      refine own_go (fun _ => XS.lload X34.here hx rfl (hb hby at_247) rfl) ?_
      show own_Go p.tables e below _ (T34.setTop (mkF m 249 #[.val (.int p1), .val (.long q2), .second, .val (.long q3), .second, .val (.long q4), .second, .val (.long q5), .second, .val (.int p6), .val (.int (2 : Int32)), .val (.int zm), .val (.long y1), .second, .val (.long y2), .second, .val (.long y3), .second, .val (.long y4), .second, .val (.double z1), .second, .val (.double z2), .second, .val (.double z3), .second, .val (.ref b29), .val (.int (own_v0_168 zm)), .val (.int (1 : Int32)), .val (.int (0 : Int32))] [(.long y1), (.double (own_f6 y1 fk2 gk2))]))
      refine own_go (fun _ => XS.iload X34.here hx rfl (hb hby at_249) rfl) ?_
      show own_Go p.tables e below _ (T34.setTop (mkF m 251 #[.val (.int p1), .val (.long q2), .second, .val (.long q3), .second, .val (.long q4), .second, .val (.long q5), .second, .val (.int p6), .val (.int (2 : Int32)), .val (.int zm), .val (.long y1), .second, .val (.long y2), .second, .val (.long y3), .second, .val (.long y4), .second, .val (.double z1), .second, .val (.double z2), .second, .val (.double z3), .second, .val (.ref b29), .val (.int (own_v0_168 zm)), .val (.int (1 : Int32)), .val (.int (0 : Int32))] [(.int (own_v0_168 zm)), (.long y1), (.double (own_f6 y1 fk2 gk2))]))
      refine own_go (fun _ => XS.lload X34.here hx rfl (hb hby at_251) rfl) ?_
      show own_Go p.tables e below _ (T34.setTop (mkF m 253 #[.val (.int p1), .val (.long q2), .second, .val (.long q3), .second, .val (.long q4), .second, .val (.long q5), .second, .val (.int p6), .val (.int (2 : Int32)), .val (.int zm), .val (.long y1), .second, .val (.long y2), .second, .val (.long y3), .second, .val (.long y4), .second, .val (.double z1), .second, .val (.double z2), .second, .val (.double z3), .second, .val (.ref b29), .val (.int (own_v0_168 zm)), .val (.int (1 : Int32)), .val (.int (0 : Int32))] [(.long y1), (.int (own_v0_168 zm)), (.long y1), (.double (own_f6 y1 fk2 gk2))]))
      refine own_go (fun _ => XS.dload X34.here hx rfl (hb hby at_253) rfl) ?_
      show own_Go p.tables e below _ (T34.setTop (mkF m 255 #[.val (.int p1), .val (.long q2), .second, .val (.long q3), .second, .val (.long q4), .second, .val (.long q5), .second, .val (.int p6), .val (.int (2 : Int32)), .val (.int zm), .val (.long y1), .second, .val (.long y2), .second, .val (.long y3), .second, .val (.long y4), .second, .val (.double z1), .second, .val (.double z2), .second, .val (.double z3), .second, .val (.ref b29), .val (.int (own_v0_168 zm)), .val (.int (1 : Int32)), .val (.int (0 : Int32))] [(.double z1), (.long y1), (.int (own_v0_168 zm)), (.long y1), (.double (own_f6 y1 fk2 gk2))]))
      refine own_go (fun _ => XS.iload X34.here hx rfl (hb hby at_255) rfl) ?_
      show own_Go p.tables e below _ (T34.setTop (mkF m 257 #[.val (.int p1), .val (.long q2), .second, .val (.long q3), .second, .val (.long q4), .second, .val (.long q5), .second, .val (.int p6), .val (.int (2 : Int32)), .val (.int zm), .val (.long y1), .second, .val (.long y2), .second, .val (.long y3), .second, .val (.long y4), .second, .val (.double z1), .second, .val (.double z2), .second, .val (.double z3), .second, .val (.ref b29), .val (.int (own_v0_168 zm)), .val (.int (1 : Int32)), .val (.int (0 : Int32))] [(.int (1 : Int32)), (.double z1), (.long y1), (.int (own_v0_168 zm)), (.long y1), (.double (own_f6 y1 fk2 gk2))]))
      refine own_go (fun _ => XS.lload X34.here hx rfl (hb hby at_257) rfl) ?_
      show own_Go p.tables e below _ (T34.setTop (mkF m 259 #[.val (.int p1), .val (.long q2), .second, .val (.long q3), .second, .val (.long q4), .second, .val (.long q5), .second, .val (.int p6), .val (.int (2 : Int32)), .val (.int zm), .val (.long y1), .second, .val (.long y2), .second, .val (.long y3), .second, .val (.long y4), .second, .val (.double z1), .second, .val (.double z2), .second, .val (.double z3), .second, .val (.ref b29), .val (.int (own_v0_168 zm)), .val (.int (1 : Int32)), .val (.int (0 : Int32))] [(.long y2), (.int (1 : Int32)), (.double z1), (.long y1), (.int (own_v0_168 zm)), (.long y1), (.double (own_f6 y1 fk2 gk2))]))
      refine own_go (fun _ => XS.dload X34.here hx rfl (hb hby at_259) rfl) ?_
      show own_Go p.tables e below _ (T34.setTop (mkF m 261 #[.val (.int p1), .val (.long q2), .second, .val (.long q3), .second, .val (.long q4), .second, .val (.long q5), .second, .val (.int p6), .val (.int (2 : Int32)), .val (.int zm), .val (.long y1), .second, .val (.long y2), .second, .val (.long y3), .second, .val (.long y4), .second, .val (.double z1), .second, .val (.double z2), .second, .val (.double z3), .second, .val (.ref b29), .val (.int (own_v0_168 zm)), .val (.int (1 : Int32)), .val (.int (0 : Int32))] [(.double z2), (.long y2), (.int (1 : Int32)), (.double z1), (.long y1), (.int (own_v0_168 zm)), (.long y1), (.double (own_f6 y1 fk2 gk2))]))
      refine own_go (fun _ => XS.iload X34.here hx rfl (hb hby at_261) rfl) ?_
      show own_Go p.tables e below _ (T34.setTop (mkF m 263 #[.val (.int p1), .val (.long q2), .second, .val (.long q3), .second, .val (.long q4), .second, .val (.long q5), .second, .val (.int p6), .val (.int (2 : Int32)), .val (.int zm), .val (.long y1), .second, .val (.long y2), .second, .val (.long y3), .second, .val (.long y4), .second, .val (.double z1), .second, .val (.double z2), .second, .val (.double z3), .second, .val (.ref b29), .val (.int (own_v0_168 zm)), .val (.int (1 : Int32)), .val (.int (0 : Int32))] [(.int (0 : Int32)), (.double z2), (.long y2), (.int (1 : Int32)), (.double z1), (.long y1), (.int (own_v0_168 zm)), (.long y1), (.double (own_f6 y1 fk2 gk2))]))
      refine own_go (fun _ => XS.lload X34.here hx rfl (hb hby at_263) rfl) ?_
      show own_Go p.tables e below _ (T34.setTop (mkF m 265 #[.val (.int p1), .val (.long q2), .second, .val (.long q3), .second, .val (.long q4), .second, .val (.long q5), .second, .val (.int p6), .val (.int (2 : Int32)), .val (.int zm), .val (.long y1), .second, .val (.long y2), .second, .val (.long y3), .second, .val (.long y4), .second, .val (.double z1), .second, .val (.double z2), .second, .val (.double z3), .second, .val (.ref b29), .val (.int (own_v0_168 zm)), .val (.int (1 : Int32)), .val (.int (0 : Int32))] [(.long y3), (.int (0 : Int32)), (.double z2), (.long y2), (.int (1 : Int32)), (.double z1), (.long y1), (.int (own_v0_168 zm)), (.long y1), (.double (own_f6 y1 fk2 gk2))]))
      refine own_go (fun _ => XS.dload X34.here hx rfl (hb hby at_265) rfl) ?_
      show own_Go p.tables e below _ (T34.setTop (mkF m 267 #[.val (.int p1), .val (.long q2), .second, .val (.long q3), .second, .val (.long q4), .second, .val (.long q5), .second, .val (.int p6), .val (.int (2 : Int32)), .val (.int zm), .val (.long y1), .second, .val (.long y2), .second, .val (.long y3), .second, .val (.long y4), .second, .val (.double z1), .second, .val (.double z2), .second, .val (.double z3), .second, .val (.ref b29), .val (.int (own_v0_168 zm)), .val (.int (1 : Int32)), .val (.int (0 : Int32))] [(.double z3), (.long y3), (.int (0 : Int32)), (.double z2), (.long y2), (.int (1 : Int32)), (.double z1), (.long y1), (.int (own_v0_168 zm)), (.long y1), (.double (own_f6 y1 fk2 gk2))]))
      obtain ⟨v35, T35, L35, X35, hQ35, st35⟩ := own_tidyS X34 (Jvm.LawKit.callS X34 hx (y := (⟨"com/example/outis/outis/clustering/KeptChargesGetPinLaw", "check", "(DJZJDZJDZJD)Z"⟩ : MethodName)) hown (mvT hZ (hw _ (List.mem_of_getElem? (i := 45) rfl))) (mvT hZ (hw _ (List.mem_of_getElem? (i := 46) rfl))) (mvT hZ (hw _ (List.mem_of_getElem? (i := 47) rfl))) (mvT hZ (hw _ (List.mem_of_getElem? (i := 48) rfl))) (by decide) (backOf (W := 0) (rm8 l Z a0 hw [] (own_f6 y1 fk2 gk2) y1 (own_v0_168 zm) y1 z1 (1 : Int32) y2 z2 (0 : Int32) y3 z3 T32.heap n0 (Nat.le_trans (Nat.le_trans (Nat.le_trans (Nat.le_trans Z0 E29.1) Kc30.1) Kc31.1) Kc32.1) ) hZ (hw _ (List.mem_of_getElem? (i := 48) rfl)) (hw _ (List.mem_of_getElem? (i := 47) rfl)) (by decide) (by decide)) (g := (mkF m 267 #[.val (.int p1), .val (.long q2), .second, .val (.long q3), .second, .val (.long q4), .second, .val (.long q5), .second, .val (.int p6), .val (.int (2 : Int32)), .val (.int zm), .val (.long y1), .second, .val (.long y2), .second, .val (.long y3), .second, .val (.long y4), .second, .val (.double z1), .second, .val (.double z2), .second, .val (.double z3), .second, .val (.ref b29), .val (.int (own_v0_168 zm)), .val (.int (1 : Int32)), .val (.int (0 : Int32))] [(.double z3), (.long y3), (.int (0 : Int32)), (.double z2), (.long y2), (.int (1 : Int32)), (.double z1), (.long y1), (.int (own_v0_168 zm)), (.long y1), (.double (own_f6 y1 fk2 gk2))])) rfl (by rw [hml]; rfl) (argsL := [(.double (own_f6 y1 fk2 gk2)), (.long y1), (.int (own_v0_168 zm)), (.long y1), (.double z1), (.int (1 : Int32)), (.long y2), (.double z2), (.int (0 : Int32)), (.long y3), (.double z3)]) (rest := []) (lenOf pd_6 rfl) rfl (by show 2 * 0 + _ ≤ _; exact Nat.le_of_eq rfl) (hb hby at_267) (fun _ _ => ⟨rfl, e34, (by decide : 3 + 0 ≤ _), (by decide : 37 + 0 ≤ _)⟩)) (c' := 3) (n' := 37) rfl rfl
      obtain ⟨rfl, N35q, e35⟩ := hQ35
      have N35 := Fr.app N34 N35q
      refine own_go st35 ?_
      show own_Go p.tables e below _ (T35.setTop (mkF m 270 #[.val (.int p1), .val (.long q2), .second, .val (.long q3), .second, .val (.long q4), .second, .val (.long q5), .second, .val (.int p6), .val (.int (2 : Int32)), .val (.int zm), .val (.long y1), .second, .val (.long y2), .second, .val (.long y3), .second, .val (.long y4), .second, .val (.double z1), .second, .val (.double z2), .second, .val (.double z3), .second, .val (.ref b29), .val (.int (own_v0_168 zm)), .val (.int (1 : Int32)), .val (.int (0 : Int32))] [(.int (own_f8 (own_f6 y1 fk2 gk2) y1 (own_v0_168 zm) y1 z1 (1 : Int32) y2 z2 (0 : Int32) y3 z3))]))
      refine own_go (fun _ => XS.ifNo X35.here hx rfl (hb hby at_270) rfl ((if0 _ _).trans (feq (own_ok2 hz4 J2 hy1 hz1 hz2 hz3)).1)) ?_
      show own_Go p.tables e below _ (T35.setTop (mkF m 273 #[.val (.int p1), .val (.long q2), .second, .val (.long q3), .second, .val (.long q4), .second, .val (.long q5), .second, .val (.int p6), .val (.int (2 : Int32)), .val (.int zm), .val (.long y1), .second, .val (.long y2), .second, .val (.long y3), .second, .val (.long y4), .second, .val (.double z1), .second, .val (.double z2), .second, .val (.double z3), .second, .val (.ref b29), .val (.int (own_v0_168 zm)), .val (.int (1 : Int32)), .val (.int (0 : Int32))] []))
      refine own_go (fun _ => XS.aload X35.here hx rfl (hb hby at_273) rfl rfl) ?_
      show own_Go p.tables e below _ (T35.setTop (mkF m 275 #[.val (.int p1), .val (.long q2), .second, .val (.long q3), .second, .val (.long q4), .second, .val (.long q5), .second, .val (.int p6), .val (.int (2 : Int32)), .val (.int zm), .val (.long y1), .second, .val (.long y2), .second, .val (.long y3), .second, .val (.long y4), .second, .val (.double z1), .second, .val (.double z2), .second, .val (.double z3), .second, .val (.ref b29), .val (.int (own_v0_168 zm)), .val (.int (1 : Int32)), .val (.int (0 : Int32))] [(.ref b29)]))
      refine own_go (fun _ => XS.lload X35.here hx rfl (hb hby at_275) rfl) ?_
      show own_Go p.tables e below _ (T35.setTop (mkF m 277 #[.val (.int p1), .val (.long q2), .second, .val (.long q3), .second, .val (.long q4), .second, .val (.long q5), .second, .val (.int p6), .val (.int (2 : Int32)), .val (.int zm), .val (.long y1), .second, .val (.long y2), .second, .val (.long y3), .second, .val (.long y4), .second, .val (.double z1), .second, .val (.double z2), .second, .val (.double z3), .second, .val (.ref b29), .val (.int (own_v0_168 zm)), .val (.int (1 : Int32)), .val (.int (0 : Int32))] [(.long y2), (.ref b29)]))
      obtain ⟨cq36, kq36, q36a, q36b, q36c⟩ := isOf hZ e35 F32_0
      obtain ⟨v36, T36, L36, X36, hQ36, st36⟩ := own_tidyV X35 (X35.virtualBack hx (y := (⟨"com/example/outis/outis/clustering/KeptCharges", "get", "(J)D"⟩ : MethodName)) (z := (⟨"com/example/outis/outis/clustering/KeptCharges", "get", "(J)D"⟩ : MethodName)) hown (mvT hZ (hw _ (List.mem_of_getElem? (i := 34) rfl))) (mvT hZ (hw _ (List.mem_of_getElem? (i := 35) rfl))) (notFace_of_selects (args := #[]) (mvT hZ (hw _ (List.mem_of_getElem? (i := 37) rfl)))) (mvT hZ (hw _ (List.mem_of_getElem? (i := 37) rfl))) (mvT hZ (hw _ (List.mem_of_getElem? (i := 36) rfl))) (by decide) (backOf (W := 0) (rm6 l Z a0 hw [] b29 y2 e30_0 e30_1 fk2 gk2 kc30_0 kc30_1 T32.heap n0 (Nat.le_trans (Nat.le_trans (Nat.le_trans (Nat.le_trans Z0 E29.1) Kc30.1) Kc31.1) Kc32.1) F32_3 F32_4 F32_5 F32_0 F32_6 F32_7 (own_J.fin J2 own_le2 _)) hZ (hw _ (List.mem_of_getElem? (i := 38) rfl)) (hw _ (List.mem_of_getElem? (i := 3) rfl)) (by decide) (by decide)) q36a q36c (g := (mkF m 277 #[.val (.int p1), .val (.long q2), .second, .val (.long q3), .second, .val (.long q4), .second, .val (.long q5), .second, .val (.int p6), .val (.int (2 : Int32)), .val (.int zm), .val (.long y1), .second, .val (.long y2), .second, .val (.long y3), .second, .val (.long y4), .second, .val (.double z1), .second, .val (.double z2), .second, .val (.double z3), .second, .val (.ref b29), .val (.int (own_v0_168 zm)), .val (.int (1 : Int32)), .val (.int (0 : Int32))] [(.long y2), (.ref b29)])) rfl (by rw [hml]; rfl) (Steps.refl _) (argsL := [(.long y2)]) (rest := []) (lenOf pd_4 rfl) rfl (by show 2 * 0 + _ ≤ _; exact Nat.le_of_eq rfl) (hb hby at_277) (fun _ _ => ⟨rfl, e35, (by decide : 3 + 0 ≤ _), (by decide : 37 + 0 ≤ _)⟩)) (c' := 3) (n' := 37) rfl rfl
      obtain ⟨rfl, N36q, e36⟩ := hQ36
      have N36 := Fr.app N35 N36q
      refine own_via st36 ?_
      show own_Go p.tables e below _ (T36.setTop (mkF m 280 #[.val (.int p1), .val (.long q2), .second, .val (.long q3), .second, .val (.long q4), .second, .val (.long q5), .second, .val (.int p6), .val (.int (2 : Int32)), .val (.int zm), .val (.long y1), .second, .val (.long y2), .second, .val (.long y3), .second, .val (.long y4), .second, .val (.double z1), .second, .val (.double z2), .second, .val (.double z3), .second, .val (.ref b29), .val (.int (own_v0_168 zm)), .val (.int (1 : Int32)), .val (.int (0 : Int32))] [(.double (own_f6 y2 fk2 gk2))]))
      refine own_go (fun _ => XS.lload X36.here hx rfl (hb hby at_280) rfl) ?_
      show own_Go p.tables e below _ (T36.setTop (mkF m 282 #[.val (.int p1), .val (.long q2), .second, .val (.long q3), .second, .val (.long q4), .second, .val (.long q5), .second, .val (.int p6), .val (.int (2 : Int32)), .val (.int zm), .val (.long y1), .second, .val (.long y2), .second, .val (.long y3), .second, .val (.long y4), .second, .val (.double z1), .second, .val (.double z2), .second, .val (.double z3), .second, .val (.ref b29), .val (.int (own_v0_168 zm)), .val (.int (1 : Int32)), .val (.int (0 : Int32))] [(.long y2), (.double (own_f6 y2 fk2 gk2))]))
      refine own_go (fun _ => XS.iload X36.here hx rfl (hb hby at_282) rfl) ?_
      show own_Go p.tables e below _ (T36.setTop (mkF m 284 #[.val (.int p1), .val (.long q2), .second, .val (.long q3), .second, .val (.long q4), .second, .val (.long q5), .second, .val (.int p6), .val (.int (2 : Int32)), .val (.int zm), .val (.long y1), .second, .val (.long y2), .second, .val (.long y3), .second, .val (.long y4), .second, .val (.double z1), .second, .val (.double z2), .second, .val (.double z3), .second, .val (.ref b29), .val (.int (own_v0_168 zm)), .val (.int (1 : Int32)), .val (.int (0 : Int32))] [(.int (own_v0_168 zm)), (.long y2), (.double (own_f6 y2 fk2 gk2))]))
      refine own_go (fun _ => XS.lload X36.here hx rfl (hb hby at_284) rfl) ?_
      show own_Go p.tables e below _ (T36.setTop (mkF m 286 #[.val (.int p1), .val (.long q2), .second, .val (.long q3), .second, .val (.long q4), .second, .val (.long q5), .second, .val (.int p6), .val (.int (2 : Int32)), .val (.int zm), .val (.long y1), .second, .val (.long y2), .second, .val (.long y3), .second, .val (.long y4), .second, .val (.double z1), .second, .val (.double z2), .second, .val (.double z3), .second, .val (.ref b29), .val (.int (own_v0_168 zm)), .val (.int (1 : Int32)), .val (.int (0 : Int32))] [(.long y1), (.int (own_v0_168 zm)), (.long y2), (.double (own_f6 y2 fk2 gk2))]))
      refine own_go (fun _ => XS.dload X36.here hx rfl (hb hby at_286) rfl) ?_
      show own_Go p.tables e below _ (T36.setTop (mkF m 288 #[.val (.int p1), .val (.long q2), .second, .val (.long q3), .second, .val (.long q4), .second, .val (.long q5), .second, .val (.int p6), .val (.int (2 : Int32)), .val (.int zm), .val (.long y1), .second, .val (.long y2), .second, .val (.long y3), .second, .val (.long y4), .second, .val (.double z1), .second, .val (.double z2), .second, .val (.double z3), .second, .val (.ref b29), .val (.int (own_v0_168 zm)), .val (.int (1 : Int32)), .val (.int (0 : Int32))] [(.double z1), (.long y1), (.int (own_v0_168 zm)), (.long y2), (.double (own_f6 y2 fk2 gk2))]))
      refine own_go (fun _ => XS.iload X36.here hx rfl (hb hby at_288) rfl) ?_
      show own_Go p.tables e below _ (T36.setTop (mkF m 290 #[.val (.int p1), .val (.long q2), .second, .val (.long q3), .second, .val (.long q4), .second, .val (.long q5), .second, .val (.int p6), .val (.int (2 : Int32)), .val (.int zm), .val (.long y1), .second, .val (.long y2), .second, .val (.long y3), .second, .val (.long y4), .second, .val (.double z1), .second, .val (.double z2), .second, .val (.double z3), .second, .val (.ref b29), .val (.int (own_v0_168 zm)), .val (.int (1 : Int32)), .val (.int (0 : Int32))] [(.int (1 : Int32)), (.double z1), (.long y1), (.int (own_v0_168 zm)), (.long y2), (.double (own_f6 y2 fk2 gk2))]))
      refine own_go (fun _ => XS.lload X36.here hx rfl (hb hby at_290) rfl) ?_
      show own_Go p.tables e below _ (T36.setTop (mkF m 292 #[.val (.int p1), .val (.long q2), .second, .val (.long q3), .second, .val (.long q4), .second, .val (.long q5), .second, .val (.int p6), .val (.int (2 : Int32)), .val (.int zm), .val (.long y1), .second, .val (.long y2), .second, .val (.long y3), .second, .val (.long y4), .second, .val (.double z1), .second, .val (.double z2), .second, .val (.double z3), .second, .val (.ref b29), .val (.int (own_v0_168 zm)), .val (.int (1 : Int32)), .val (.int (0 : Int32))] [(.long y2), (.int (1 : Int32)), (.double z1), (.long y1), (.int (own_v0_168 zm)), (.long y2), (.double (own_f6 y2 fk2 gk2))]))
      refine own_go (fun _ => XS.dload X36.here hx rfl (hb hby at_292) rfl) ?_
      show own_Go p.tables e below _ (T36.setTop (mkF m 294 #[.val (.int p1), .val (.long q2), .second, .val (.long q3), .second, .val (.long q4), .second, .val (.long q5), .second, .val (.int p6), .val (.int (2 : Int32)), .val (.int zm), .val (.long y1), .second, .val (.long y2), .second, .val (.long y3), .second, .val (.long y4), .second, .val (.double z1), .second, .val (.double z2), .second, .val (.double z3), .second, .val (.ref b29), .val (.int (own_v0_168 zm)), .val (.int (1 : Int32)), .val (.int (0 : Int32))] [(.double z2), (.long y2), (.int (1 : Int32)), (.double z1), (.long y1), (.int (own_v0_168 zm)), (.long y2), (.double (own_f6 y2 fk2 gk2))]))
      refine own_go (fun _ => XS.iload X36.here hx rfl (hb hby at_294) rfl) ?_
      show own_Go p.tables e below _ (T36.setTop (mkF m 296 #[.val (.int p1), .val (.long q2), .second, .val (.long q3), .second, .val (.long q4), .second, .val (.long q5), .second, .val (.int p6), .val (.int (2 : Int32)), .val (.int zm), .val (.long y1), .second, .val (.long y2), .second, .val (.long y3), .second, .val (.long y4), .second, .val (.double z1), .second, .val (.double z2), .second, .val (.double z3), .second, .val (.ref b29), .val (.int (own_v0_168 zm)), .val (.int (1 : Int32)), .val (.int (0 : Int32))] [(.int (0 : Int32)), (.double z2), (.long y2), (.int (1 : Int32)), (.double z1), (.long y1), (.int (own_v0_168 zm)), (.long y2), (.double (own_f6 y2 fk2 gk2))]))
      refine own_go (fun _ => XS.lload X36.here hx rfl (hb hby at_296) rfl) ?_
      show own_Go p.tables e below _ (T36.setTop (mkF m 298 #[.val (.int p1), .val (.long q2), .second, .val (.long q3), .second, .val (.long q4), .second, .val (.long q5), .second, .val (.int p6), .val (.int (2 : Int32)), .val (.int zm), .val (.long y1), .second, .val (.long y2), .second, .val (.long y3), .second, .val (.long y4), .second, .val (.double z1), .second, .val (.double z2), .second, .val (.double z3), .second, .val (.ref b29), .val (.int (own_v0_168 zm)), .val (.int (1 : Int32)), .val (.int (0 : Int32))] [(.long y3), (.int (0 : Int32)), (.double z2), (.long y2), (.int (1 : Int32)), (.double z1), (.long y1), (.int (own_v0_168 zm)), (.long y2), (.double (own_f6 y2 fk2 gk2))]))
      refine own_go (fun _ => XS.dload X36.here hx rfl (hb hby at_298) rfl) ?_
      show own_Go p.tables e below _ (T36.setTop (mkF m 300 #[.val (.int p1), .val (.long q2), .second, .val (.long q3), .second, .val (.long q4), .second, .val (.long q5), .second, .val (.int p6), .val (.int (2 : Int32)), .val (.int zm), .val (.long y1), .second, .val (.long y2), .second, .val (.long y3), .second, .val (.long y4), .second, .val (.double z1), .second, .val (.double z2), .second, .val (.double z3), .second, .val (.ref b29), .val (.int (own_v0_168 zm)), .val (.int (1 : Int32)), .val (.int (0 : Int32))] [(.double z3), (.long y3), (.int (0 : Int32)), (.double z2), (.long y2), (.int (1 : Int32)), (.double z1), (.long y1), (.int (own_v0_168 zm)), (.long y2), (.double (own_f6 y2 fk2 gk2))]))
      obtain ⟨v37, T37, L37, X37, hQ37, st37⟩ := own_tidyS X36 (Jvm.LawKit.callS X36 hx (y := (⟨"com/example/outis/outis/clustering/KeptChargesGetPinLaw", "check", "(DJZJDZJDZJD)Z"⟩ : MethodName)) hown (mvT hZ (hw _ (List.mem_of_getElem? (i := 45) rfl))) (mvT hZ (hw _ (List.mem_of_getElem? (i := 46) rfl))) (mvT hZ (hw _ (List.mem_of_getElem? (i := 47) rfl))) (mvT hZ (hw _ (List.mem_of_getElem? (i := 48) rfl))) (by decide) (backOf (W := 0) (rm8 l Z a0 hw [] (own_f6 y2 fk2 gk2) y2 (own_v0_168 zm) y1 z1 (1 : Int32) y2 z2 (0 : Int32) y3 z3 T32.heap n0 (Nat.le_trans (Nat.le_trans (Nat.le_trans (Nat.le_trans Z0 E29.1) Kc30.1) Kc31.1) Kc32.1) ) hZ (hw _ (List.mem_of_getElem? (i := 48) rfl)) (hw _ (List.mem_of_getElem? (i := 47) rfl)) (by decide) (by decide)) (g := (mkF m 300 #[.val (.int p1), .val (.long q2), .second, .val (.long q3), .second, .val (.long q4), .second, .val (.long q5), .second, .val (.int p6), .val (.int (2 : Int32)), .val (.int zm), .val (.long y1), .second, .val (.long y2), .second, .val (.long y3), .second, .val (.long y4), .second, .val (.double z1), .second, .val (.double z2), .second, .val (.double z3), .second, .val (.ref b29), .val (.int (own_v0_168 zm)), .val (.int (1 : Int32)), .val (.int (0 : Int32))] [(.double z3), (.long y3), (.int (0 : Int32)), (.double z2), (.long y2), (.int (1 : Int32)), (.double z1), (.long y1), (.int (own_v0_168 zm)), (.long y2), (.double (own_f6 y2 fk2 gk2))])) rfl (by rw [hml]; rfl) (argsL := [(.double (own_f6 y2 fk2 gk2)), (.long y2), (.int (own_v0_168 zm)), (.long y1), (.double z1), (.int (1 : Int32)), (.long y2), (.double z2), (.int (0 : Int32)), (.long y3), (.double z3)]) (rest := []) (lenOf pd_6 rfl) rfl (by show 2 * 0 + _ ≤ _; exact Nat.le_of_eq rfl) (hb hby at_300) (fun _ _ => ⟨rfl, e36, (by decide : 3 + 0 ≤ _), (by decide : 37 + 0 ≤ _)⟩)) (c' := 3) (n' := 37) rfl rfl
      obtain ⟨rfl, N37q, e37⟩ := hQ37
      have N37 := Fr.app N36 N37q
      refine own_go st37 ?_
      show own_Go p.tables e below _ (T37.setTop (mkF m 303 #[.val (.int p1), .val (.long q2), .second, .val (.long q3), .second, .val (.long q4), .second, .val (.long q5), .second, .val (.int p6), .val (.int (2 : Int32)), .val (.int zm), .val (.long y1), .second, .val (.long y2), .second, .val (.long y3), .second, .val (.long y4), .second, .val (.double z1), .second, .val (.double z2), .second, .val (.double z3), .second, .val (.ref b29), .val (.int (own_v0_168 zm)), .val (.int (1 : Int32)), .val (.int (0 : Int32))] [(.int (own_f8 (own_f6 y2 fk2 gk2) y2 (own_v0_168 zm) y1 z1 (1 : Int32) y2 z2 (0 : Int32) y3 z3))]))
      refine own_go (fun _ => XS.ifNo X37.here hx rfl (hb hby at_303) rfl ((if0 _ _).trans (feq (own_ok2 hz4 J2 hy2 hz1 hz2 hz3)).1)) ?_
      show own_Go p.tables e below _ (T37.setTop (mkF m 306 #[.val (.int p1), .val (.long q2), .second, .val (.long q3), .second, .val (.long q4), .second, .val (.long q5), .second, .val (.int p6), .val (.int (2 : Int32)), .val (.int zm), .val (.long y1), .second, .val (.long y2), .second, .val (.long y3), .second, .val (.long y4), .second, .val (.double z1), .second, .val (.double z2), .second, .val (.double z3), .second, .val (.ref b29), .val (.int (own_v0_168 zm)), .val (.int (1 : Int32)), .val (.int (0 : Int32))] []))
      refine own_go (fun _ => XS.aload X37.here hx rfl (hb hby at_306) rfl rfl) ?_
      show own_Go p.tables e below _ (T37.setTop (mkF m 308 #[.val (.int p1), .val (.long q2), .second, .val (.long q3), .second, .val (.long q4), .second, .val (.long q5), .second, .val (.int p6), .val (.int (2 : Int32)), .val (.int zm), .val (.long y1), .second, .val (.long y2), .second, .val (.long y3), .second, .val (.long y4), .second, .val (.double z1), .second, .val (.double z2), .second, .val (.double z3), .second, .val (.ref b29), .val (.int (own_v0_168 zm)), .val (.int (1 : Int32)), .val (.int (0 : Int32))] [(.ref b29)]))
      refine own_go (fun _ => XS.lload X37.here hx rfl (hb hby at_308) rfl) ?_
      show own_Go p.tables e below _ (T37.setTop (mkF m 310 #[.val (.int p1), .val (.long q2), .second, .val (.long q3), .second, .val (.long q4), .second, .val (.long q5), .second, .val (.int p6), .val (.int (2 : Int32)), .val (.int zm), .val (.long y1), .second, .val (.long y2), .second, .val (.long y3), .second, .val (.long y4), .second, .val (.double z1), .second, .val (.double z2), .second, .val (.double z3), .second, .val (.ref b29), .val (.int (own_v0_168 zm)), .val (.int (1 : Int32)), .val (.int (0 : Int32))] [(.long y3), (.ref b29)]))
      obtain ⟨cq38, kq38, q38a, q38b, q38c⟩ := isOf hZ e37 F32_0
      obtain ⟨v38, T38, L38, X38, hQ38, st38⟩ := own_tidyV X37 (X37.virtualBack hx (y := (⟨"com/example/outis/outis/clustering/KeptCharges", "get", "(J)D"⟩ : MethodName)) (z := (⟨"com/example/outis/outis/clustering/KeptCharges", "get", "(J)D"⟩ : MethodName)) hown (mvT hZ (hw _ (List.mem_of_getElem? (i := 34) rfl))) (mvT hZ (hw _ (List.mem_of_getElem? (i := 35) rfl))) (notFace_of_selects (args := #[]) (mvT hZ (hw _ (List.mem_of_getElem? (i := 37) rfl)))) (mvT hZ (hw _ (List.mem_of_getElem? (i := 37) rfl))) (mvT hZ (hw _ (List.mem_of_getElem? (i := 36) rfl))) (by decide) (backOf (W := 0) (rm6 l Z a0 hw [] b29 y3 e30_0 e30_1 fk2 gk2 kc30_0 kc30_1 T32.heap n0 (Nat.le_trans (Nat.le_trans (Nat.le_trans (Nat.le_trans Z0 E29.1) Kc30.1) Kc31.1) Kc32.1) F32_3 F32_4 F32_5 F32_0 F32_6 F32_7 (own_J.fin J2 own_le2 _)) hZ (hw _ (List.mem_of_getElem? (i := 38) rfl)) (hw _ (List.mem_of_getElem? (i := 3) rfl)) (by decide) (by decide)) q38a q38c (g := (mkF m 310 #[.val (.int p1), .val (.long q2), .second, .val (.long q3), .second, .val (.long q4), .second, .val (.long q5), .second, .val (.int p6), .val (.int (2 : Int32)), .val (.int zm), .val (.long y1), .second, .val (.long y2), .second, .val (.long y3), .second, .val (.long y4), .second, .val (.double z1), .second, .val (.double z2), .second, .val (.double z3), .second, .val (.ref b29), .val (.int (own_v0_168 zm)), .val (.int (1 : Int32)), .val (.int (0 : Int32))] [(.long y3), (.ref b29)])) rfl (by rw [hml]; rfl) (Steps.refl _) (argsL := [(.long y3)]) (rest := []) (lenOf pd_4 rfl) rfl (by show 2 * 0 + _ ≤ _; exact Nat.le_of_eq rfl) (hb hby at_310) (fun _ _ => ⟨rfl, e37, (by decide : 3 + 0 ≤ _), (by decide : 37 + 0 ≤ _)⟩)) (c' := 3) (n' := 37) rfl rfl
      obtain ⟨rfl, N38q, e38⟩ := hQ38
      have N38 := Fr.app N37 N38q
      refine own_via st38 ?_
      show own_Go p.tables e below _ (T38.setTop (mkF m 313 #[.val (.int p1), .val (.long q2), .second, .val (.long q3), .second, .val (.long q4), .second, .val (.long q5), .second, .val (.int p6), .val (.int (2 : Int32)), .val (.int zm), .val (.long y1), .second, .val (.long y2), .second, .val (.long y3), .second, .val (.long y4), .second, .val (.double z1), .second, .val (.double z2), .second, .val (.double z3), .second, .val (.ref b29), .val (.int (own_v0_168 zm)), .val (.int (1 : Int32)), .val (.int (0 : Int32))] [(.double (own_f6 y3 fk2 gk2))]))
      refine own_go (fun _ => XS.lload X38.here hx rfl (hb hby at_313) rfl) ?_
      show own_Go p.tables e below _ (T38.setTop (mkF m 315 #[.val (.int p1), .val (.long q2), .second, .val (.long q3), .second, .val (.long q4), .second, .val (.long q5), .second, .val (.int p6), .val (.int (2 : Int32)), .val (.int zm), .val (.long y1), .second, .val (.long y2), .second, .val (.long y3), .second, .val (.long y4), .second, .val (.double z1), .second, .val (.double z2), .second, .val (.double z3), .second, .val (.ref b29), .val (.int (own_v0_168 zm)), .val (.int (1 : Int32)), .val (.int (0 : Int32))] [(.long y3), (.double (own_f6 y3 fk2 gk2))]))
      refine own_go (fun _ => XS.iload X38.here hx rfl (hb hby at_315) rfl) ?_
      show own_Go p.tables e below _ (T38.setTop (mkF m 317 #[.val (.int p1), .val (.long q2), .second, .val (.long q3), .second, .val (.long q4), .second, .val (.long q5), .second, .val (.int p6), .val (.int (2 : Int32)), .val (.int zm), .val (.long y1), .second, .val (.long y2), .second, .val (.long y3), .second, .val (.long y4), .second, .val (.double z1), .second, .val (.double z2), .second, .val (.double z3), .second, .val (.ref b29), .val (.int (own_v0_168 zm)), .val (.int (1 : Int32)), .val (.int (0 : Int32))] [(.int (own_v0_168 zm)), (.long y3), (.double (own_f6 y3 fk2 gk2))]))
      refine own_go (fun _ => XS.lload X38.here hx rfl (hb hby at_317) rfl) ?_
      show own_Go p.tables e below _ (T38.setTop (mkF m 319 #[.val (.int p1), .val (.long q2), .second, .val (.long q3), .second, .val (.long q4), .second, .val (.long q5), .second, .val (.int p6), .val (.int (2 : Int32)), .val (.int zm), .val (.long y1), .second, .val (.long y2), .second, .val (.long y3), .second, .val (.long y4), .second, .val (.double z1), .second, .val (.double z2), .second, .val (.double z3), .second, .val (.ref b29), .val (.int (own_v0_168 zm)), .val (.int (1 : Int32)), .val (.int (0 : Int32))] [(.long y1), (.int (own_v0_168 zm)), (.long y3), (.double (own_f6 y3 fk2 gk2))]))
      refine own_go (fun _ => XS.dload X38.here hx rfl (hb hby at_319) rfl) ?_
      show own_Go p.tables e below _ (T38.setTop (mkF m 321 #[.val (.int p1), .val (.long q2), .second, .val (.long q3), .second, .val (.long q4), .second, .val (.long q5), .second, .val (.int p6), .val (.int (2 : Int32)), .val (.int zm), .val (.long y1), .second, .val (.long y2), .second, .val (.long y3), .second, .val (.long y4), .second, .val (.double z1), .second, .val (.double z2), .second, .val (.double z3), .second, .val (.ref b29), .val (.int (own_v0_168 zm)), .val (.int (1 : Int32)), .val (.int (0 : Int32))] [(.double z1), (.long y1), (.int (own_v0_168 zm)), (.long y3), (.double (own_f6 y3 fk2 gk2))]))
      refine own_go (fun _ => XS.iload X38.here hx rfl (hb hby at_321) rfl) ?_
      show own_Go p.tables e below _ (T38.setTop (mkF m 323 #[.val (.int p1), .val (.long q2), .second, .val (.long q3), .second, .val (.long q4), .second, .val (.long q5), .second, .val (.int p6), .val (.int (2 : Int32)), .val (.int zm), .val (.long y1), .second, .val (.long y2), .second, .val (.long y3), .second, .val (.long y4), .second, .val (.double z1), .second, .val (.double z2), .second, .val (.double z3), .second, .val (.ref b29), .val (.int (own_v0_168 zm)), .val (.int (1 : Int32)), .val (.int (0 : Int32))] [(.int (1 : Int32)), (.double z1), (.long y1), (.int (own_v0_168 zm)), (.long y3), (.double (own_f6 y3 fk2 gk2))]))
      refine own_go (fun _ => XS.lload X38.here hx rfl (hb hby at_323) rfl) ?_
      show own_Go p.tables e below _ (T38.setTop (mkF m 325 #[.val (.int p1), .val (.long q2), .second, .val (.long q3), .second, .val (.long q4), .second, .val (.long q5), .second, .val (.int p6), .val (.int (2 : Int32)), .val (.int zm), .val (.long y1), .second, .val (.long y2), .second, .val (.long y3), .second, .val (.long y4), .second, .val (.double z1), .second, .val (.double z2), .second, .val (.double z3), .second, .val (.ref b29), .val (.int (own_v0_168 zm)), .val (.int (1 : Int32)), .val (.int (0 : Int32))] [(.long y2), (.int (1 : Int32)), (.double z1), (.long y1), (.int (own_v0_168 zm)), (.long y3), (.double (own_f6 y3 fk2 gk2))]))
      refine own_go (fun _ => XS.dload X38.here hx rfl (hb hby at_325) rfl) ?_
      show own_Go p.tables e below _ (T38.setTop (mkF m 327 #[.val (.int p1), .val (.long q2), .second, .val (.long q3), .second, .val (.long q4), .second, .val (.long q5), .second, .val (.int p6), .val (.int (2 : Int32)), .val (.int zm), .val (.long y1), .second, .val (.long y2), .second, .val (.long y3), .second, .val (.long y4), .second, .val (.double z1), .second, .val (.double z2), .second, .val (.double z3), .second, .val (.ref b29), .val (.int (own_v0_168 zm)), .val (.int (1 : Int32)), .val (.int (0 : Int32))] [(.double z2), (.long y2), (.int (1 : Int32)), (.double z1), (.long y1), (.int (own_v0_168 zm)), (.long y3), (.double (own_f6 y3 fk2 gk2))]))
      refine own_go (fun _ => XS.iload X38.here hx rfl (hb hby at_327) rfl) ?_
      show own_Go p.tables e below _ (T38.setTop (mkF m 329 #[.val (.int p1), .val (.long q2), .second, .val (.long q3), .second, .val (.long q4), .second, .val (.long q5), .second, .val (.int p6), .val (.int (2 : Int32)), .val (.int zm), .val (.long y1), .second, .val (.long y2), .second, .val (.long y3), .second, .val (.long y4), .second, .val (.double z1), .second, .val (.double z2), .second, .val (.double z3), .second, .val (.ref b29), .val (.int (own_v0_168 zm)), .val (.int (1 : Int32)), .val (.int (0 : Int32))] [(.int (0 : Int32)), (.double z2), (.long y2), (.int (1 : Int32)), (.double z1), (.long y1), (.int (own_v0_168 zm)), (.long y3), (.double (own_f6 y3 fk2 gk2))]))
      refine own_go (fun _ => XS.lload X38.here hx rfl (hb hby at_329) rfl) ?_
      show own_Go p.tables e below _ (T38.setTop (mkF m 331 #[.val (.int p1), .val (.long q2), .second, .val (.long q3), .second, .val (.long q4), .second, .val (.long q5), .second, .val (.int p6), .val (.int (2 : Int32)), .val (.int zm), .val (.long y1), .second, .val (.long y2), .second, .val (.long y3), .second, .val (.long y4), .second, .val (.double z1), .second, .val (.double z2), .second, .val (.double z3), .second, .val (.ref b29), .val (.int (own_v0_168 zm)), .val (.int (1 : Int32)), .val (.int (0 : Int32))] [(.long y3), (.int (0 : Int32)), (.double z2), (.long y2), (.int (1 : Int32)), (.double z1), (.long y1), (.int (own_v0_168 zm)), (.long y3), (.double (own_f6 y3 fk2 gk2))]))
      refine own_go (fun _ => XS.dload X38.here hx rfl (hb hby at_331) rfl) ?_
      show own_Go p.tables e below _ (T38.setTop (mkF m 333 #[.val (.int p1), .val (.long q2), .second, .val (.long q3), .second, .val (.long q4), .second, .val (.long q5), .second, .val (.int p6), .val (.int (2 : Int32)), .val (.int zm), .val (.long y1), .second, .val (.long y2), .second, .val (.long y3), .second, .val (.long y4), .second, .val (.double z1), .second, .val (.double z2), .second, .val (.double z3), .second, .val (.ref b29), .val (.int (own_v0_168 zm)), .val (.int (1 : Int32)), .val (.int (0 : Int32))] [(.double z3), (.long y3), (.int (0 : Int32)), (.double z2), (.long y2), (.int (1 : Int32)), (.double z1), (.long y1), (.int (own_v0_168 zm)), (.long y3), (.double (own_f6 y3 fk2 gk2))]))
      obtain ⟨v39, T39, L39, X39, hQ39, st39⟩ := own_tidyS X38 (Jvm.LawKit.callS X38 hx (y := (⟨"com/example/outis/outis/clustering/KeptChargesGetPinLaw", "check", "(DJZJDZJDZJD)Z"⟩ : MethodName)) hown (mvT hZ (hw _ (List.mem_of_getElem? (i := 45) rfl))) (mvT hZ (hw _ (List.mem_of_getElem? (i := 46) rfl))) (mvT hZ (hw _ (List.mem_of_getElem? (i := 47) rfl))) (mvT hZ (hw _ (List.mem_of_getElem? (i := 48) rfl))) (by decide) (backOf (W := 0) (rm8 l Z a0 hw [] (own_f6 y3 fk2 gk2) y3 (own_v0_168 zm) y1 z1 (1 : Int32) y2 z2 (0 : Int32) y3 z3 T32.heap n0 (Nat.le_trans (Nat.le_trans (Nat.le_trans (Nat.le_trans Z0 E29.1) Kc30.1) Kc31.1) Kc32.1) ) hZ (hw _ (List.mem_of_getElem? (i := 48) rfl)) (hw _ (List.mem_of_getElem? (i := 47) rfl)) (by decide) (by decide)) (g := (mkF m 333 #[.val (.int p1), .val (.long q2), .second, .val (.long q3), .second, .val (.long q4), .second, .val (.long q5), .second, .val (.int p6), .val (.int (2 : Int32)), .val (.int zm), .val (.long y1), .second, .val (.long y2), .second, .val (.long y3), .second, .val (.long y4), .second, .val (.double z1), .second, .val (.double z2), .second, .val (.double z3), .second, .val (.ref b29), .val (.int (own_v0_168 zm)), .val (.int (1 : Int32)), .val (.int (0 : Int32))] [(.double z3), (.long y3), (.int (0 : Int32)), (.double z2), (.long y2), (.int (1 : Int32)), (.double z1), (.long y1), (.int (own_v0_168 zm)), (.long y3), (.double (own_f6 y3 fk2 gk2))])) rfl (by rw [hml]; rfl) (argsL := [(.double (own_f6 y3 fk2 gk2)), (.long y3), (.int (own_v0_168 zm)), (.long y1), (.double z1), (.int (1 : Int32)), (.long y2), (.double z2), (.int (0 : Int32)), (.long y3), (.double z3)]) (rest := []) (lenOf pd_6 rfl) rfl (by show 2 * 0 + _ ≤ _; exact Nat.le_of_eq rfl) (hb hby at_333) (fun _ _ => ⟨rfl, e38, (by decide : 3 + 0 ≤ _), (by decide : 37 + 0 ≤ _)⟩)) (c' := 3) (n' := 37) rfl rfl
      obtain ⟨rfl, N39q, e39⟩ := hQ39
      have N39 := Fr.app N38 N39q
      refine own_go st39 ?_
      show own_Go p.tables e below _ (T39.setTop (mkF m 336 #[.val (.int p1), .val (.long q2), .second, .val (.long q3), .second, .val (.long q4), .second, .val (.long q5), .second, .val (.int p6), .val (.int (2 : Int32)), .val (.int zm), .val (.long y1), .second, .val (.long y2), .second, .val (.long y3), .second, .val (.long y4), .second, .val (.double z1), .second, .val (.double z2), .second, .val (.double z3), .second, .val (.ref b29), .val (.int (own_v0_168 zm)), .val (.int (1 : Int32)), .val (.int (0 : Int32))] [(.int (own_f8 (own_f6 y3 fk2 gk2) y3 (own_v0_168 zm) y1 z1 (1 : Int32) y2 z2 (0 : Int32) y3 z3))]))
      refine own_go (fun _ => XS.ifNo X39.here hx rfl (hb hby at_336) rfl ((if0 _ _).trans (feq (own_ok2 hz4 J2 hy3 hz1 hz2 hz3)).1)) ?_
      show own_Go p.tables e below _ (T39.setTop (mkF m 339 #[.val (.int p1), .val (.long q2), .second, .val (.long q3), .second, .val (.long q4), .second, .val (.long q5), .second, .val (.int p6), .val (.int (2 : Int32)), .val (.int zm), .val (.long y1), .second, .val (.long y2), .second, .val (.long y3), .second, .val (.long y4), .second, .val (.double z1), .second, .val (.double z2), .second, .val (.double z3), .second, .val (.ref b29), .val (.int (own_v0_168 zm)), .val (.int (1 : Int32)), .val (.int (0 : Int32))] []))
      refine own_go (fun _ => XS.aload X39.here hx rfl (hb hby at_339) rfl rfl) ?_
      show own_Go p.tables e below _ (T39.setTop (mkF m 341 #[.val (.int p1), .val (.long q2), .second, .val (.long q3), .second, .val (.long q4), .second, .val (.long q5), .second, .val (.int p6), .val (.int (2 : Int32)), .val (.int zm), .val (.long y1), .second, .val (.long y2), .second, .val (.long y3), .second, .val (.long y4), .second, .val (.double z1), .second, .val (.double z2), .second, .val (.double z3), .second, .val (.ref b29), .val (.int (own_v0_168 zm)), .val (.int (1 : Int32)), .val (.int (0 : Int32))] [(.ref b29)]))
      refine own_go (fun _ => XS.lload X39.here hx rfl (hb hby at_341) rfl) ?_
      show own_Go p.tables e below _ (T39.setTop (mkF m 343 #[.val (.int p1), .val (.long q2), .second, .val (.long q3), .second, .val (.long q4), .second, .val (.long q5), .second, .val (.int p6), .val (.int (2 : Int32)), .val (.int zm), .val (.long y1), .second, .val (.long y2), .second, .val (.long y3), .second, .val (.long y4), .second, .val (.double z1), .second, .val (.double z2), .second, .val (.double z3), .second, .val (.ref b29), .val (.int (own_v0_168 zm)), .val (.int (1 : Int32)), .val (.int (0 : Int32))] [(.long y4), (.ref b29)]))
      obtain ⟨cq40, kq40, q40a, q40b, q40c⟩ := isOf hZ e39 F32_0
      obtain ⟨v40, T40, L40, X40, hQ40, st40⟩ := own_tidyV X39 (X39.virtualBack hx (y := (⟨"com/example/outis/outis/clustering/KeptCharges", "get", "(J)D"⟩ : MethodName)) (z := (⟨"com/example/outis/outis/clustering/KeptCharges", "get", "(J)D"⟩ : MethodName)) hown (mvT hZ (hw _ (List.mem_of_getElem? (i := 34) rfl))) (mvT hZ (hw _ (List.mem_of_getElem? (i := 35) rfl))) (notFace_of_selects (args := #[]) (mvT hZ (hw _ (List.mem_of_getElem? (i := 37) rfl)))) (mvT hZ (hw _ (List.mem_of_getElem? (i := 37) rfl))) (mvT hZ (hw _ (List.mem_of_getElem? (i := 36) rfl))) (by decide) (backOf (W := 0) (rm6 l Z a0 hw [] b29 y4 e30_0 e30_1 fk2 gk2 kc30_0 kc30_1 T32.heap n0 (Nat.le_trans (Nat.le_trans (Nat.le_trans (Nat.le_trans Z0 E29.1) Kc30.1) Kc31.1) Kc32.1) F32_3 F32_4 F32_5 F32_0 F32_6 F32_7 (own_J.fin J2 own_le2 _)) hZ (hw _ (List.mem_of_getElem? (i := 38) rfl)) (hw _ (List.mem_of_getElem? (i := 3) rfl)) (by decide) (by decide)) q40a q40c (g := (mkF m 343 #[.val (.int p1), .val (.long q2), .second, .val (.long q3), .second, .val (.long q4), .second, .val (.long q5), .second, .val (.int p6), .val (.int (2 : Int32)), .val (.int zm), .val (.long y1), .second, .val (.long y2), .second, .val (.long y3), .second, .val (.long y4), .second, .val (.double z1), .second, .val (.double z2), .second, .val (.double z3), .second, .val (.ref b29), .val (.int (own_v0_168 zm)), .val (.int (1 : Int32)), .val (.int (0 : Int32))] [(.long y4), (.ref b29)])) rfl (by rw [hml]; rfl) (Steps.refl _) (argsL := [(.long y4)]) (rest := []) (lenOf pd_4 rfl) rfl (by show 2 * 0 + _ ≤ _; exact Nat.le_of_eq rfl) (hb hby at_343) (fun _ _ => ⟨rfl, e39, (by decide : 3 + 0 ≤ _), (by decide : 37 + 0 ≤ _)⟩)) (c' := 3) (n' := 37) rfl rfl
      obtain ⟨rfl, N40q, e40⟩ := hQ40
      have N40 := Fr.app N39 N40q
      refine own_via st40 ?_
      show own_Go p.tables e below _ (T40.setTop (mkF m 346 #[.val (.int p1), .val (.long q2), .second, .val (.long q3), .second, .val (.long q4), .second, .val (.long q5), .second, .val (.int p6), .val (.int (2 : Int32)), .val (.int zm), .val (.long y1), .second, .val (.long y2), .second, .val (.long y3), .second, .val (.long y4), .second, .val (.double z1), .second, .val (.double z2), .second, .val (.double z3), .second, .val (.ref b29), .val (.int (own_v0_168 zm)), .val (.int (1 : Int32)), .val (.int (0 : Int32))] [(.double (own_f6 y4 fk2 gk2))]))
      refine own_go (fun _ => XS.lload X40.here hx rfl (hb hby at_346) rfl) ?_
      show own_Go p.tables e below _ (T40.setTop (mkF m 348 #[.val (.int p1), .val (.long q2), .second, .val (.long q3), .second, .val (.long q4), .second, .val (.long q5), .second, .val (.int p6), .val (.int (2 : Int32)), .val (.int zm), .val (.long y1), .second, .val (.long y2), .second, .val (.long y3), .second, .val (.long y4), .second, .val (.double z1), .second, .val (.double z2), .second, .val (.double z3), .second, .val (.ref b29), .val (.int (own_v0_168 zm)), .val (.int (1 : Int32)), .val (.int (0 : Int32))] [(.long y4), (.double (own_f6 y4 fk2 gk2))]))
      refine own_go (fun _ => XS.iload X40.here hx rfl (hb hby at_348) rfl) ?_
      show own_Go p.tables e below _ (T40.setTop (mkF m 350 #[.val (.int p1), .val (.long q2), .second, .val (.long q3), .second, .val (.long q4), .second, .val (.long q5), .second, .val (.int p6), .val (.int (2 : Int32)), .val (.int zm), .val (.long y1), .second, .val (.long y2), .second, .val (.long y3), .second, .val (.long y4), .second, .val (.double z1), .second, .val (.double z2), .second, .val (.double z3), .second, .val (.ref b29), .val (.int (own_v0_168 zm)), .val (.int (1 : Int32)), .val (.int (0 : Int32))] [(.int (own_v0_168 zm)), (.long y4), (.double (own_f6 y4 fk2 gk2))]))
      refine own_go (fun _ => XS.lload X40.here hx rfl (hb hby at_350) rfl) ?_
      show own_Go p.tables e below _ (T40.setTop (mkF m 352 #[.val (.int p1), .val (.long q2), .second, .val (.long q3), .second, .val (.long q4), .second, .val (.long q5), .second, .val (.int p6), .val (.int (2 : Int32)), .val (.int zm), .val (.long y1), .second, .val (.long y2), .second, .val (.long y3), .second, .val (.long y4), .second, .val (.double z1), .second, .val (.double z2), .second, .val (.double z3), .second, .val (.ref b29), .val (.int (own_v0_168 zm)), .val (.int (1 : Int32)), .val (.int (0 : Int32))] [(.long y1), (.int (own_v0_168 zm)), (.long y4), (.double (own_f6 y4 fk2 gk2))]))
      refine own_go (fun _ => XS.dload X40.here hx rfl (hb hby at_352) rfl) ?_
      show own_Go p.tables e below _ (T40.setTop (mkF m 354 #[.val (.int p1), .val (.long q2), .second, .val (.long q3), .second, .val (.long q4), .second, .val (.long q5), .second, .val (.int p6), .val (.int (2 : Int32)), .val (.int zm), .val (.long y1), .second, .val (.long y2), .second, .val (.long y3), .second, .val (.long y4), .second, .val (.double z1), .second, .val (.double z2), .second, .val (.double z3), .second, .val (.ref b29), .val (.int (own_v0_168 zm)), .val (.int (1 : Int32)), .val (.int (0 : Int32))] [(.double z1), (.long y1), (.int (own_v0_168 zm)), (.long y4), (.double (own_f6 y4 fk2 gk2))]))
      refine own_go (fun _ => XS.iload X40.here hx rfl (hb hby at_354) rfl) ?_
      show own_Go p.tables e below _ (T40.setTop (mkF m 356 #[.val (.int p1), .val (.long q2), .second, .val (.long q3), .second, .val (.long q4), .second, .val (.long q5), .second, .val (.int p6), .val (.int (2 : Int32)), .val (.int zm), .val (.long y1), .second, .val (.long y2), .second, .val (.long y3), .second, .val (.long y4), .second, .val (.double z1), .second, .val (.double z2), .second, .val (.double z3), .second, .val (.ref b29), .val (.int (own_v0_168 zm)), .val (.int (1 : Int32)), .val (.int (0 : Int32))] [(.int (1 : Int32)), (.double z1), (.long y1), (.int (own_v0_168 zm)), (.long y4), (.double (own_f6 y4 fk2 gk2))]))
      refine own_go (fun _ => XS.lload X40.here hx rfl (hb hby at_356) rfl) ?_
      show own_Go p.tables e below _ (T40.setTop (mkF m 358 #[.val (.int p1), .val (.long q2), .second, .val (.long q3), .second, .val (.long q4), .second, .val (.long q5), .second, .val (.int p6), .val (.int (2 : Int32)), .val (.int zm), .val (.long y1), .second, .val (.long y2), .second, .val (.long y3), .second, .val (.long y4), .second, .val (.double z1), .second, .val (.double z2), .second, .val (.double z3), .second, .val (.ref b29), .val (.int (own_v0_168 zm)), .val (.int (1 : Int32)), .val (.int (0 : Int32))] [(.long y2), (.int (1 : Int32)), (.double z1), (.long y1), (.int (own_v0_168 zm)), (.long y4), (.double (own_f6 y4 fk2 gk2))]))
      refine own_go (fun _ => XS.dload X40.here hx rfl (hb hby at_358) rfl) ?_
      show own_Go p.tables e below _ (T40.setTop (mkF m 360 #[.val (.int p1), .val (.long q2), .second, .val (.long q3), .second, .val (.long q4), .second, .val (.long q5), .second, .val (.int p6), .val (.int (2 : Int32)), .val (.int zm), .val (.long y1), .second, .val (.long y2), .second, .val (.long y3), .second, .val (.long y4), .second, .val (.double z1), .second, .val (.double z2), .second, .val (.double z3), .second, .val (.ref b29), .val (.int (own_v0_168 zm)), .val (.int (1 : Int32)), .val (.int (0 : Int32))] [(.double z2), (.long y2), (.int (1 : Int32)), (.double z1), (.long y1), (.int (own_v0_168 zm)), (.long y4), (.double (own_f6 y4 fk2 gk2))]))
      refine own_go (fun _ => XS.iload X40.here hx rfl (hb hby at_360) rfl) ?_
      show own_Go p.tables e below _ (T40.setTop (mkF m 362 #[.val (.int p1), .val (.long q2), .second, .val (.long q3), .second, .val (.long q4), .second, .val (.long q5), .second, .val (.int p6), .val (.int (2 : Int32)), .val (.int zm), .val (.long y1), .second, .val (.long y2), .second, .val (.long y3), .second, .val (.long y4), .second, .val (.double z1), .second, .val (.double z2), .second, .val (.double z3), .second, .val (.ref b29), .val (.int (own_v0_168 zm)), .val (.int (1 : Int32)), .val (.int (0 : Int32))] [(.int (0 : Int32)), (.double z2), (.long y2), (.int (1 : Int32)), (.double z1), (.long y1), (.int (own_v0_168 zm)), (.long y4), (.double (own_f6 y4 fk2 gk2))]))
      refine own_go (fun _ => XS.lload X40.here hx rfl (hb hby at_362) rfl) ?_
      show own_Go p.tables e below _ (T40.setTop (mkF m 364 #[.val (.int p1), .val (.long q2), .second, .val (.long q3), .second, .val (.long q4), .second, .val (.long q5), .second, .val (.int p6), .val (.int (2 : Int32)), .val (.int zm), .val (.long y1), .second, .val (.long y2), .second, .val (.long y3), .second, .val (.long y4), .second, .val (.double z1), .second, .val (.double z2), .second, .val (.double z3), .second, .val (.ref b29), .val (.int (own_v0_168 zm)), .val (.int (1 : Int32)), .val (.int (0 : Int32))] [(.long y3), (.int (0 : Int32)), (.double z2), (.long y2), (.int (1 : Int32)), (.double z1), (.long y1), (.int (own_v0_168 zm)), (.long y4), (.double (own_f6 y4 fk2 gk2))]))
      refine own_go (fun _ => XS.dload X40.here hx rfl (hb hby at_364) rfl) ?_
      show own_Go p.tables e below _ (T40.setTop (mkF m 366 #[.val (.int p1), .val (.long q2), .second, .val (.long q3), .second, .val (.long q4), .second, .val (.long q5), .second, .val (.int p6), .val (.int (2 : Int32)), .val (.int zm), .val (.long y1), .second, .val (.long y2), .second, .val (.long y3), .second, .val (.long y4), .second, .val (.double z1), .second, .val (.double z2), .second, .val (.double z3), .second, .val (.ref b29), .val (.int (own_v0_168 zm)), .val (.int (1 : Int32)), .val (.int (0 : Int32))] [(.double z3), (.long y3), (.int (0 : Int32)), (.double z2), (.long y2), (.int (1 : Int32)), (.double z1), (.long y1), (.int (own_v0_168 zm)), (.long y4), (.double (own_f6 y4 fk2 gk2))]))
      obtain ⟨v41, T41, L41, X41, hQ41, st41⟩ := own_tidyS X40 (Jvm.LawKit.callS X40 hx (y := (⟨"com/example/outis/outis/clustering/KeptChargesGetPinLaw", "check", "(DJZJDZJDZJD)Z"⟩ : MethodName)) hown (mvT hZ (hw _ (List.mem_of_getElem? (i := 45) rfl))) (mvT hZ (hw _ (List.mem_of_getElem? (i := 46) rfl))) (mvT hZ (hw _ (List.mem_of_getElem? (i := 47) rfl))) (mvT hZ (hw _ (List.mem_of_getElem? (i := 48) rfl))) (by decide) (backOf (W := 0) (rm8 l Z a0 hw [] (own_f6 y4 fk2 gk2) y4 (own_v0_168 zm) y1 z1 (1 : Int32) y2 z2 (0 : Int32) y3 z3 T32.heap n0 (Nat.le_trans (Nat.le_trans (Nat.le_trans (Nat.le_trans Z0 E29.1) Kc30.1) Kc31.1) Kc32.1) ) hZ (hw _ (List.mem_of_getElem? (i := 48) rfl)) (hw _ (List.mem_of_getElem? (i := 47) rfl)) (by decide) (by decide)) (g := (mkF m 366 #[.val (.int p1), .val (.long q2), .second, .val (.long q3), .second, .val (.long q4), .second, .val (.long q5), .second, .val (.int p6), .val (.int (2 : Int32)), .val (.int zm), .val (.long y1), .second, .val (.long y2), .second, .val (.long y3), .second, .val (.long y4), .second, .val (.double z1), .second, .val (.double z2), .second, .val (.double z3), .second, .val (.ref b29), .val (.int (own_v0_168 zm)), .val (.int (1 : Int32)), .val (.int (0 : Int32))] [(.double z3), (.long y3), (.int (0 : Int32)), (.double z2), (.long y2), (.int (1 : Int32)), (.double z1), (.long y1), (.int (own_v0_168 zm)), (.long y4), (.double (own_f6 y4 fk2 gk2))])) rfl (by rw [hml]; rfl) (argsL := [(.double (own_f6 y4 fk2 gk2)), (.long y4), (.int (own_v0_168 zm)), (.long y1), (.double z1), (.int (1 : Int32)), (.long y2), (.double z2), (.int (0 : Int32)), (.long y3), (.double z3)]) (rest := []) (lenOf pd_6 rfl) rfl (by show 2 * 0 + _ ≤ _; exact Nat.le_of_eq rfl) (hb hby at_366) (fun _ _ => ⟨rfl, e40, (by decide : 3 + 0 ≤ _), (by decide : 37 + 0 ≤ _)⟩)) (c' := 3) (n' := 37) rfl rfl
      obtain ⟨rfl, N41q, e41⟩ := hQ41
      have N41 := Fr.app N40 N41q
      refine own_go st41 ?_
      show own_Go p.tables e below _ (T41.setTop (mkF m 369 #[.val (.int p1), .val (.long q2), .second, .val (.long q3), .second, .val (.long q4), .second, .val (.long q5), .second, .val (.int p6), .val (.int (2 : Int32)), .val (.int zm), .val (.long y1), .second, .val (.long y2), .second, .val (.long y3), .second, .val (.long y4), .second, .val (.double z1), .second, .val (.double z2), .second, .val (.double z3), .second, .val (.ref b29), .val (.int (own_v0_168 zm)), .val (.int (1 : Int32)), .val (.int (0 : Int32))] [(.int (own_f8 (own_f6 y4 fk2 gk2) y4 (own_v0_168 zm) y1 z1 (1 : Int32) y2 z2 (0 : Int32) y3 z3))]))
      refine own_go (fun _ => XS.ifNo X41.here hx rfl (hb hby at_369) rfl ((if0 _ _).trans (feq (own_ok2 hz4 J2 hy4 hz1 hz2 hz3)).1)) ?_
      show own_Go p.tables e below _ (T41.setTop (mkF m 372 #[.val (.int p1), .val (.long q2), .second, .val (.long q3), .second, .val (.long q4), .second, .val (.long q5), .second, .val (.int p6), .val (.int (2 : Int32)), .val (.int zm), .val (.long y1), .second, .val (.long y2), .second, .val (.long y3), .second, .val (.long y4), .second, .val (.double z1), .second, .val (.double z2), .second, .val (.double z3), .second, .val (.ref b29), .val (.int (own_v0_168 zm)), .val (.int (1 : Int32)), .val (.int (0 : Int32))] []))
      refine own_go (fun _ => XS.iconst X41.here hx rfl (hb hby at_372)) ?_
      show own_Go p.tables e below _ (T41.setTop (mkF m 373 #[.val (.int p1), .val (.long q2), .second, .val (.long q3), .second, .val (.long q4), .second, .val (.long q5), .second, .val (.int p6), .val (.int (2 : Int32)), .val (.int zm), .val (.long y1), .second, .val (.long y2), .second, .val (.long y3), .second, .val (.long y4), .second, .val (.double z1), .second, .val (.double z2), .second, .val (.double z3), .second, .val (.ref b29), .val (.int (own_v0_168 zm)), .val (.int (1 : Int32)), .val (.int (0 : Int32))] [(.int (1 : Int32))]))
      refine own_go (fun _ => XS.goto X41.here hx rfl (pc0 := 373) (pc' := 377) rfl (hb hby at_373) (by decide) (by decide)) ?_
      show own_Go p.tables e below _ (T41.setTop (mkF m 377 #[.val (.int p1), .val (.long q2), .second, .val (.long q3), .second, .val (.long q4), .second, .val (.long q5), .second, .val (.int p6), .val (.int (2 : Int32)), .val (.int zm), .val (.long y1), .second, .val (.long y2), .second, .val (.long y3), .second, .val (.long y4), .second, .val (.double z1), .second, .val (.double z2), .second, .val (.double z3), .second, .val (.ref b29), .val (.int (own_v0_168 zm)), .val (.int (1 : Int32)), .val (.int (0 : Int32))] [(.int (1 : Int32))]))
      refine own_retN X41 Bd.notSynchronized hx (t := .boolean) Bd.returns (by simp) (hb hby at_377) (show Q0 Z p1 q2 q3 q4 q5 p6 h0 n0 _ T41.heap _ from by rw [e41]; exact ⟨rfl, N41⟩) (by decide) (by decide)
  · skip
    show own_Go p.tables e below _ (s₁.setTop (mkF m 44 #[.val (.int p1), .val (.long q2), .second, .val (.long q3), .second, .val (.long q4), .second, .val (.long q5), .second, .val (.int p6), .val (.int (p1 &&& (3 : Int32))), .val (.int zm), .val (.long y1), .second, .val (.long y2), .second, .val (.long y3), .second, .val (.long y4), .second, .unset, .unset, .unset, .unset, .unset, .unset, .unset, .unset, .unset, .unset] []))
    rw [hn]
    show own_Go p.tables e below _ (s₁.setTop (mkF m 44 #[.val (.int p1), .val (.long q2), .second, .val (.long q3), .second, .val (.long q4), .second, .val (.long q5), .second, .val (.int p6), .val (.int (3 : Int32)), .val (.int zm), .val (.long y1), .second, .val (.long y2), .second, .val (.long y3), .second, .val (.long y4), .second, .unset, .unset, .unset, .unset, .unset, .unset, .unset, .unset, .unset, .unset] []))
    refine own_go (fun _ => XS.iload X0.here hx rfl (hb hby at_44) rfl) ?_
    show own_Go p.tables e below _ (s₁.setTop (mkF m 46 #[.val (.int p1), .val (.long q2), .second, .val (.long q3), .second, .val (.long q4), .second, .val (.long q5), .second, .val (.int p6), .val (.int (3 : Int32)), .val (.int zm), .val (.long y1), .second, .val (.long y2), .second, .val (.long y3), .second, .val (.long y4), .second, .unset, .unset, .unset, .unset, .unset, .unset, .unset, .unset, .unset, .unset] [(.int (3 : Int32))]))
    refine own_go (fun _ => XS.iconst X0.here hx rfl (hb hby at_46)) ?_
    show own_Go p.tables e below _ (s₁.setTop (mkF m 47 #[.val (.int p1), .val (.long q2), .second, .val (.long q3), .second, .val (.long q4), .second, .val (.long q5), .second, .val (.int p6), .val (.int (3 : Int32)), .val (.int zm), .val (.long y1), .second, .val (.long y2), .second, .val (.long y3), .second, .val (.long y4), .second, .unset, .unset, .unset, .unset, .unset, .unset, .unset, .unset, .unset, .unset] [(.int (2 : Int32)), (.int (3 : Int32))]))
    refine own_go (fun _ => XS.icmpNo X0.here hx rfl (hb hby at_47) rfl (flt (by decide : ¬ ((3 : Int32) < (2 : Int32)))).1) ?_
    show own_Go p.tables e below _ (s₁.setTop (mkF m 50 #[.val (.int p1), .val (.long q2), .second, .val (.long q3), .second, .val (.long q4), .second, .val (.long q5), .second, .val (.int p6), .val (.int (3 : Int32)), .val (.int zm), .val (.long y1), .second, .val (.long y2), .second, .val (.long y3), .second, .val (.long y4), .second, .unset, .unset, .unset, .unset, .unset, .unset, .unset, .unset, .unset, .unset] []))
    refine own_go (fun _ => XS.lload X0.here hx rfl (hb hby at_50) rfl) ?_
    show own_Go p.tables e below _ (s₁.setTop (mkF m 52 #[.val (.int p1), .val (.long q2), .second, .val (.long q3), .second, .val (.long q4), .second, .val (.long q5), .second, .val (.int p6), .val (.int (3 : Int32)), .val (.int zm), .val (.long y1), .second, .val (.long y2), .second, .val (.long y3), .second, .val (.long y4), .second, .unset, .unset, .unset, .unset, .unset, .unset, .unset, .unset, .unset, .unset] [(.long y1)]))
    refine own_go (fun _ => XS.lload X0.here hx rfl (hb hby at_52) rfl) ?_
    show own_Go p.tables e below _ (s₁.setTop (mkF m 54 #[.val (.int p1), .val (.long q2), .second, .val (.long q3), .second, .val (.long q4), .second, .val (.long q5), .second, .val (.int p6), .val (.int (3 : Int32)), .val (.int zm), .val (.long y1), .second, .val (.long y2), .second, .val (.long y3), .second, .val (.long y4), .second, .unset, .unset, .unset, .unset, .unset, .unset, .unset, .unset, .unset, .unset] [(.long y2), (.long y1)]))
    refine own_go (fun _ => XS.lcmp X0.here hx rfl (hb hby at_54) rfl) ?_
    show own_Go p.tables e below _ (s₁.setTop (mkF m 55 #[.val (.int p1), .val (.long q2), .second, .val (.long q3), .second, .val (.long q4), .second, .val (.long q5), .second, .val (.int p6), .val (.int (3 : Int32)), .val (.int zm), .val (.long y1), .second, .val (.long y2), .second, .val (.long y3), .second, .val (.long y4), .second, .unset, .unset, .unset, .unset, .unset, .unset, .unset, .unset, .unset, .unset] [(.int (lcmpW y1 y2))]))
    by_cases hc42_55 : (lcmpW y1 y2) = (0 : Int32)
    · skip
      refine own_go (fun _ => XS.ifNo X0.here hx rfl (hb hby at_55) rfl ((if0 _ _).trans (teq hc42_55).2)) ?_
      show own_Go p.tables e below _ (s₁.setTop (mkF m 58 #[.val (.int p1), .val (.long q2), .second, .val (.long q3), .second, .val (.long q4), .second, .val (.long q5), .second, .val (.int p6), .val (.int (3 : Int32)), .val (.int zm), .val (.long y1), .second, .val (.long y2), .second, .val (.long y3), .second, .val (.long y4), .second, .unset, .unset, .unset, .unset, .unset, .unset, .unset, .unset, .unset, .unset] []))
      refine own_go (fun _ => XS.iconst X0.here hx rfl (hb hby at_58)) ?_
      show own_Go p.tables e below _ (s₁.setTop (mkF m 59 #[.val (.int p1), .val (.long q2), .second, .val (.long q3), .second, .val (.long q4), .second, .val (.long q5), .second, .val (.int p6), .val (.int (3 : Int32)), .val (.int zm), .val (.long y1), .second, .val (.long y2), .second, .val (.long y3), .second, .val (.long y4), .second, .unset, .unset, .unset, .unset, .unset, .unset, .unset, .unset, .unset, .unset] [(.int (1 : Int32))]))
      refine own_retN X0 Bd.notSynchronized hx (t := .boolean) Bd.returns (by simp) (hb hby at_59) (show Q0 Z p1 q2 q3 q4 q5 p6 h0 n0 _ s₁.heap _ from by rw [e0]; exact ⟨rfl, N0⟩) (by decide) (by decide)
    · skip
      refine own_go (fun _ => XS.ifYes X0.here hx rfl (pc0 := 55) (pc' := 60) rfl (hb hby at_55) rfl ((if0 _ _).trans (feq hc42_55).2) (by decide) (by decide)) ?_
      show own_Go p.tables e below _ (s₁.setTop (mkF m 60 #[.val (.int p1), .val (.long q2), .second, .val (.long q3), .second, .val (.long q4), .second, .val (.long q5), .second, .val (.int p6), .val (.int (3 : Int32)), .val (.int zm), .val (.long y1), .second, .val (.long y2), .second, .val (.long y3), .second, .val (.long y4), .second, .unset, .unset, .unset, .unset, .unset, .unset, .unset, .unset, .unset, .unset] []))
      refine own_go (fun _ => XS.iload X0.here hx rfl (hb hby at_60) rfl) ?_
      show own_Go p.tables e below _ (s₁.setTop (mkF m 62 #[.val (.int p1), .val (.long q2), .second, .val (.long q3), .second, .val (.long q4), .second, .val (.long q5), .second, .val (.int p6), .val (.int (3 : Int32)), .val (.int zm), .val (.long y1), .second, .val (.long y2), .second, .val (.long y3), .second, .val (.long y4), .second, .unset, .unset, .unset, .unset, .unset, .unset, .unset, .unset, .unset, .unset] [(.int (3 : Int32))]))
      refine own_go (fun _ => XS.iconst X0.here hx rfl (hb hby at_62)) ?_
      show own_Go p.tables e below _ (s₁.setTop (mkF m 63 #[.val (.int p1), .val (.long q2), .second, .val (.long q3), .second, .val (.long q4), .second, .val (.long q5), .second, .val (.int p6), .val (.int (3 : Int32)), .val (.int zm), .val (.long y1), .second, .val (.long y2), .second, .val (.long y3), .second, .val (.long y4), .second, .unset, .unset, .unset, .unset, .unset, .unset, .unset, .unset, .unset, .unset] [(.int (3 : Int32)), (.int (3 : Int32))]))
      refine own_go (fun _ => XS.icmpNo X0.here hx rfl (hb hby at_63) rfl (teq (by decide : (3 : Int32) = (3 : Int32))).2) ?_
      show own_Go p.tables e below _ (s₁.setTop (mkF m 66 #[.val (.int p1), .val (.long q2), .second, .val (.long q3), .second, .val (.long q4), .second, .val (.long q5), .second, .val (.int p6), .val (.int (3 : Int32)), .val (.int zm), .val (.long y1), .second, .val (.long y2), .second, .val (.long y3), .second, .val (.long y4), .second, .unset, .unset, .unset, .unset, .unset, .unset, .unset, .unset, .unset, .unset] []))
      refine own_go (fun _ => XS.lload X0.here hx rfl (hb hby at_66) rfl) ?_
      show own_Go p.tables e below _ (s₁.setTop (mkF m 68 #[.val (.int p1), .val (.long q2), .second, .val (.long q3), .second, .val (.long q4), .second, .val (.long q5), .second, .val (.int p6), .val (.int (3 : Int32)), .val (.int zm), .val (.long y1), .second, .val (.long y2), .second, .val (.long y3), .second, .val (.long y4), .second, .unset, .unset, .unset, .unset, .unset, .unset, .unset, .unset, .unset, .unset] [(.long y3)]))
      refine own_go (fun _ => XS.lload X0.here hx rfl (hb hby at_68) rfl) ?_
      show own_Go p.tables e below _ (s₁.setTop (mkF m 70 #[.val (.int p1), .val (.long q2), .second, .val (.long q3), .second, .val (.long q4), .second, .val (.long q5), .second, .val (.int p6), .val (.int (3 : Int32)), .val (.int zm), .val (.long y1), .second, .val (.long y2), .second, .val (.long y3), .second, .val (.long y4), .second, .unset, .unset, .unset, .unset, .unset, .unset, .unset, .unset, .unset, .unset] [(.long y2), (.long y3)]))
      refine own_go (fun _ => XS.lcmp X0.here hx rfl (hb hby at_70) rfl) ?_
      show own_Go p.tables e below _ (s₁.setTop (mkF m 71 #[.val (.int p1), .val (.long q2), .second, .val (.long q3), .second, .val (.long q4), .second, .val (.long q5), .second, .val (.int p6), .val (.int (3 : Int32)), .val (.int zm), .val (.long y1), .second, .val (.long y2), .second, .val (.long y3), .second, .val (.long y4), .second, .unset, .unset, .unset, .unset, .unset, .unset, .unset, .unset, .unset, .unset] [(.int (lcmpW y3 y2))]))
      by_cases hc43_71 : (lcmpW y3 y2) = (0 : Int32)
      · skip
        refine own_go (fun _ => XS.ifYes X0.here hx rfl (pc0 := 71) (pc' := 88) rfl (hb hby at_71) rfl ((if0 _ _).trans (teq hc43_71).1) (by decide) (by decide)) ?_
        show own_Go p.tables e below _ (s₁.setTop (mkF m 88 #[.val (.int p1), .val (.long q2), .second, .val (.long q3), .second, .val (.long q4), .second, .val (.long q5), .second, .val (.int p6), .val (.int (3 : Int32)), .val (.int zm), .val (.long y1), .second, .val (.long y2), .second, .val (.long y3), .second, .val (.long y4), .second, .unset, .unset, .unset, .unset, .unset, .unset, .unset, .unset, .unset, .unset] []))
        refine own_go (fun _ => XS.iconst X0.here hx rfl (hb hby at_88)) ?_
        show own_Go p.tables e below _ (s₁.setTop (mkF m 89 #[.val (.int p1), .val (.long q2), .second, .val (.long q3), .second, .val (.long q4), .second, .val (.long q5), .second, .val (.int p6), .val (.int (3 : Int32)), .val (.int zm), .val (.long y1), .second, .val (.long y2), .second, .val (.long y3), .second, .val (.long y4), .second, .unset, .unset, .unset, .unset, .unset, .unset, .unset, .unset, .unset, .unset] [(.int (1 : Int32))]))
        refine own_retN X0 Bd.notSynchronized hx (t := .boolean) Bd.returns (by simp) (hb hby at_89) (show Q0 Z p1 q2 q3 q4 q5 p6 h0 n0 _ s₁.heap _ from by rw [e0]; exact ⟨rfl, N0⟩) (by decide) (by decide)
      · skip
        refine own_go (fun _ => XS.ifNo X0.here hx rfl (hb hby at_71) rfl ((if0 _ _).trans (feq hc43_71).1)) ?_
        show own_Go p.tables e below _ (s₁.setTop (mkF m 74 #[.val (.int p1), .val (.long q2), .second, .val (.long q3), .second, .val (.long q4), .second, .val (.long q5), .second, .val (.int p6), .val (.int (3 : Int32)), .val (.int zm), .val (.long y1), .second, .val (.long y2), .second, .val (.long y3), .second, .val (.long y4), .second, .unset, .unset, .unset, .unset, .unset, .unset, .unset, .unset, .unset, .unset] []))
        by_cases hd : zm < 2 ∨ ¬ y3 = y1
        · skip
          refine own_go (S' := s₁.setTop (mkF m 90 #[.val (.int p1), .val (.long q2), .second, .val (.long q3), .second, .val (.long q4), .second, .val (.long q5), .second, .val (.int p6), .val (.int (3 : Int32)), .val (.int zm), .val (.long y1), .second, .val (.long y2), .second, .val (.long y3), .second, .val (.long y4), .second, .unset, .unset, .unset, .unset, .unset, .unset, .unset, .unset, .unset, .unset] [])) (fun t kt => ?_) ?_
          · skip
            show Steps p.tables e below (s₁.setTop (mkF m 74 #[.val (.int p1), .val (.long q2), .second, .val (.long q3), .second, .val (.long q4), .second, .val (.long q5), .second, .val (.int p6), .val (.int (3 : Int32)), .val (.int zm), .val (.long y1), .second, .val (.long y2), .second, .val (.long y3), .second, .val (.long y4), .second, .unset, .unset, .unset, .unset, .unset, .unset, .unset, .unset, .unset, .unset] [])) _
            refine XS.iload X0.here hx rfl (hb hby at_74) rfl ?_
            show Steps p.tables e below (s₁.setTop (mkF m 76 #[.val (.int p1), .val (.long q2), .second, .val (.long q3), .second, .val (.long q4), .second, .val (.long q5), .second, .val (.int p6), .val (.int (3 : Int32)), .val (.int zm), .val (.long y1), .second, .val (.long y2), .second, .val (.long y3), .second, .val (.long y4), .second, .unset, .unset, .unset, .unset, .unset, .unset, .unset, .unset, .unset, .unset] [(.int zm)])) _
            refine XS.iconst X0.here hx rfl (hb hby at_76) ?_
            show Steps p.tables e below (s₁.setTop (mkF m 77 #[.val (.int p1), .val (.long q2), .second, .val (.long q3), .second, .val (.long q4), .second, .val (.long q5), .second, .val (.int p6), .val (.int (3 : Int32)), .val (.int zm), .val (.long y1), .second, .val (.long y2), .second, .val (.long y3), .second, .val (.long y4), .second, .unset, .unset, .unset, .unset, .unset, .unset, .unset, .unset, .unset, .unset] [(.int (2 : Int32)), (.int zm)])) _
            by_cases hc44_77 : zm < (2 : Int32)
            · skip
              refine XS.icmpYes X0.here hx rfl (pc0 := 77) (pc' := 90) rfl (hb hby at_77) rfl (tlt hc44_77).1 (by decide) (by decide) ?_
              show Steps p.tables e below (s₁.setTop (mkF m 90 #[.val (.int p1), .val (.long q2), .second, .val (.long q3), .second, .val (.long q4), .second, .val (.long q5), .second, .val (.int p6), .val (.int (3 : Int32)), .val (.int zm), .val (.long y1), .second, .val (.long y2), .second, .val (.long y3), .second, .val (.long y4), .second, .unset, .unset, .unset, .unset, .unset, .unset, .unset, .unset, .unset, .unset] [])) _
              exact kt
            · skip
              refine XS.icmpNo X0.here hx rfl (hb hby at_77) rfl (flt hc44_77).1 ?_
              show Steps p.tables e below (s₁.setTop (mkF m 80 #[.val (.int p1), .val (.long q2), .second, .val (.long q3), .second, .val (.long q4), .second, .val (.long q5), .second, .val (.int p6), .val (.int (3 : Int32)), .val (.int zm), .val (.long y1), .second, .val (.long y2), .second, .val (.long y3), .second, .val (.long y4), .second, .unset, .unset, .unset, .unset, .unset, .unset, .unset, .unset, .unset, .unset] [])) _
              refine XS.lload X0.here hx rfl (hb hby at_80) rfl ?_
              show Steps p.tables e below (s₁.setTop (mkF m 82 #[.val (.int p1), .val (.long q2), .second, .val (.long q3), .second, .val (.long q4), .second, .val (.long q5), .second, .val (.int p6), .val (.int (3 : Int32)), .val (.int zm), .val (.long y1), .second, .val (.long y2), .second, .val (.long y3), .second, .val (.long y4), .second, .unset, .unset, .unset, .unset, .unset, .unset, .unset, .unset, .unset, .unset] [(.long y3)])) _
              refine XS.lload X0.here hx rfl (hb hby at_82) rfl ?_
              show Steps p.tables e below (s₁.setTop (mkF m 84 #[.val (.int p1), .val (.long q2), .second, .val (.long q3), .second, .val (.long q4), .second, .val (.long q5), .second, .val (.int p6), .val (.int (3 : Int32)), .val (.int zm), .val (.long y1), .second, .val (.long y2), .second, .val (.long y3), .second, .val (.long y4), .second, .unset, .unset, .unset, .unset, .unset, .unset, .unset, .unset, .unset, .unset] [(.long y1), (.long y3)])) _
              refine XS.lcmp X0.here hx rfl (hb hby at_84) rfl ?_
              show Steps p.tables e below (s₁.setTop (mkF m 85 #[.val (.int p1), .val (.long q2), .second, .val (.long q3), .second, .val (.long q4), .second, .val (.long q5), .second, .val (.int p6), .val (.int (3 : Int32)), .val (.int zm), .val (.long y1), .second, .val (.long y2), .second, .val (.long y3), .second, .val (.long y4), .second, .unset, .unset, .unset, .unset, .unset, .unset, .unset, .unset, .unset, .unset] [(.int (lcmpW y3 y1))])) _
              refine XS.ifYes X0.here hx rfl (pc0 := 85) (pc' := 90) rfl (hb hby at_85) rfl ((if0 _ _).trans (feq (fun h => (hd.resolve_left hc44_77) ((lw_eq _ _).mp h))).2) (by decide) (by decide) ?_
              show Steps p.tables e below (s₁.setTop (mkF m 90 #[.val (.int p1), .val (.long q2), .second, .val (.long q3), .second, .val (.long q4), .second, .val (.long q5), .second, .val (.int p6), .val (.int (3 : Int32)), .val (.int zm), .val (.long y1), .second, .val (.long y2), .second, .val (.long y3), .second, .val (.long y4), .second, .unset, .unset, .unset, .unset, .unset, .unset, .unset, .unset, .unset, .unset] [])) _
              exact kt
          show own_Go p.tables e below _ (s₁.setTop (mkF m 90 #[.val (.int p1), .val (.long q2), .second, .val (.long q3), .second, .val (.long q4), .second, .val (.long q5), .second, .val (.int p6), .val (.int (3 : Int32)), .val (.int zm), .val (.long y1), .second, .val (.long y2), .second, .val (.long y3), .second, .val (.long y4), .second, .unset, .unset, .unset, .unset, .unset, .unset, .unset, .unset, .unset, .unset] []))
          refine own_go (fun _ => XS.iload X0.here hx rfl (hb hby at_90) rfl) ?_
          show own_Go p.tables e below _ (s₁.setTop (mkF m 92 #[.val (.int p1), .val (.long q2), .second, .val (.long q3), .second, .val (.long q4), .second, .val (.long q5), .second, .val (.int p6), .val (.int (3 : Int32)), .val (.int zm), .val (.long y1), .second, .val (.long y2), .second, .val (.long y3), .second, .val (.long y4), .second, .unset, .unset, .unset, .unset, .unset, .unset, .unset, .unset, .unset, .unset] [(.int p6)]))
          refine own_go (fun _ => XS.i2dS X0.here hx rfl (hb hby at_92) rfl rfl) ?_
          show own_Go p.tables e below _ (s₁.setTop (mkF m 93 #[.val (.int p1), .val (.long q2), .second, .val (.long q3), .second, .val (.long q4), .second, .val (.long q5), .second, .val (.int p6), .val (.int (3 : Int32)), .val (.int zm), .val (.long y1), .second, .val (.long y2), .second, .val (.long y3), .second, .val (.long y4), .second, .unset, .unset, .unset, .unset, .unset, .unset, .unset, .unset, .unset, .unset] [(.double (FP.i2d p6))]))
          refine own_go (fun _ => XS.dstore X0.here hx rfl (hb hby at_93) rfl (l' := #[.val (.int p1), .val (.long q2), .second, .val (.long q3), .second, .val (.long q4), .second, .val (.long q5), .second, .val (.int p6), .val (.int (3 : Int32)), .val (.int zm), .val (.long y1), .second, .val (.long y2), .second, .val (.long y3), .second, .val (.long y4), .second, .val (.double (FP.i2d p6)), .second, .unset, .unset, .unset, .unset, .unset, .unset, .unset, .unset]) rfl) ?_
          show own_Go p.tables e below _ (s₁.setTop (mkF m 95 #[.val (.int p1), .val (.long q2), .second, .val (.long q3), .second, .val (.long q4), .second, .val (.long q5), .second, .val (.int p6), .val (.int (3 : Int32)), .val (.int zm), .val (.long y1), .second, .val (.long y2), .second, .val (.long y3), .second, .val (.long y4), .second, .val (.double (FP.i2d p6)), .second, .unset, .unset, .unset, .unset, .unset, .unset, .unset, .unset] []))
          refine own_go (fun _ => XS.iload X0.here hx rfl (hb hby at_95) rfl) ?_
          show own_Go p.tables e below _ (s₁.setTop (mkF m 97 #[.val (.int p1), .val (.long q2), .second, .val (.long q3), .second, .val (.long q4), .second, .val (.long q5), .second, .val (.int p6), .val (.int (3 : Int32)), .val (.int zm), .val (.long y1), .second, .val (.long y2), .second, .val (.long y3), .second, .val (.long y4), .second, .val (.double (FP.i2d p6)), .second, .unset, .unset, .unset, .unset, .unset, .unset, .unset, .unset] [(.int p6)]))
          refine own_go (fun _ => XS.iconst X0.here hx rfl (hb hby at_97)) ?_
          show own_Go p.tables e below _ (s₁.setTop (mkF m 98 #[.val (.int p1), .val (.long q2), .second, .val (.long q3), .second, .val (.long q4), .second, .val (.long q5), .second, .val (.int p6), .val (.int (3 : Int32)), .val (.int zm), .val (.long y1), .second, .val (.long y2), .second, .val (.long y3), .second, .val (.long y4), .second, .val (.double (FP.i2d p6)), .second, .unset, .unset, .unset, .unset, .unset, .unset, .unset, .unset] [(.int (1 : Int32)), (.int p6)]))
          refine own_go (fun _ => XS.iadd X0.here hx rfl (hb hby at_98) rfl) ?_
          show own_Go p.tables e below _ (s₁.setTop (mkF m 99 #[.val (.int p1), .val (.long q2), .second, .val (.long q3), .second, .val (.long q4), .second, .val (.long q5), .second, .val (.int p6), .val (.int (3 : Int32)), .val (.int zm), .val (.long y1), .second, .val (.long y2), .second, .val (.long y3), .second, .val (.long y4), .second, .val (.double (FP.i2d p6)), .second, .unset, .unset, .unset, .unset, .unset, .unset, .unset, .unset] [(.int (p6 + (1 : Int32)))]))
          refine own_go (fun _ => XS.i2dS X0.here hx rfl (hb hby at_99) rfl rfl) ?_
          show own_Go p.tables e below _ (s₁.setTop (mkF m 100 #[.val (.int p1), .val (.long q2), .second, .val (.long q3), .second, .val (.long q4), .second, .val (.long q5), .second, .val (.int p6), .val (.int (3 : Int32)), .val (.int zm), .val (.long y1), .second, .val (.long y2), .second, .val (.long y3), .second, .val (.long y4), .second, .val (.double (FP.i2d p6)), .second, .unset, .unset, .unset, .unset, .unset, .unset, .unset, .unset] [(.double (FP.i2d (p6 + (1 : Int32))))]))
          refine own_go (fun _ => XS.dstore X0.here hx rfl (hb hby at_100) rfl (l' := #[.val (.int p1), .val (.long q2), .second, .val (.long q3), .second, .val (.long q4), .second, .val (.long q5), .second, .val (.int p6), .val (.int (3 : Int32)), .val (.int zm), .val (.long y1), .second, .val (.long y2), .second, .val (.long y3), .second, .val (.long y4), .second, .val (.double (FP.i2d p6)), .second, .val (.double (FP.i2d (p6 + (1 : Int32)))), .second, .unset, .unset, .unset, .unset, .unset, .unset]) rfl) ?_
          show own_Go p.tables e below _ (s₁.setTop (mkF m 102 #[.val (.int p1), .val (.long q2), .second, .val (.long q3), .second, .val (.long q4), .second, .val (.long q5), .second, .val (.int p6), .val (.int (3 : Int32)), .val (.int zm), .val (.long y1), .second, .val (.long y2), .second, .val (.long y3), .second, .val (.long y4), .second, .val (.double (FP.i2d p6)), .second, .val (.double (FP.i2d (p6 + (1 : Int32)))), .second, .unset, .unset, .unset, .unset, .unset, .unset] []))
          refine own_go (fun _ => XS.iload X0.here hx rfl (hb hby at_102) rfl) ?_
          show own_Go p.tables e below _ (s₁.setTop (mkF m 104 #[.val (.int p1), .val (.long q2), .second, .val (.long q3), .second, .val (.long q4), .second, .val (.long q5), .second, .val (.int p6), .val (.int (3 : Int32)), .val (.int zm), .val (.long y1), .second, .val (.long y2), .second, .val (.long y3), .second, .val (.long y4), .second, .val (.double (FP.i2d p6)), .second, .val (.double (FP.i2d (p6 + (1 : Int32)))), .second, .unset, .unset, .unset, .unset, .unset, .unset] [(.int p6)]))
          refine own_go (fun _ => XS.iconst X0.here hx rfl (hb hby at_104)) ?_
          show own_Go p.tables e below _ (s₁.setTop (mkF m 105 #[.val (.int p1), .val (.long q2), .second, .val (.long q3), .second, .val (.long q4), .second, .val (.long q5), .second, .val (.int p6), .val (.int (3 : Int32)), .val (.int zm), .val (.long y1), .second, .val (.long y2), .second, .val (.long y3), .second, .val (.long y4), .second, .val (.double (FP.i2d p6)), .second, .val (.double (FP.i2d (p6 + (1 : Int32)))), .second, .unset, .unset, .unset, .unset, .unset, .unset] [(.int (2 : Int32)), (.int p6)]))
          refine own_go (fun _ => XS.iadd X0.here hx rfl (hb hby at_105) rfl) ?_
          show own_Go p.tables e below _ (s₁.setTop (mkF m 106 #[.val (.int p1), .val (.long q2), .second, .val (.long q3), .second, .val (.long q4), .second, .val (.long q5), .second, .val (.int p6), .val (.int (3 : Int32)), .val (.int zm), .val (.long y1), .second, .val (.long y2), .second, .val (.long y3), .second, .val (.long y4), .second, .val (.double (FP.i2d p6)), .second, .val (.double (FP.i2d (p6 + (1 : Int32)))), .second, .unset, .unset, .unset, .unset, .unset, .unset] [(.int (p6 + (2 : Int32)))]))
          refine own_go (fun _ => XS.i2dS X0.here hx rfl (hb hby at_106) rfl rfl) ?_
          show own_Go p.tables e below _ (s₁.setTop (mkF m 107 #[.val (.int p1), .val (.long q2), .second, .val (.long q3), .second, .val (.long q4), .second, .val (.long q5), .second, .val (.int p6), .val (.int (3 : Int32)), .val (.int zm), .val (.long y1), .second, .val (.long y2), .second, .val (.long y3), .second, .val (.long y4), .second, .val (.double (FP.i2d p6)), .second, .val (.double (FP.i2d (p6 + (1 : Int32)))), .second, .unset, .unset, .unset, .unset, .unset, .unset] [(.double (FP.i2d (p6 + (2 : Int32))))]))
          refine own_go (fun _ => XS.dstore X0.here hx rfl (hb hby at_107) rfl (l' := #[.val (.int p1), .val (.long q2), .second, .val (.long q3), .second, .val (.long q4), .second, .val (.long q5), .second, .val (.int p6), .val (.int (3 : Int32)), .val (.int zm), .val (.long y1), .second, .val (.long y2), .second, .val (.long y3), .second, .val (.long y4), .second, .val (.double (FP.i2d p6)), .second, .val (.double (FP.i2d (p6 + (1 : Int32)))), .second, .val (.double (FP.i2d (p6 + (2 : Int32)))), .second, .unset, .unset, .unset, .unset]) rfl) ?_
          show own_Go p.tables e below _ (s₁.setTop (mkF m 109 #[.val (.int p1), .val (.long q2), .second, .val (.long q3), .second, .val (.long q4), .second, .val (.long q5), .second, .val (.int p6), .val (.int (3 : Int32)), .val (.int zm), .val (.long y1), .second, .val (.long y2), .second, .val (.long y3), .second, .val (.long y4), .second, .val (.double (FP.i2d p6)), .second, .val (.double (FP.i2d (p6 + (1 : Int32)))), .second, .val (.double (FP.i2d (p6 + (2 : Int32)))), .second, .unset, .unset, .unset, .unset] []))
          obtain ⟨z1, ez1⟩ : ∃ z, z = (FP.i2d p6) := ⟨_, rfl⟩
          have hz1 : cmpValue (FP.dcmp z1 z1) .l = 0 := ez1.symm ▸ own_i2dS _
          rw [← ez1]
          obtain ⟨z2, ez2⟩ : ∃ z, z = (FP.i2d (p6 + (1 : Int32))) := ⟨_, rfl⟩
          have hz2 : cmpValue (FP.dcmp z2 z2) .l = 0 := ez2.symm ▸ own_i2dS _
          rw [← ez2]
          obtain ⟨z3, ez3⟩ : ∃ z, z = (FP.i2d (p6 + (2 : Int32))) := ⟨_, rfl⟩
          have hz3 : cmpValue (FP.dcmp z3 z3) .l = 0 := ez3.symm ▸ own_i2dS _
          rw [← ez3]
          show own_Go p.tables e below _ (s₁.setTop (mkF m 109 #[.val (.int p1), .val (.long q2), .second, .val (.long q3), .second, .val (.long q4), .second, .val (.long q5), .second, .val (.int p6), .val (.int (3 : Int32)), .val (.int zm), .val (.long y1), .second, .val (.long y2), .second, .val (.long y3), .second, .val (.long y4), .second, .val (.double z1), .second, .val (.double z2), .second, .val (.double z3), .second, .unset, .unset, .unset, .unset] []))
          obtain ⟨T45, h45, X45, e45, E45, A45, D45, -, st45⟩ := newO X0 hx hZ hown (hw _ (List.mem_of_getElem? (i := 1) rfl)) (hw _ (List.mem_of_getElem? (i := 2) rfl)) (hw _ (List.mem_of_getElem? (i := 3) rfl)) e0 (g := (mkF m 109 #[.val (.int p1), .val (.long q2), .second, .val (.long q3), .second, .val (.long q4), .second, .val (.long q5), .second, .val (.int p6), .val (.int (3 : Int32)), .val (.int zm), .val (.long y1), .second, .val (.long y2), .second, .val (.long y3), .second, .val (.long y4), .second, .val (.double z1), .second, .val (.double z2), .second, .val (.double z3), .second, .unset, .unset, .unset, .unset] [])) rfl (hb hby at_109) (by decide) (by decide)
          obtain ⟨b45, g45⟩ : ∃ z, z = h0.size := ⟨_, rfl⟩
          rw [← g45] at A45 D45 st45
          refine own_go st45 ?_
          have g_b45 : n0 ≤ b45 := Nat.le_trans Z0 (Nat.le_of_eq g45.symm)
          have sz_b45 : h0.size ≤ b45 := (Nat.le_trans (Keep.refl h0 []).1 (Nat.le_of_eq g45.symm))
          have K45 : Keep h0 h45 [] := (Keep.refl h0 []).ext E45
          have F_most_b45 : Fld Z h45 b45 "com/example/outis/outis/clustering/KeptCharges" "most" "I" (.int (0 : Int32)) := D45 (Or.inr (hw _ (List.mem_of_getElem? (i := 11) rfl))) (ty := .int) (by decide)
          have F_keys_b45 : Fld Z h45 b45 "com/example/outis/outis/clustering/KeptCharges" "keys" "[J" .null := D45 (Or.inl (hw _ (List.mem_of_getElem? (i := 18) rfl))) (ty := (.array .long)) (by decide)
          have F_charges_b45 : Fld Z h45 b45 "com/example/outis/outis/clustering/KeptCharges" "charges" "[D" .null := D45 (Or.inl (hw _ (List.mem_of_getElem? (i := 26) rfl))) (ty := (.array .double)) (by decide)
          have F_bits_b45 : Fld Z h45 b45 "com/example/outis/outis/clustering/KeptCharges" "bits" "I" (.int (0 : Int32)) := D45 (Or.inl (hw _ (List.mem_of_getElem? (i := 33) rfl))) (ty := .int) (by decide)
          have F_size_b45 : Fld Z h45 b45 "com/example/outis/outis/clustering/KeptCharges" "size" "I" (.int (0 : Int32)) := D45 (Or.inl (hw _ (List.mem_of_getElem? (i := 55) rfl))) (ty := .int) (by decide)
          show own_Go p.tables e below _ (T45.setTop (mkF m 112 #[.val (.int p1), .val (.long q2), .second, .val (.long q3), .second, .val (.long q4), .second, .val (.long q5), .second, .val (.int p6), .val (.int (3 : Int32)), .val (.int zm), .val (.long y1), .second, .val (.long y2), .second, .val (.long y3), .second, .val (.long y4), .second, .val (.double z1), .second, .val (.double z2), .second, .val (.double z3), .second, .unset, .unset, .unset, .unset] [(.ref b45)]))
          refine own_go (fun _ => XS.dup X45.here hx rfl (hb hby at_112) rfl rfl) ?_
          show own_Go p.tables e below _ (T45.setTop (mkF m 113 #[.val (.int p1), .val (.long q2), .second, .val (.long q3), .second, .val (.long q4), .second, .val (.long q5), .second, .val (.int p6), .val (.int (3 : Int32)), .val (.int zm), .val (.long y1), .second, .val (.long y2), .second, .val (.long y3), .second, .val (.long y4), .second, .val (.double z1), .second, .val (.double z2), .second, .val (.double z3), .second, .unset, .unset, .unset, .unset] [(.ref b45), (.ref b45)]))
          refine own_go (fun _ => XS.iload X45.here hx rfl (hb hby at_113) rfl) ?_
          show own_Go p.tables e below _ (T45.setTop (mkF m 115 #[.val (.int p1), .val (.long q2), .second, .val (.long q3), .second, .val (.long q4), .second, .val (.long q5), .second, .val (.int p6), .val (.int (3 : Int32)), .val (.int zm), .val (.long y1), .second, .val (.long y2), .second, .val (.long y3), .second, .val (.long y4), .second, .val (.double z1), .second, .val (.double z2), .second, .val (.double z3), .second, .unset, .unset, .unset, .unset] [(.int zm), (.ref b45), (.ref b45)]))
          obtain ⟨v46, T46, L46, X46, hQ46, st46⟩ := own_tidyV X45 (X45.specialBack hx (y := (⟨"com/example/outis/outis/clustering/KeptCharges", "<init>", "(I)V"⟩ : MethodName)) rfl hown (mvT hZ (hw _ (List.mem_of_getElem? (i := 4) rfl))) (mvT hZ (hw _ (List.mem_of_getElem? (i := 5) rfl))) (mvT hZ (hw _ (List.mem_of_getElem? (i := 6) rfl))) (by decide) (backOf (W := 1) (rm1 l Z a0 hw [] b45 zm (.int (0 : Int32)) (.int (0 : Int32)) .null .null (.int (0 : Int32)) h45 n0 (Nat.le_trans Z0 E45.1) F_size_b45 A45 F_most_b45 g_b45 F_keys_b45 F_charges_b45 F_bits_b45) hZ (hw _ (List.mem_of_getElem? (i := 6) rfl)) (hw _ (List.mem_of_getElem? (i := 3) rfl)) (by decide) (by decide)) (g := (mkF m 115 #[.val (.int p1), .val (.long q2), .second, .val (.long q3), .second, .val (.long q4), .second, .val (.long q5), .second, .val (.int p6), .val (.int (3 : Int32)), .val (.int zm), .val (.long y1), .second, .val (.long y2), .second, .val (.long y3), .second, .val (.long y4), .second, .val (.double z1), .second, .val (.double z2), .second, .val (.double z3), .second, .unset, .unset, .unset, .unset] [(.int zm), (.ref b45), (.ref b45)])) rfl (by rw [hml]; rfl) (Steps.refl _) (a := b45) (argsL := [(.int zm)]) (rest := [(.ref b45)]) (lenOf pd_0 rfl) rfl (by show 2 * 0 + _ ≤ _; exact Nat.le_of_eq rfl) (hb hby at_115) (fun _ _ => ⟨rfl, e45, (by decide : 1 + 2 ≤ _), (by decide : 5 + 32 ≤ _)⟩)) (c' := 3) (n' := 37) rfl rfl
          obtain ⟨rfl, N46q, Kc46, e46_0, e46_1, kc46_0, kc46_1, g_e46_0, se_e46_0, g_e46_1, se_e46_1, ne46_0_1, F46_0, F46_1, F46_2, F46_3, F46_4, F46_5, F46_6, F46_7, F46_8⟩ := hQ46
          have N46 := Fr.app N0 N46q
          refine own_via st46 ?_
          have K46 : Keep h0 T46.heap [] := K45.trans Kc46 (allS (Or.inr sz_b45) all0)
          have sz_e46_0 : h0.size ≤ e46_0 := Nat.le_trans K45.1 se_e46_0
          have sz_e46_1 : h0.size ≤ e46_1 := Nat.le_trans K45.1 se_e46_1
          show own_Go p.tables e below _ (T46.setTop (mkF m 118 #[.val (.int p1), .val (.long q2), .second, .val (.long q3), .second, .val (.long q4), .second, .val (.long q5), .second, .val (.int p6), .val (.int (3 : Int32)), .val (.int zm), .val (.long y1), .second, .val (.long y2), .second, .val (.long y3), .second, .val (.long y4), .second, .val (.double z1), .second, .val (.double z2), .second, .val (.double z3), .second, .unset, .unset, .unset, .unset] [(.ref b45)]))
          refine own_go (fun _ => XS.astore X46.here hx rfl (hb hby at_118) rfl rfl (l' := #[.val (.int p1), .val (.long q2), .second, .val (.long q3), .second, .val (.long q4), .second, .val (.long q5), .second, .val (.int p6), .val (.int (3 : Int32)), .val (.int zm), .val (.long y1), .second, .val (.long y2), .second, .val (.long y3), .second, .val (.long y4), .second, .val (.double z1), .second, .val (.double z2), .second, .val (.double z3), .second, .val (.ref b45), .unset, .unset, .unset]) rfl) ?_
          show own_Go p.tables e below _ (T46.setTop (mkF m 120 #[.val (.int p1), .val (.long q2), .second, .val (.long q3), .second, .val (.long q4), .second, .val (.long q5), .second, .val (.int p6), .val (.int (3 : Int32)), .val (.int zm), .val (.long y1), .second, .val (.long y2), .second, .val (.long y3), .second, .val (.long y4), .second, .val (.double z1), .second, .val (.double z2), .second, .val (.double z3), .second, .val (.ref b45), .unset, .unset, .unset] []))
          refine own_go (fun _ => XS.iload X46.here hx rfl (hb hby at_120) rfl) ?_
          show own_Go p.tables e below _ (T46.setTop (mkF m 122 #[.val (.int p1), .val (.long q2), .second, .val (.long q3), .second, .val (.long q4), .second, .val (.long q5), .second, .val (.int p6), .val (.int (3 : Int32)), .val (.int zm), .val (.long y1), .second, .val (.long y2), .second, .val (.long y3), .second, .val (.long y4), .second, .val (.double z1), .second, .val (.double z2), .second, .val (.double z3), .second, .val (.ref b45), .unset, .unset, .unset] [(.int (3 : Int32))]))
          refine own_go (fun _ => XS.iconst X46.here hx rfl (hb hby at_122)) ?_
          show own_Go p.tables e below _ (T46.setTop (mkF m 123 #[.val (.int p1), .val (.long q2), .second, .val (.long q3), .second, .val (.long q4), .second, .val (.long q5), .second, .val (.int p6), .val (.int (3 : Int32)), .val (.int zm), .val (.long y1), .second, .val (.long y2), .second, .val (.long y3), .second, .val (.long y4), .second, .val (.double z1), .second, .val (.double z2), .second, .val (.double z3), .second, .val (.ref b45), .unset, .unset, .unset] [(.int (1 : Int32)), (.int (3 : Int32))]))
          refine own_go (fun _ => XS.icmpNo X46.here hx rfl (hb hby at_123) rfl (flt (by decide : ¬ ((3 : Int32) < (1 : Int32)))).1) ?_
          show own_Go p.tables e below _ (T46.setTop (mkF m 126 #[.val (.int p1), .val (.long q2), .second, .val (.long q3), .second, .val (.long q4), .second, .val (.long q5), .second, .val (.int p6), .val (.int (3 : Int32)), .val (.int zm), .val (.long y1), .second, .val (.long y2), .second, .val (.long y3), .second, .val (.long y4), .second, .val (.double z1), .second, .val (.double z2), .second, .val (.double z3), .second, .val (.ref b45), .unset, .unset, .unset] []))
          refine own_go (fun _ => XS.aload X46.here hx rfl (hb hby at_126) rfl rfl) ?_
          show own_Go p.tables e below _ (T46.setTop (mkF m 128 #[.val (.int p1), .val (.long q2), .second, .val (.long q3), .second, .val (.long q4), .second, .val (.long q5), .second, .val (.int p6), .val (.int (3 : Int32)), .val (.int zm), .val (.long y1), .second, .val (.long y2), .second, .val (.long y3), .second, .val (.long y4), .second, .val (.double z1), .second, .val (.double z2), .second, .val (.double z3), .second, .val (.ref b45), .unset, .unset, .unset] [(.ref b45)]))
          refine own_go (fun _ => XS.lload X46.here hx rfl (hb hby at_128) rfl) ?_
          show own_Go p.tables e below _ (T46.setTop (mkF m 130 #[.val (.int p1), .val (.long q2), .second, .val (.long q3), .second, .val (.long q4), .second, .val (.long q5), .second, .val (.int p6), .val (.int (3 : Int32)), .val (.int zm), .val (.long y1), .second, .val (.long y2), .second, .val (.long y3), .second, .val (.long y4), .second, .val (.double z1), .second, .val (.double z2), .second, .val (.double z3), .second, .val (.ref b45), .unset, .unset, .unset] [(.long y1), (.ref b45)]))
          refine own_go (fun _ => XS.dload X46.here hx rfl (hb hby at_130) rfl) ?_
          show own_Go p.tables e below _ (T46.setTop (mkF m 132 #[.val (.int p1), .val (.long q2), .second, .val (.long q3), .second, .val (.long q4), .second, .val (.long q5), .second, .val (.int p6), .val (.int (3 : Int32)), .val (.int zm), .val (.long y1), .second, .val (.long y2), .second, .val (.long y3), .second, .val (.long y4), .second, .val (.double z1), .second, .val (.double z2), .second, .val (.double z3), .second, .val (.ref b45), .unset, .unset, .unset] [(.double z1), (.long y1), (.ref b45)]))
          obtain ⟨cq47, kq47, q47a, q47b, q47c⟩ := isOf hZ rfl F46_0
          obtain ⟨v47, T47, L47, X47, hQ47, st47⟩ := own_tidyV X46 (X46.virtualBack hx (y := (⟨"com/example/outis/outis/clustering/KeptCharges", "put", "(JD)V"⟩ : MethodName)) (z := (⟨"com/example/outis/outis/clustering/KeptCharges", "put", "(JD)V"⟩ : MethodName)) hown (mvT hZ (hw _ (List.mem_of_getElem? (i := 49) rfl))) (mvT hZ (hw _ (List.mem_of_getElem? (i := 50) rfl))) (notFace_of_selects (args := #[]) (mvT hZ (hw _ (List.mem_of_getElem? (i := 52) rfl)))) (mvT hZ (hw _ (List.mem_of_getElem? (i := 52) rfl))) (mvT hZ (hw _ (List.mem_of_getElem? (i := 51) rfl))) (by decide) (backOf (W := 0) (rm9 l Z a0 hw [] b45 y1 z1 (0 : Int32) zm e46_0 e46_1 (fun _ => (-1 : Int64)) (fun _ => 0) kc46_0 kc46_1 T46.heap n0 (Nat.le_trans (Nat.le_trans Z0 E45.1) Kc46.1) F46_6 F46_1 F46_4 F46_2 F46_3 F46_0 F46_7 F46_8 ne46_0_1 (by decide) (fun _ => own_finN _) g_b45 g_e46_0 g_e46_1) hZ (hw _ (List.mem_of_getElem? (i := 53) rfl)) (hw _ (List.mem_of_getElem? (i := 3) rfl)) (by decide) (by decide)) q47a q47c (g := (mkF m 132 #[.val (.int p1), .val (.long q2), .second, .val (.long q3), .second, .val (.long q4), .second, .val (.long q5), .second, .val (.int p6), .val (.int (3 : Int32)), .val (.int zm), .val (.long y1), .second, .val (.long y2), .second, .val (.long y3), .second, .val (.long y4), .second, .val (.double z1), .second, .val (.double z2), .second, .val (.double z3), .second, .val (.ref b45), .unset, .unset, .unset] [(.double z1), (.long y1), (.ref b45)])) rfl (by rw [hml]; rfl) (Steps.refl _) (argsL := [(.long y1), (.double z1)]) (rest := []) (lenOf pd_7 rfl) rfl (by show 2 * 0 + _ ≤ _; exact Nat.le_of_eq rfl) (hb hby at_132) (fun _ _ => ⟨rfl, rfl, (by decide : 3 + 0 ≤ _), (by decide : 37 + 0 ≤ _)⟩)) (c' := 3) (n' := 37) rfl rfl
          obtain ⟨rfl, N47q, Kc47, F47_0, F47_1, F47_2, F47_3, F47_4, F47_5, F47_6, F47_7⟩ := hQ47
          have N47 := Fr.app N46 N47q
          refine own_via st47 ?_
          have K47 : Keep h0 T47.heap [] := K46.trans Kc47 (allS (Or.inr sz_e46_0) (allS (Or.inr sz_b45) (allS (Or.inr sz_e46_1) all0)))
          have J1 : own_J (own_l1 zm y1 z1) (own_nk (0 : Int32) zm (fun _ => (-1 : Int64)) y1) (own_nd (0 : Int32) zm (fun _ => (-1 : Int64)) (fun _ => 0) y1 z1) := own_J1 _ hy1 _ _
          obtain ⟨fk1, efk1⟩ : ∃ z, z = (own_nk (0 : Int32) zm (fun _ => (-1 : Int64)) y1) := ⟨_, rfl⟩
          rw [← efk1] at J1 F47_6
          obtain ⟨gk1, egk1⟩ : ∃ z, z = (own_nd (0 : Int32) zm (fun _ => (-1 : Int64)) (fun _ => 0) y1 z1) := ⟨_, rfl⟩
          rw [← egk1] at J1 F47_7
          show own_Go p.tables e below _ (T47.setTop (mkF m 135 #[.val (.int p1), .val (.long q2), .second, .val (.long q3), .second, .val (.long q4), .second, .val (.long q5), .second, .val (.int p6), .val (.int (3 : Int32)), .val (.int zm), .val (.long y1), .second, .val (.long y2), .second, .val (.long y3), .second, .val (.long y4), .second, .val (.double z1), .second, .val (.double z2), .second, .val (.double z3), .second, .val (.ref b45), .unset, .unset, .unset] []))
          refine own_go (fun _ => XS.iload X47.here hx rfl (hb hby at_135) rfl) ?_
          show own_Go p.tables e below _ (T47.setTop (mkF m 137 #[.val (.int p1), .val (.long q2), .second, .val (.long q3), .second, .val (.long q4), .second, .val (.long q5), .second, .val (.int p6), .val (.int (3 : Int32)), .val (.int zm), .val (.long y1), .second, .val (.long y2), .second, .val (.long y3), .second, .val (.long y4), .second, .val (.double z1), .second, .val (.double z2), .second, .val (.double z3), .second, .val (.ref b45), .unset, .unset, .unset] [(.int (3 : Int32))]))
          refine own_go (fun _ => XS.iconst X47.here hx rfl (hb hby at_137)) ?_
          show own_Go p.tables e below _ (T47.setTop (mkF m 138 #[.val (.int p1), .val (.long q2), .second, .val (.long q3), .second, .val (.long q4), .second, .val (.long q5), .second, .val (.int p6), .val (.int (3 : Int32)), .val (.int zm), .val (.long y1), .second, .val (.long y2), .second, .val (.long y3), .second, .val (.long y4), .second, .val (.double z1), .second, .val (.double z2), .second, .val (.double z3), .second, .val (.ref b45), .unset, .unset, .unset] [(.int (2 : Int32)), (.int (3 : Int32))]))
          refine own_go (fun _ => XS.icmpNo X47.here hx rfl (hb hby at_138) rfl (flt (by decide : ¬ ((3 : Int32) < (2 : Int32)))).1) ?_
          show own_Go p.tables e below _ (T47.setTop (mkF m 141 #[.val (.int p1), .val (.long q2), .second, .val (.long q3), .second, .val (.long q4), .second, .val (.long q5), .second, .val (.int p6), .val (.int (3 : Int32)), .val (.int zm), .val (.long y1), .second, .val (.long y2), .second, .val (.long y3), .second, .val (.long y4), .second, .val (.double z1), .second, .val (.double z2), .second, .val (.double z3), .second, .val (.ref b45), .unset, .unset, .unset] []))
          refine own_go (fun _ => XS.aload X47.here hx rfl (hb hby at_141) rfl rfl) ?_
          show own_Go p.tables e below _ (T47.setTop (mkF m 143 #[.val (.int p1), .val (.long q2), .second, .val (.long q3), .second, .val (.long q4), .second, .val (.long q5), .second, .val (.int p6), .val (.int (3 : Int32)), .val (.int zm), .val (.long y1), .second, .val (.long y2), .second, .val (.long y3), .second, .val (.long y4), .second, .val (.double z1), .second, .val (.double z2), .second, .val (.double z3), .second, .val (.ref b45), .unset, .unset, .unset] [(.ref b45)]))
          refine own_go (fun _ => XS.lload X47.here hx rfl (hb hby at_143) rfl) ?_
          show own_Go p.tables e below _ (T47.setTop (mkF m 145 #[.val (.int p1), .val (.long q2), .second, .val (.long q3), .second, .val (.long q4), .second, .val (.long q5), .second, .val (.int p6), .val (.int (3 : Int32)), .val (.int zm), .val (.long y1), .second, .val (.long y2), .second, .val (.long y3), .second, .val (.long y4), .second, .val (.double z1), .second, .val (.double z2), .second, .val (.double z3), .second, .val (.ref b45), .unset, .unset, .unset] [(.long y2), (.ref b45)]))
          refine own_go (fun _ => XS.dload X47.here hx rfl (hb hby at_145) rfl) ?_
          show own_Go p.tables e below _ (T47.setTop (mkF m 147 #[.val (.int p1), .val (.long q2), .second, .val (.long q3), .second, .val (.long q4), .second, .val (.long q5), .second, .val (.int p6), .val (.int (3 : Int32)), .val (.int zm), .val (.long y1), .second, .val (.long y2), .second, .val (.long y3), .second, .val (.long y4), .second, .val (.double z1), .second, .val (.double z2), .second, .val (.double z3), .second, .val (.ref b45), .unset, .unset, .unset] [(.double z2), (.long y2), (.ref b45)]))
          obtain ⟨cq48, kq48, q48a, q48b, q48c⟩ := isOf hZ rfl F47_0
          obtain ⟨v48, T48, L48, X48, hQ48, st48⟩ := own_tidyV X47 (X47.virtualBack hx (y := (⟨"com/example/outis/outis/clustering/KeptCharges", "put", "(JD)V"⟩ : MethodName)) (z := (⟨"com/example/outis/outis/clustering/KeptCharges", "put", "(JD)V"⟩ : MethodName)) hown (mvT hZ (hw _ (List.mem_of_getElem? (i := 49) rfl))) (mvT hZ (hw _ (List.mem_of_getElem? (i := 50) rfl))) (notFace_of_selects (args := #[]) (mvT hZ (hw _ (List.mem_of_getElem? (i := 52) rfl)))) (mvT hZ (hw _ (List.mem_of_getElem? (i := 52) rfl))) (mvT hZ (hw _ (List.mem_of_getElem? (i := 51) rfl))) (by decide) (backOf (W := 0) (rm9 l Z a0 hw [] b45 y2 z2 (own_sz (0 : Int32) zm) zm e46_0 e46_1 fk1 gk1 kc46_0 kc46_1 T47.heap n0 (Nat.le_trans (Nat.le_trans (Nat.le_trans Z0 E45.1) Kc46.1) Kc47.1) F47_1 F47_2 F47_3 F47_4 F47_5 F47_0 F47_6 F47_7 ne46_0_1 (own_lt1 _) (fun _ => own_J.fin J1 own_le1 _) g_b45 g_e46_0 g_e46_1) hZ (hw _ (List.mem_of_getElem? (i := 53) rfl)) (hw _ (List.mem_of_getElem? (i := 3) rfl)) (by decide) (by decide)) q48a q48c (g := (mkF m 147 #[.val (.int p1), .val (.long q2), .second, .val (.long q3), .second, .val (.long q4), .second, .val (.long q5), .second, .val (.int p6), .val (.int (3 : Int32)), .val (.int zm), .val (.long y1), .second, .val (.long y2), .second, .val (.long y3), .second, .val (.long y4), .second, .val (.double z1), .second, .val (.double z2), .second, .val (.double z3), .second, .val (.ref b45), .unset, .unset, .unset] [(.double z2), (.long y2), (.ref b45)])) rfl (by rw [hml]; rfl) (Steps.refl _) (argsL := [(.long y2), (.double z2)]) (rest := []) (lenOf pd_7 rfl) rfl (by show 2 * 0 + _ ≤ _; exact Nat.le_of_eq rfl) (hb hby at_147) (fun _ _ => ⟨rfl, rfl, (by decide : 3 + 0 ≤ _), (by decide : 37 + 0 ≤ _)⟩)) (c' := 3) (n' := 37) rfl rfl
          obtain ⟨rfl, N48q, Kc48, F48_0, F48_1, F48_2, F48_3, F48_4, F48_5, F48_6, F48_7⟩ := hQ48
          have N48 := Fr.app N47 N48q
          refine own_via st48 ?_
          have K48 : Keep h0 T48.heap [] := K47.trans Kc48 (allS (Or.inr sz_e46_0) (allS (Or.inr sz_b45) (allS (Or.inr sz_e46_1) all0)))
          have J2 : own_J (own_l2 zm y1 z1 y2 z2) (own_nk (own_sz (0 : Int32) zm) zm fk1 y2) (own_nd (own_sz (0 : Int32) zm) zm fk1 gk1 y2 z2) := own_J2 J1 hy2 (fun h => hc42_55 ((lw_eq _ _).mpr h))
          obtain ⟨fk2, efk2⟩ : ∃ z, z = (own_nk (own_sz (0 : Int32) zm) zm fk1 y2) := ⟨_, rfl⟩
          rw [← efk2] at J2 F48_6
          obtain ⟨gk2, egk2⟩ : ∃ z, z = (own_nd (own_sz (0 : Int32) zm) zm fk1 gk1 y2 z2) := ⟨_, rfl⟩
          rw [← egk2] at J2 F48_7
          show own_Go p.tables e below _ (T48.setTop (mkF m 150 #[.val (.int p1), .val (.long q2), .second, .val (.long q3), .second, .val (.long q4), .second, .val (.long q5), .second, .val (.int p6), .val (.int (3 : Int32)), .val (.int zm), .val (.long y1), .second, .val (.long y2), .second, .val (.long y3), .second, .val (.long y4), .second, .val (.double z1), .second, .val (.double z2), .second, .val (.double z3), .second, .val (.ref b45), .unset, .unset, .unset] []))
          refine own_go (fun _ => XS.iload X48.here hx rfl (hb hby at_150) rfl) ?_
          show own_Go p.tables e below _ (T48.setTop (mkF m 152 #[.val (.int p1), .val (.long q2), .second, .val (.long q3), .second, .val (.long q4), .second, .val (.long q5), .second, .val (.int p6), .val (.int (3 : Int32)), .val (.int zm), .val (.long y1), .second, .val (.long y2), .second, .val (.long y3), .second, .val (.long y4), .second, .val (.double z1), .second, .val (.double z2), .second, .val (.double z3), .second, .val (.ref b45), .unset, .unset, .unset] [(.int (3 : Int32))]))
          refine own_go (fun _ => XS.iconst X48.here hx rfl (hb hby at_152)) ?_
          show own_Go p.tables e below _ (T48.setTop (mkF m 153 #[.val (.int p1), .val (.long q2), .second, .val (.long q3), .second, .val (.long q4), .second, .val (.long q5), .second, .val (.int p6), .val (.int (3 : Int32)), .val (.int zm), .val (.long y1), .second, .val (.long y2), .second, .val (.long y3), .second, .val (.long y4), .second, .val (.double z1), .second, .val (.double z2), .second, .val (.double z3), .second, .val (.ref b45), .unset, .unset, .unset] [(.int (3 : Int32)), (.int (3 : Int32))]))
          refine own_go (fun _ => XS.icmpNo X48.here hx rfl (hb hby at_153) rfl (flt (by decide : ¬ ((3 : Int32) < (3 : Int32)))).1) ?_
          show own_Go p.tables e below _ (T48.setTop (mkF m 156 #[.val (.int p1), .val (.long q2), .second, .val (.long q3), .second, .val (.long q4), .second, .val (.long q5), .second, .val (.int p6), .val (.int (3 : Int32)), .val (.int zm), .val (.long y1), .second, .val (.long y2), .second, .val (.long y3), .second, .val (.long y4), .second, .val (.double z1), .second, .val (.double z2), .second, .val (.double z3), .second, .val (.ref b45), .unset, .unset, .unset] []))
          refine own_go (fun _ => XS.aload X48.here hx rfl (hb hby at_156) rfl rfl) ?_
          show own_Go p.tables e below _ (T48.setTop (mkF m 158 #[.val (.int p1), .val (.long q2), .second, .val (.long q3), .second, .val (.long q4), .second, .val (.long q5), .second, .val (.int p6), .val (.int (3 : Int32)), .val (.int zm), .val (.long y1), .second, .val (.long y2), .second, .val (.long y3), .second, .val (.long y4), .second, .val (.double z1), .second, .val (.double z2), .second, .val (.double z3), .second, .val (.ref b45), .unset, .unset, .unset] [(.ref b45)]))
          refine own_go (fun _ => XS.lload X48.here hx rfl (hb hby at_158) rfl) ?_
          show own_Go p.tables e below _ (T48.setTop (mkF m 160 #[.val (.int p1), .val (.long q2), .second, .val (.long q3), .second, .val (.long q4), .second, .val (.long q5), .second, .val (.int p6), .val (.int (3 : Int32)), .val (.int zm), .val (.long y1), .second, .val (.long y2), .second, .val (.long y3), .second, .val (.long y4), .second, .val (.double z1), .second, .val (.double z2), .second, .val (.double z3), .second, .val (.ref b45), .unset, .unset, .unset] [(.long y3), (.ref b45)]))
          refine own_go (fun _ => XS.dload X48.here hx rfl (hb hby at_160) rfl) ?_
          show own_Go p.tables e below _ (T48.setTop (mkF m 162 #[.val (.int p1), .val (.long q2), .second, .val (.long q3), .second, .val (.long q4), .second, .val (.long q5), .second, .val (.int p6), .val (.int (3 : Int32)), .val (.int zm), .val (.long y1), .second, .val (.long y2), .second, .val (.long y3), .second, .val (.long y4), .second, .val (.double z1), .second, .val (.double z2), .second, .val (.double z3), .second, .val (.ref b45), .unset, .unset, .unset] [(.double z3), (.long y3), (.ref b45)]))
          obtain ⟨cq49, kq49, q49a, q49b, q49c⟩ := isOf hZ rfl F48_0
          obtain ⟨v49, T49, L49, X49, hQ49, st49⟩ := own_tidyV X48 (X48.virtualBack hx (y := (⟨"com/example/outis/outis/clustering/KeptCharges", "put", "(JD)V"⟩ : MethodName)) (z := (⟨"com/example/outis/outis/clustering/KeptCharges", "put", "(JD)V"⟩ : MethodName)) hown (mvT hZ (hw _ (List.mem_of_getElem? (i := 49) rfl))) (mvT hZ (hw _ (List.mem_of_getElem? (i := 50) rfl))) (notFace_of_selects (args := #[]) (mvT hZ (hw _ (List.mem_of_getElem? (i := 52) rfl)))) (mvT hZ (hw _ (List.mem_of_getElem? (i := 52) rfl))) (mvT hZ (hw _ (List.mem_of_getElem? (i := 51) rfl))) (by decide) (backOf (W := 0) (rm9 l Z a0 hw [] b45 y3 z3 (own_sz (own_sz (0 : Int32) zm) zm) zm e46_0 e46_1 fk2 gk2 kc46_0 kc46_1 T48.heap n0 (Nat.le_trans (Nat.le_trans (Nat.le_trans (Nat.le_trans Z0 E45.1) Kc46.1) Kc47.1) Kc48.1) F48_1 F48_2 F48_3 F48_4 F48_5 F48_0 F48_6 F48_7 ne46_0_1 (own_lt2 _) (fun _ => own_J.fin J2 own_le2 _) g_b45 g_e46_0 g_e46_1) hZ (hw _ (List.mem_of_getElem? (i := 53) rfl)) (hw _ (List.mem_of_getElem? (i := 3) rfl)) (by decide) (by decide)) q49a q49c (g := (mkF m 162 #[.val (.int p1), .val (.long q2), .second, .val (.long q3), .second, .val (.long q4), .second, .val (.long q5), .second, .val (.int p6), .val (.int (3 : Int32)), .val (.int zm), .val (.long y1), .second, .val (.long y2), .second, .val (.long y3), .second, .val (.long y4), .second, .val (.double z1), .second, .val (.double z2), .second, .val (.double z3), .second, .val (.ref b45), .unset, .unset, .unset] [(.double z3), (.long y3), (.ref b45)])) rfl (by rw [hml]; rfl) (Steps.refl _) (argsL := [(.long y3), (.double z3)]) (rest := []) (lenOf pd_7 rfl) rfl (by show 2 * 0 + _ ≤ _; exact Nat.le_of_eq rfl) (hb hby at_162) (fun _ _ => ⟨rfl, rfl, (by decide : 3 + 0 ≤ _), (by decide : 37 + 0 ≤ _)⟩)) (c' := 3) (n' := 37) rfl rfl
          obtain ⟨rfl, N49q, Kc49, F49_0, F49_1, F49_2, F49_3, F49_4, F49_5, F49_6, F49_7⟩ := hQ49
          have N49 := Fr.app N48 N49q
          refine own_via st49 ?_
          have K49 : Keep h0 T49.heap [] := K48.trans Kc49 (allS (Or.inr sz_e46_0) (allS (Or.inr sz_b45) (allS (Or.inr sz_e46_1) all0)))
          have J3 : own_J (own_l3 zm y1 z1 y2 z2 y3 z3) (own_nk (own_sz (own_sz (0 : Int32) zm) zm) zm fk2 y3) (own_nd (own_sz (own_sz (0 : Int32) zm) zm) zm fk2 gk2 y3 z3) := own_J3 J2 hy3 hz4 (fun h => hc43_71 ((lw_eq _ _).mpr h)) hd
          obtain ⟨fk3, efk3⟩ : ∃ z, z = (own_nk (own_sz (own_sz (0 : Int32) zm) zm) zm fk2 y3) := ⟨_, rfl⟩
          rw [← efk3] at J3 F49_6
          obtain ⟨gk3, egk3⟩ : ∃ z, z = (own_nd (own_sz (own_sz (0 : Int32) zm) zm) zm fk2 gk2 y3 z3) := ⟨_, rfl⟩
          rw [← egk3] at J3 F49_7
          show own_Go p.tables e below _ (T49.setTop (mkF m 165 #[.val (.int p1), .val (.long q2), .second, .val (.long q3), .second, .val (.long q4), .second, .val (.long q5), .second, .val (.int p6), .val (.int (3 : Int32)), .val (.int zm), .val (.long y1), .second, .val (.long y2), .second, .val (.long y3), .second, .val (.long y4), .second, .val (.double z1), .second, .val (.double z2), .second, .val (.double z3), .second, .val (.ref b45), .unset, .unset, .unset] []))
          refine own_go (fun _ => XS.iload X49.here hx rfl (hb hby at_165) rfl) ?_
          show own_Go p.tables e below _ (T49.setTop (mkF m 167 #[.val (.int p1), .val (.long q2), .second, .val (.long q3), .second, .val (.long q4), .second, .val (.long q5), .second, .val (.int p6), .val (.int (3 : Int32)), .val (.int zm), .val (.long y1), .second, .val (.long y2), .second, .val (.long y3), .second, .val (.long y4), .second, .val (.double z1), .second, .val (.double z2), .second, .val (.double z3), .second, .val (.ref b45), .unset, .unset, .unset] [(.int (3 : Int32))]))
          refine own_go (fun _ => XS.iconst X49.here hx rfl (hb hby at_167)) ?_
          refine own_go (S' := T49.setTop (mkF m 200 #[.val (.int p1), .val (.long q2), .second, .val (.long q3), .second, .val (.long q4), .second, .val (.long q5), .second, .val (.int p6), .val (.int (3 : Int32)), .val (.int zm), .val (.long y1), .second, .val (.long y2), .second, .val (.long y3), .second, .val (.long y4), .second, .val (.double z1), .second, .val (.double z2), .second, .val (.double z3), .second, .val (.ref b45), .unset, .unset, .unset] [(.int (own_v0_168a zm))])) (fun t kt => ?_) ?_
          · skip
            show Steps p.tables e below (T49.setTop (mkF m 168 #[.val (.int p1), .val (.long q2), .second, .val (.long q3), .second, .val (.long q4), .second, .val (.long q5), .second, .val (.int p6), .val (.int (3 : Int32)), .val (.int zm), .val (.long y1), .second, .val (.long y2), .second, .val (.long y3), .second, .val (.long y4), .second, .val (.double z1), .second, .val (.double z2), .second, .val (.double z3), .second, .val (.ref b45), .unset, .unset, .unset] [(.int (1 : Int32)), (.int (3 : Int32))])) _
            refine XS.icmpNo X49.here hx rfl (hb hby at_168) rfl (feq (by decide : ¬ ((3 : Int32) = (1 : Int32)))).1 ?_
            show Steps p.tables e below (T49.setTop (mkF m 171 #[.val (.int p1), .val (.long q2), .second, .val (.long q3), .second, .val (.long q4), .second, .val (.long q5), .second, .val (.int p6), .val (.int (3 : Int32)), .val (.int zm), .val (.long y1), .second, .val (.long y2), .second, .val (.long y3), .second, .val (.long y4), .second, .val (.double z1), .second, .val (.double z2), .second, .val (.double z3), .second, .val (.ref b45), .unset, .unset, .unset] [])) _
            refine XS.iload X49.here hx rfl (hb hby at_171) rfl ?_
            show Steps p.tables e below (T49.setTop (mkF m 173 #[.val (.int p1), .val (.long q2), .second, .val (.long q3), .second, .val (.long q4), .second, .val (.long q5), .second, .val (.int p6), .val (.int (3 : Int32)), .val (.int zm), .val (.long y1), .second, .val (.long y2), .second, .val (.long y3), .second, .val (.long y4), .second, .val (.double z1), .second, .val (.double z2), .second, .val (.double z3), .second, .val (.ref b45), .unset, .unset, .unset] [(.int (3 : Int32))])) _
            refine XS.iconst X49.here hx rfl (hb hby at_173) ?_
            show Steps p.tables e below (T49.setTop (mkF m 174 #[.val (.int p1), .val (.long q2), .second, .val (.long q3), .second, .val (.long q4), .second, .val (.long q5), .second, .val (.int p6), .val (.int (3 : Int32)), .val (.int zm), .val (.long y1), .second, .val (.long y2), .second, .val (.long y3), .second, .val (.long y4), .second, .val (.double z1), .second, .val (.double z2), .second, .val (.double z3), .second, .val (.ref b45), .unset, .unset, .unset] [(.int (2 : Int32)), (.int (3 : Int32))])) _
            refine XS.icmpYes X49.here hx rfl (pc0 := 174) (pc' := 183) rfl (hb hby at_174) rfl (feq (by decide : ¬ ((3 : Int32) = (2 : Int32)))).2 (by decide) (by decide) ?_
            show Steps p.tables e below (T49.setTop (mkF m 183 #[.val (.int p1), .val (.long q2), .second, .val (.long q3), .second, .val (.long q4), .second, .val (.long q5), .second, .val (.int p6), .val (.int (3 : Int32)), .val (.int zm), .val (.long y1), .second, .val (.long y2), .second, .val (.long y3), .second, .val (.long y4), .second, .val (.double z1), .second, .val (.double z2), .second, .val (.double z3), .second, .val (.ref b45), .unset, .unset, .unset] [])) _
            refine XS.iload X49.here hx rfl (hb hby at_183) rfl ?_
            show Steps p.tables e below (T49.setTop (mkF m 185 #[.val (.int p1), .val (.long q2), .second, .val (.long q3), .second, .val (.long q4), .second, .val (.long q5), .second, .val (.int p6), .val (.int (3 : Int32)), .val (.int zm), .val (.long y1), .second, .val (.long y2), .second, .val (.long y3), .second, .val (.long y4), .second, .val (.double z1), .second, .val (.double z2), .second, .val (.double z3), .second, .val (.ref b45), .unset, .unset, .unset] [(.int (3 : Int32))])) _
            refine XS.iconst X49.here hx rfl (hb hby at_185) ?_
            show Steps p.tables e below (T49.setTop (mkF m 186 #[.val (.int p1), .val (.long q2), .second, .val (.long q3), .second, .val (.long q4), .second, .val (.long q5), .second, .val (.int p6), .val (.int (3 : Int32)), .val (.int zm), .val (.long y1), .second, .val (.long y2), .second, .val (.long y3), .second, .val (.long y4), .second, .val (.double z1), .second, .val (.double z2), .second, .val (.double z3), .second, .val (.ref b45), .unset, .unset, .unset] [(.int (3 : Int32)), (.int (3 : Int32))])) _
            refine XS.icmpNo X49.here hx rfl (hb hby at_186) rfl (teq (by decide : (3 : Int32) = (3 : Int32))).2 ?_
            show Steps p.tables e below (T49.setTop (mkF m 189 #[.val (.int p1), .val (.long q2), .second, .val (.long q3), .second, .val (.long q4), .second, .val (.long q5), .second, .val (.int p6), .val (.int (3 : Int32)), .val (.int zm), .val (.long y1), .second, .val (.long y2), .second, .val (.long y3), .second, .val (.long y4), .second, .val (.double z1), .second, .val (.double z2), .second, .val (.double z3), .second, .val (.ref b45), .unset, .unset, .unset] [])) _
            refine XS.iload X49.here hx rfl (hb hby at_189) rfl ?_
            show Steps p.tables e below (T49.setTop (mkF m 191 #[.val (.int p1), .val (.long q2), .second, .val (.long q3), .second, .val (.long q4), .second, .val (.long q5), .second, .val (.int p6), .val (.int (3 : Int32)), .val (.int zm), .val (.long y1), .second, .val (.long y2), .second, .val (.long y3), .second, .val (.long y4), .second, .val (.double z1), .second, .val (.double z2), .second, .val (.double z3), .second, .val (.ref b45), .unset, .unset, .unset] [(.int zm)])) _
            refine XS.iconst X49.here hx rfl (hb hby at_191) ?_
            show Steps p.tables e below (T49.setTop (mkF m 192 #[.val (.int p1), .val (.long q2), .second, .val (.long q3), .second, .val (.long q4), .second, .val (.long q5), .second, .val (.int p6), .val (.int (3 : Int32)), .val (.int zm), .val (.long y1), .second, .val (.long y2), .second, .val (.long y3), .second, .val (.long y4), .second, .val (.double z1), .second, .val (.double z2), .second, .val (.double z3), .second, .val (.ref b45), .unset, .unset, .unset] [(.int (3 : Int32)), (.int zm)])) _
            by_cases hc50_192 : zm < (3 : Int32)
            · skip
              refine XS.icmpYes X49.here hx rfl (pc0 := 192) (pc' := 199) rfl (hb hby at_192) rfl (tlt hc50_192).1 (by decide) (by decide) ?_
              show Steps p.tables e below (T49.setTop (mkF m 199 #[.val (.int p1), .val (.long q2), .second, .val (.long q3), .second, .val (.long q4), .second, .val (.long q5), .second, .val (.int p6), .val (.int (3 : Int32)), .val (.int zm), .val (.long y1), .second, .val (.long y2), .second, .val (.long y3), .second, .val (.long y4), .second, .val (.double z1), .second, .val (.double z2), .second, .val (.double z3), .second, .val (.ref b45), .unset, .unset, .unset] [])) _
              refine XS.iconst X49.here hx rfl (hb hby at_199) ?_
              show Steps p.tables e below (T49.setTop (mkF m 200 #[.val (.int p1), .val (.long q2), .second, .val (.long q3), .second, .val (.long q4), .second, .val (.long q5), .second, .val (.int p6), .val (.int (3 : Int32)), .val (.int zm), .val (.long y1), .second, .val (.long y2), .second, .val (.long y3), .second, .val (.long y4), .second, .val (.double z1), .second, .val (.double z2), .second, .val (.double z3), .second, .val (.ref b45), .unset, .unset, .unset] [(.int (0 : Int32))])) _
              rw [show (own_v0_168a zm) = (0 : Int32) from ((if_pos hc50_192).trans rfl)] at kt
              exact kt
            · skip
              refine XS.icmpNo X49.here hx rfl (hb hby at_192) rfl (flt hc50_192).1 ?_
              show Steps p.tables e below (T49.setTop (mkF m 195 #[.val (.int p1), .val (.long q2), .second, .val (.long q3), .second, .val (.long q4), .second, .val (.long q5), .second, .val (.int p6), .val (.int (3 : Int32)), .val (.int zm), .val (.long y1), .second, .val (.long y2), .second, .val (.long y3), .second, .val (.long y4), .second, .val (.double z1), .second, .val (.double z2), .second, .val (.double z3), .second, .val (.ref b45), .unset, .unset, .unset] [])) _
              refine XS.iconst X49.here hx rfl (hb hby at_195) ?_
              show Steps p.tables e below (T49.setTop (mkF m 196 #[.val (.int p1), .val (.long q2), .second, .val (.long q3), .second, .val (.long q4), .second, .val (.long q5), .second, .val (.int p6), .val (.int (3 : Int32)), .val (.int zm), .val (.long y1), .second, .val (.long y2), .second, .val (.long y3), .second, .val (.long y4), .second, .val (.double z1), .second, .val (.double z2), .second, .val (.double z3), .second, .val (.ref b45), .unset, .unset, .unset] [(.int (1 : Int32))])) _
              refine XS.goto X49.here hx rfl (pc0 := 196) (pc' := 200) rfl (hb hby at_196) (by decide) (by decide) ?_
              show Steps p.tables e below (T49.setTop (mkF m 200 #[.val (.int p1), .val (.long q2), .second, .val (.long q3), .second, .val (.long q4), .second, .val (.long q5), .second, .val (.int p6), .val (.int (3 : Int32)), .val (.int zm), .val (.long y1), .second, .val (.long y2), .second, .val (.long y3), .second, .val (.long y4), .second, .val (.double z1), .second, .val (.double z2), .second, .val (.double z3), .second, .val (.ref b45), .unset, .unset, .unset] [(.int (1 : Int32))])) _
              rw [show (own_v0_168a zm) = (1 : Int32) from ((if_neg hc50_192).trans rfl)] at kt
              exact kt
          show own_Go p.tables e below _ (T49.setTop (mkF m 200 #[.val (.int p1), .val (.long q2), .second, .val (.long q3), .second, .val (.long q4), .second, .val (.long q5), .second, .val (.int p6), .val (.int (3 : Int32)), .val (.int zm), .val (.long y1), .second, .val (.long y2), .second, .val (.long y3), .second, .val (.long y4), .second, .val (.double z1), .second, .val (.double z2), .second, .val (.double z3), .second, .val (.ref b45), .unset, .unset, .unset] [(.int (own_v0_168a zm))]))
          refine own_go (fun _ => XS.istore X49.here hx rfl (hb hby at_200) rfl (l' := #[.val (.int p1), .val (.long q2), .second, .val (.long q3), .second, .val (.long q4), .second, .val (.long q5), .second, .val (.int p6), .val (.int (3 : Int32)), .val (.int zm), .val (.long y1), .second, .val (.long y2), .second, .val (.long y3), .second, .val (.long y4), .second, .val (.double z1), .second, .val (.double z2), .second, .val (.double z3), .second, .val (.ref b45), .val (.int (own_v0_168a zm)), .unset, .unset]) rfl) ?_
          show own_Go p.tables e below _ (T49.setTop (mkF m 202 #[.val (.int p1), .val (.long q2), .second, .val (.long q3), .second, .val (.long q4), .second, .val (.long q5), .second, .val (.int p6), .val (.int (3 : Int32)), .val (.int zm), .val (.long y1), .second, .val (.long y2), .second, .val (.long y3), .second, .val (.long y4), .second, .val (.double z1), .second, .val (.double z2), .second, .val (.double z3), .second, .val (.ref b45), .val (.int (own_v0_168a zm)), .unset, .unset] []))
          refine own_go (fun _ => XS.iload X49.here hx rfl (hb hby at_202) rfl) ?_
          show own_Go p.tables e below _ (T49.setTop (mkF m 204 #[.val (.int p1), .val (.long q2), .second, .val (.long q3), .second, .val (.long q4), .second, .val (.long q5), .second, .val (.int p6), .val (.int (3 : Int32)), .val (.int zm), .val (.long y1), .second, .val (.long y2), .second, .val (.long y3), .second, .val (.long y4), .second, .val (.double z1), .second, .val (.double z2), .second, .val (.double z3), .second, .val (.ref b45), .val (.int (own_v0_168a zm)), .unset, .unset] [(.int (3 : Int32))]))
          refine own_go (fun _ => XS.iconst X49.here hx rfl (hb hby at_204)) ?_
          refine own_go (S' := T49.setTop (mkF m 225 #[.val (.int p1), .val (.long q2), .second, .val (.long q3), .second, .val (.long q4), .second, .val (.long q5), .second, .val (.int p6), .val (.int (3 : Int32)), .val (.int zm), .val (.long y1), .second, .val (.long y2), .second, .val (.long y3), .second, .val (.long y4), .second, .val (.double z1), .second, .val (.double z2), .second, .val (.double z3), .second, .val (.ref b45), .val (.int (own_v0_168a zm)), .unset, .unset] [(.int (own_v0_205 zm))])) (fun t kt => ?_) ?_
          · skip
            show Steps p.tables e below (T49.setTop (mkF m 205 #[.val (.int p1), .val (.long q2), .second, .val (.long q3), .second, .val (.long q4), .second, .val (.long q5), .second, .val (.int p6), .val (.int (3 : Int32)), .val (.int zm), .val (.long y1), .second, .val (.long y2), .second, .val (.long y3), .second, .val (.long y4), .second, .val (.double z1), .second, .val (.double z2), .second, .val (.double z3), .second, .val (.ref b45), .val (.int (own_v0_168a zm)), .unset, .unset] [(.int (2 : Int32)), (.int (3 : Int32))])) _
            refine XS.icmpNo X49.here hx rfl (hb hby at_205) rfl (feq (by decide : ¬ ((3 : Int32) = (2 : Int32)))).1 ?_
            show Steps p.tables e below (T49.setTop (mkF m 208 #[.val (.int p1), .val (.long q2), .second, .val (.long q3), .second, .val (.long q4), .second, .val (.long q5), .second, .val (.int p6), .val (.int (3 : Int32)), .val (.int zm), .val (.long y1), .second, .val (.long y2), .second, .val (.long y3), .second, .val (.long y4), .second, .val (.double z1), .second, .val (.double z2), .second, .val (.double z3), .second, .val (.ref b45), .val (.int (own_v0_168a zm)), .unset, .unset] [])) _
            refine XS.iload X49.here hx rfl (hb hby at_208) rfl ?_
            show Steps p.tables e below (T49.setTop (mkF m 210 #[.val (.int p1), .val (.long q2), .second, .val (.long q3), .second, .val (.long q4), .second, .val (.long q5), .second, .val (.int p6), .val (.int (3 : Int32)), .val (.int zm), .val (.long y1), .second, .val (.long y2), .second, .val (.long y3), .second, .val (.long y4), .second, .val (.double z1), .second, .val (.double z2), .second, .val (.double z3), .second, .val (.ref b45), .val (.int (own_v0_168a zm)), .unset, .unset] [(.int (3 : Int32))])) _
            refine XS.iconst X49.here hx rfl (hb hby at_210) ?_
            show Steps p.tables e below (T49.setTop (mkF m 211 #[.val (.int p1), .val (.long q2), .second, .val (.long q3), .second, .val (.long q4), .second, .val (.long q5), .second, .val (.int p6), .val (.int (3 : Int32)), .val (.int zm), .val (.long y1), .second, .val (.long y2), .second, .val (.long y3), .second, .val (.long y4), .second, .val (.double z1), .second, .val (.double z2), .second, .val (.double z3), .second, .val (.ref b45), .val (.int (own_v0_168a zm)), .unset, .unset] [(.int (3 : Int32)), (.int (3 : Int32))])) _
            refine XS.icmpNo X49.here hx rfl (hb hby at_211) rfl (teq (by decide : (3 : Int32) = (3 : Int32))).2 ?_
            show Steps p.tables e below (T49.setTop (mkF m 214 #[.val (.int p1), .val (.long q2), .second, .val (.long q3), .second, .val (.long q4), .second, .val (.long q5), .second, .val (.int p6), .val (.int (3 : Int32)), .val (.int zm), .val (.long y1), .second, .val (.long y2), .second, .val (.long y3), .second, .val (.long y4), .second, .val (.double z1), .second, .val (.double z2), .second, .val (.double z3), .second, .val (.ref b45), .val (.int (own_v0_168a zm)), .unset, .unset] [])) _
            refine XS.iload X49.here hx rfl (hb hby at_214) rfl ?_
            show Steps p.tables e below (T49.setTop (mkF m 216 #[.val (.int p1), .val (.long q2), .second, .val (.long q3), .second, .val (.long q4), .second, .val (.long q5), .second, .val (.int p6), .val (.int (3 : Int32)), .val (.int zm), .val (.long y1), .second, .val (.long y2), .second, .val (.long y3), .second, .val (.long y4), .second, .val (.double z1), .second, .val (.double z2), .second, .val (.double z3), .second, .val (.ref b45), .val (.int (own_v0_168a zm)), .unset, .unset] [(.int zm)])) _
            refine XS.iconst X49.here hx rfl (hb hby at_216) ?_
            show Steps p.tables e below (T49.setTop (mkF m 217 #[.val (.int p1), .val (.long q2), .second, .val (.long q3), .second, .val (.long q4), .second, .val (.long q5), .second, .val (.int p6), .val (.int (3 : Int32)), .val (.int zm), .val (.long y1), .second, .val (.long y2), .second, .val (.long y3), .second, .val (.long y4), .second, .val (.double z1), .second, .val (.double z2), .second, .val (.double z3), .second, .val (.ref b45), .val (.int (own_v0_168a zm)), .unset, .unset] [(.int (3 : Int32)), (.int zm)])) _
            by_cases hc51_217 : zm < (3 : Int32)
            · skip
              refine XS.icmpYes X49.here hx rfl (pc0 := 217) (pc' := 224) rfl (hb hby at_217) rfl (tlt hc51_217).1 (by decide) (by decide) ?_
              show Steps p.tables e below (T49.setTop (mkF m 224 #[.val (.int p1), .val (.long q2), .second, .val (.long q3), .second, .val (.long q4), .second, .val (.long q5), .second, .val (.int p6), .val (.int (3 : Int32)), .val (.int zm), .val (.long y1), .second, .val (.long y2), .second, .val (.long y3), .second, .val (.long y4), .second, .val (.double z1), .second, .val (.double z2), .second, .val (.double z3), .second, .val (.ref b45), .val (.int (own_v0_168a zm)), .unset, .unset] [])) _
              refine XS.iconst X49.here hx rfl (hb hby at_224) ?_
              show Steps p.tables e below (T49.setTop (mkF m 225 #[.val (.int p1), .val (.long q2), .second, .val (.long q3), .second, .val (.long q4), .second, .val (.long q5), .second, .val (.int p6), .val (.int (3 : Int32)), .val (.int zm), .val (.long y1), .second, .val (.long y2), .second, .val (.long y3), .second, .val (.long y4), .second, .val (.double z1), .second, .val (.double z2), .second, .val (.double z3), .second, .val (.ref b45), .val (.int (own_v0_168a zm)), .unset, .unset] [(.int (0 : Int32))])) _
              rw [show (own_v0_205 zm) = (0 : Int32) from ((if_pos hc51_217).trans rfl)] at kt
              exact kt
            · skip
              refine XS.icmpNo X49.here hx rfl (hb hby at_217) rfl (flt hc51_217).1 ?_
              show Steps p.tables e below (T49.setTop (mkF m 220 #[.val (.int p1), .val (.long q2), .second, .val (.long q3), .second, .val (.long q4), .second, .val (.long q5), .second, .val (.int p6), .val (.int (3 : Int32)), .val (.int zm), .val (.long y1), .second, .val (.long y2), .second, .val (.long y3), .second, .val (.long y4), .second, .val (.double z1), .second, .val (.double z2), .second, .val (.double z3), .second, .val (.ref b45), .val (.int (own_v0_168a zm)), .unset, .unset] [])) _
              refine XS.iconst X49.here hx rfl (hb hby at_220) ?_
              show Steps p.tables e below (T49.setTop (mkF m 221 #[.val (.int p1), .val (.long q2), .second, .val (.long q3), .second, .val (.long q4), .second, .val (.long q5), .second, .val (.int p6), .val (.int (3 : Int32)), .val (.int zm), .val (.long y1), .second, .val (.long y2), .second, .val (.long y3), .second, .val (.long y4), .second, .val (.double z1), .second, .val (.double z2), .second, .val (.double z3), .second, .val (.ref b45), .val (.int (own_v0_168a zm)), .unset, .unset] [(.int (1 : Int32))])) _
              refine XS.goto X49.here hx rfl (pc0 := 221) (pc' := 225) rfl (hb hby at_221) (by decide) (by decide) ?_
              show Steps p.tables e below (T49.setTop (mkF m 225 #[.val (.int p1), .val (.long q2), .second, .val (.long q3), .second, .val (.long q4), .second, .val (.long q5), .second, .val (.int p6), .val (.int (3 : Int32)), .val (.int zm), .val (.long y1), .second, .val (.long y2), .second, .val (.long y3), .second, .val (.long y4), .second, .val (.double z1), .second, .val (.double z2), .second, .val (.double z3), .second, .val (.ref b45), .val (.int (own_v0_168a zm)), .unset, .unset] [(.int (1 : Int32))])) _
              rw [show (own_v0_205 zm) = (1 : Int32) from ((if_neg hc51_217).trans rfl)] at kt
              exact kt
          show own_Go p.tables e below _ (T49.setTop (mkF m 225 #[.val (.int p1), .val (.long q2), .second, .val (.long q3), .second, .val (.long q4), .second, .val (.long q5), .second, .val (.int p6), .val (.int (3 : Int32)), .val (.int zm), .val (.long y1), .second, .val (.long y2), .second, .val (.long y3), .second, .val (.long y4), .second, .val (.double z1), .second, .val (.double z2), .second, .val (.double z3), .second, .val (.ref b45), .val (.int (own_v0_168a zm)), .unset, .unset] [(.int (own_v0_205 zm))]))
          refine own_go (fun _ => XS.istore X49.here hx rfl (hb hby at_225) rfl (l' := #[.val (.int p1), .val (.long q2), .second, .val (.long q3), .second, .val (.long q4), .second, .val (.long q5), .second, .val (.int p6), .val (.int (3 : Int32)), .val (.int zm), .val (.long y1), .second, .val (.long y2), .second, .val (.long y3), .second, .val (.long y4), .second, .val (.double z1), .second, .val (.double z2), .second, .val (.double z3), .second, .val (.ref b45), .val (.int (own_v0_168a zm)), .val (.int (own_v0_205 zm)), .unset]) rfl) ?_
          show own_Go p.tables e below _ (T49.setTop (mkF m 227 #[.val (.int p1), .val (.long q2), .second, .val (.long q3), .second, .val (.long q4), .second, .val (.long q5), .second, .val (.int p6), .val (.int (3 : Int32)), .val (.int zm), .val (.long y1), .second, .val (.long y2), .second, .val (.long y3), .second, .val (.long y4), .second, .val (.double z1), .second, .val (.double z2), .second, .val (.double z3), .second, .val (.ref b45), .val (.int (own_v0_168a zm)), .val (.int (own_v0_205 zm)), .unset] []))
          refine own_go (fun _ => XS.iload X49.here hx rfl (hb hby at_227) rfl) ?_
          show own_Go p.tables e below _ (T49.setTop (mkF m 229 #[.val (.int p1), .val (.long q2), .second, .val (.long q3), .second, .val (.long q4), .second, .val (.long q5), .second, .val (.int p6), .val (.int (3 : Int32)), .val (.int zm), .val (.long y1), .second, .val (.long y2), .second, .val (.long y3), .second, .val (.long y4), .second, .val (.double z1), .second, .val (.double z2), .second, .val (.double z3), .second, .val (.ref b45), .val (.int (own_v0_168a zm)), .val (.int (own_v0_205 zm)), .unset] [(.int (3 : Int32))]))
          refine own_go (fun _ => XS.iconst X49.here hx rfl (hb hby at_229)) ?_
          refine own_go (S' := T49.setTop (mkF m 238 #[.val (.int p1), .val (.long q2), .second, .val (.long q3), .second, .val (.long q4), .second, .val (.long q5), .second, .val (.int p6), .val (.int (3 : Int32)), .val (.int zm), .val (.long y1), .second, .val (.long y2), .second, .val (.long y3), .second, .val (.long y4), .second, .val (.double z1), .second, .val (.double z2), .second, .val (.double z3), .second, .val (.ref b45), .val (.int (own_v0_168a zm)), .val (.int (own_v0_205 zm)), .unset] [(.int (1 : Int32))])) (fun t kt => ?_) ?_
          · skip
            show Steps p.tables e below (T49.setTop (mkF m 230 #[.val (.int p1), .val (.long q2), .second, .val (.long q3), .second, .val (.long q4), .second, .val (.long q5), .second, .val (.int p6), .val (.int (3 : Int32)), .val (.int zm), .val (.long y1), .second, .val (.long y2), .second, .val (.long y3), .second, .val (.long y4), .second, .val (.double z1), .second, .val (.double z2), .second, .val (.double z3), .second, .val (.ref b45), .val (.int (own_v0_168a zm)), .val (.int (own_v0_205 zm)), .unset] [(.int (3 : Int32)), (.int (3 : Int32))])) _
            refine XS.icmpNo X49.here hx rfl (hb hby at_230) rfl (teq (by decide : (3 : Int32) = (3 : Int32))).2 ?_
            show Steps p.tables e below (T49.setTop (mkF m 233 #[.val (.int p1), .val (.long q2), .second, .val (.long q3), .second, .val (.long q4), .second, .val (.long q5), .second, .val (.int p6), .val (.int (3 : Int32)), .val (.int zm), .val (.long y1), .second, .val (.long y2), .second, .val (.long y3), .second, .val (.long y4), .second, .val (.double z1), .second, .val (.double z2), .second, .val (.double z3), .second, .val (.ref b45), .val (.int (own_v0_168a zm)), .val (.int (own_v0_205 zm)), .unset] [])) _
            refine XS.iconst X49.here hx rfl (hb hby at_233) ?_
            show Steps p.tables e below (T49.setTop (mkF m 234 #[.val (.int p1), .val (.long q2), .second, .val (.long q3), .second, .val (.long q4), .second, .val (.long q5), .second, .val (.int p6), .val (.int (3 : Int32)), .val (.int zm), .val (.long y1), .second, .val (.long y2), .second, .val (.long y3), .second, .val (.long y4), .second, .val (.double z1), .second, .val (.double z2), .second, .val (.double z3), .second, .val (.ref b45), .val (.int (own_v0_168a zm)), .val (.int (own_v0_205 zm)), .unset] [(.int (1 : Int32))])) _
            refine XS.goto X49.here hx rfl (pc0 := 234) (pc' := 238) rfl (hb hby at_234) (by decide) (by decide) ?_
            show Steps p.tables e below (T49.setTop (mkF m 238 #[.val (.int p1), .val (.long q2), .second, .val (.long q3), .second, .val (.long q4), .second, .val (.long q5), .second, .val (.int p6), .val (.int (3 : Int32)), .val (.int zm), .val (.long y1), .second, .val (.long y2), .second, .val (.long y3), .second, .val (.long y4), .second, .val (.double z1), .second, .val (.double z2), .second, .val (.double z3), .second, .val (.ref b45), .val (.int (own_v0_168a zm)), .val (.int (own_v0_205 zm)), .unset] [(.int (1 : Int32))])) _
            exact kt
          show own_Go p.tables e below _ (T49.setTop (mkF m 238 #[.val (.int p1), .val (.long q2), .second, .val (.long q3), .second, .val (.long q4), .second, .val (.long q5), .second, .val (.int p6), .val (.int (3 : Int32)), .val (.int zm), .val (.long y1), .second, .val (.long y2), .second, .val (.long y3), .second, .val (.long y4), .second, .val (.double z1), .second, .val (.double z2), .second, .val (.double z3), .second, .val (.ref b45), .val (.int (own_v0_168a zm)), .val (.int (own_v0_205 zm)), .unset] [(.int (1 : Int32))]))
          refine own_go (fun _ => XS.istore X49.here hx rfl (hb hby at_238) rfl (l' := #[.val (.int p1), .val (.long q2), .second, .val (.long q3), .second, .val (.long q4), .second, .val (.long q5), .second, .val (.int p6), .val (.int (3 : Int32)), .val (.int zm), .val (.long y1), .second, .val (.long y2), .second, .val (.long y3), .second, .val (.long y4), .second, .val (.double z1), .second, .val (.double z2), .second, .val (.double z3), .second, .val (.ref b45), .val (.int (own_v0_168a zm)), .val (.int (own_v0_205 zm)), .val (.int (1 : Int32))]) rfl) ?_
          show own_Go p.tables e below _ (T49.setTop (mkF m 240 #[.val (.int p1), .val (.long q2), .second, .val (.long q3), .second, .val (.long q4), .second, .val (.long q5), .second, .val (.int p6), .val (.int (3 : Int32)), .val (.int zm), .val (.long y1), .second, .val (.long y2), .second, .val (.long y3), .second, .val (.long y4), .second, .val (.double z1), .second, .val (.double z2), .second, .val (.double z3), .second, .val (.ref b45), .val (.int (own_v0_168a zm)), .val (.int (own_v0_205 zm)), .val (.int (1 : Int32))] []))
          refine own_go (fun _ => XS.aload X49.here hx rfl (hb hby at_240) rfl rfl) ?_
          show own_Go p.tables e below _ (T49.setTop (mkF m 242 #[.val (.int p1), .val (.long q2), .second, .val (.long q3), .second, .val (.long q4), .second, .val (.long q5), .second, .val (.int p6), .val (.int (3 : Int32)), .val (.int zm), .val (.long y1), .second, .val (.long y2), .second, .val (.long y3), .second, .val (.long y4), .second, .val (.double z1), .second, .val (.double z2), .second, .val (.double z3), .second, .val (.ref b45), .val (.int (own_v0_168a zm)), .val (.int (own_v0_205 zm)), .val (.int (1 : Int32))] [(.ref b45)]))
          refine own_go (fun _ => XS.lload X49.here hx rfl (hb hby at_242) rfl) ?_
          show own_Go p.tables e below _ (T49.setTop (mkF m 244 #[.val (.int p1), .val (.long q2), .second, .val (.long q3), .second, .val (.long q4), .second, .val (.long q5), .second, .val (.int p6), .val (.int (3 : Int32)), .val (.int zm), .val (.long y1), .second, .val (.long y2), .second, .val (.long y3), .second, .val (.long y4), .second, .val (.double z1), .second, .val (.double z2), .second, .val (.double z3), .second, .val (.ref b45), .val (.int (own_v0_168a zm)), .val (.int (own_v0_205 zm)), .val (.int (1 : Int32))] [(.long y1), (.ref b45)]))
          obtain ⟨cq52, kq52, q52a, q52b, q52c⟩ := isOf hZ rfl F49_0
          obtain ⟨v52, T52, L52, X52, hQ52, st52⟩ := own_tidyV X49 (X49.virtualBack hx (y := (⟨"com/example/outis/outis/clustering/KeptCharges", "get", "(J)D"⟩ : MethodName)) (z := (⟨"com/example/outis/outis/clustering/KeptCharges", "get", "(J)D"⟩ : MethodName)) hown (mvT hZ (hw _ (List.mem_of_getElem? (i := 34) rfl))) (mvT hZ (hw _ (List.mem_of_getElem? (i := 35) rfl))) (notFace_of_selects (args := #[]) (mvT hZ (hw _ (List.mem_of_getElem? (i := 37) rfl)))) (mvT hZ (hw _ (List.mem_of_getElem? (i := 37) rfl))) (mvT hZ (hw _ (List.mem_of_getElem? (i := 36) rfl))) (by decide) (backOf (W := 0) (rm6 l Z a0 hw [] b45 y1 e46_0 e46_1 fk3 gk3 kc46_0 kc46_1 T49.heap n0 (Nat.le_trans (Nat.le_trans (Nat.le_trans (Nat.le_trans (Nat.le_trans Z0 E45.1) Kc46.1) Kc47.1) Kc48.1) Kc49.1) F49_3 F49_4 F49_5 F49_0 F49_6 F49_7 (own_J.fin J3 own_le3 _)) hZ (hw _ (List.mem_of_getElem? (i := 38) rfl)) (hw _ (List.mem_of_getElem? (i := 3) rfl)) (by decide) (by decide)) q52a q52c (g := (mkF m 244 #[.val (.int p1), .val (.long q2), .second, .val (.long q3), .second, .val (.long q4), .second, .val (.long q5), .second, .val (.int p6), .val (.int (3 : Int32)), .val (.int zm), .val (.long y1), .second, .val (.long y2), .second, .val (.long y3), .second, .val (.long y4), .second, .val (.double z1), .second, .val (.double z2), .second, .val (.double z3), .second, .val (.ref b45), .val (.int (own_v0_168a zm)), .val (.int (own_v0_205 zm)), .val (.int (1 : Int32))] [(.long y1), (.ref b45)])) rfl (by rw [hml]; rfl) (Steps.refl _) (argsL := [(.long y1)]) (rest := []) (lenOf pd_4 rfl) rfl (by show 2 * 0 + _ ≤ _; exact Nat.le_of_eq rfl) (hb hby at_244) (fun _ _ => ⟨rfl, rfl, (by decide : 3 + 0 ≤ _), (by decide : 37 + 0 ≤ _)⟩)) (c' := 3) (n' := 37) rfl rfl
          obtain ⟨rfl, N52q, e52⟩ := hQ52
          have N52 := Fr.app N49 N52q
          refine own_via st52 ?_
          show own_Go p.tables e below _ (T52.setTop (mkF m 247 #[.val (.int p1), .val (.long q2), .second, .val (.long q3), .second, .val (.long q4), .second, .val (.long q5), .second, .val (.int p6), .val (.int (3 : Int32)), .val (.int zm), .val (.long y1), .second, .val (.long y2), .second, .val (.long y3), .second, .val (.long y4), .second, .val (.double z1), .second, .val (.double z2), .second, .val (.double z3), .second, .val (.ref b45), .val (.int (own_v0_168a zm)), .val (.int (own_v0_205 zm)), .val (.int (1 : Int32))] [(.double (own_f6 y1 fk3 gk3))]))
          refine own_go (fun _ => XS.lload X52.here hx rfl (hb hby at_247) rfl) ?_
          show own_Go p.tables e below _ (T52.setTop (mkF m 249 #[.val (.int p1), .val (.long q2), .second, .val (.long q3), .second, .val (.long q4), .second, .val (.long q5), .second, .val (.int p6), .val (.int (3 : Int32)), .val (.int zm), .val (.long y1), .second, .val (.long y2), .second, .val (.long y3), .second, .val (.long y4), .second, .val (.double z1), .second, .val (.double z2), .second, .val (.double z3), .second, .val (.ref b45), .val (.int (own_v0_168a zm)), .val (.int (own_v0_205 zm)), .val (.int (1 : Int32))] [(.long y1), (.double (own_f6 y1 fk3 gk3))]))
          refine own_go (fun _ => XS.iload X52.here hx rfl (hb hby at_249) rfl) ?_
          show own_Go p.tables e below _ (T52.setTop (mkF m 251 #[.val (.int p1), .val (.long q2), .second, .val (.long q3), .second, .val (.long q4), .second, .val (.long q5), .second, .val (.int p6), .val (.int (3 : Int32)), .val (.int zm), .val (.long y1), .second, .val (.long y2), .second, .val (.long y3), .second, .val (.long y4), .second, .val (.double z1), .second, .val (.double z2), .second, .val (.double z3), .second, .val (.ref b45), .val (.int (own_v0_168a zm)), .val (.int (own_v0_205 zm)), .val (.int (1 : Int32))] [(.int (own_v0_168a zm)), (.long y1), (.double (own_f6 y1 fk3 gk3))]))
          refine own_go (fun _ => XS.lload X52.here hx rfl (hb hby at_251) rfl) ?_
          show own_Go p.tables e below _ (T52.setTop (mkF m 253 #[.val (.int p1), .val (.long q2), .second, .val (.long q3), .second, .val (.long q4), .second, .val (.long q5), .second, .val (.int p6), .val (.int (3 : Int32)), .val (.int zm), .val (.long y1), .second, .val (.long y2), .second, .val (.long y3), .second, .val (.long y4), .second, .val (.double z1), .second, .val (.double z2), .second, .val (.double z3), .second, .val (.ref b45), .val (.int (own_v0_168a zm)), .val (.int (own_v0_205 zm)), .val (.int (1 : Int32))] [(.long y1), (.int (own_v0_168a zm)), (.long y1), (.double (own_f6 y1 fk3 gk3))]))
          refine own_go (fun _ => XS.dload X52.here hx rfl (hb hby at_253) rfl) ?_
          show own_Go p.tables e below _ (T52.setTop (mkF m 255 #[.val (.int p1), .val (.long q2), .second, .val (.long q3), .second, .val (.long q4), .second, .val (.long q5), .second, .val (.int p6), .val (.int (3 : Int32)), .val (.int zm), .val (.long y1), .second, .val (.long y2), .second, .val (.long y3), .second, .val (.long y4), .second, .val (.double z1), .second, .val (.double z2), .second, .val (.double z3), .second, .val (.ref b45), .val (.int (own_v0_168a zm)), .val (.int (own_v0_205 zm)), .val (.int (1 : Int32))] [(.double z1), (.long y1), (.int (own_v0_168a zm)), (.long y1), (.double (own_f6 y1 fk3 gk3))]))
          refine own_go (fun _ => XS.iload X52.here hx rfl (hb hby at_255) rfl) ?_
          show own_Go p.tables e below _ (T52.setTop (mkF m 257 #[.val (.int p1), .val (.long q2), .second, .val (.long q3), .second, .val (.long q4), .second, .val (.long q5), .second, .val (.int p6), .val (.int (3 : Int32)), .val (.int zm), .val (.long y1), .second, .val (.long y2), .second, .val (.long y3), .second, .val (.long y4), .second, .val (.double z1), .second, .val (.double z2), .second, .val (.double z3), .second, .val (.ref b45), .val (.int (own_v0_168a zm)), .val (.int (own_v0_205 zm)), .val (.int (1 : Int32))] [(.int (own_v0_205 zm)), (.double z1), (.long y1), (.int (own_v0_168a zm)), (.long y1), (.double (own_f6 y1 fk3 gk3))]))
          refine own_go (fun _ => XS.lload X52.here hx rfl (hb hby at_257) rfl) ?_
          show own_Go p.tables e below _ (T52.setTop (mkF m 259 #[.val (.int p1), .val (.long q2), .second, .val (.long q3), .second, .val (.long q4), .second, .val (.long q5), .second, .val (.int p6), .val (.int (3 : Int32)), .val (.int zm), .val (.long y1), .second, .val (.long y2), .second, .val (.long y3), .second, .val (.long y4), .second, .val (.double z1), .second, .val (.double z2), .second, .val (.double z3), .second, .val (.ref b45), .val (.int (own_v0_168a zm)), .val (.int (own_v0_205 zm)), .val (.int (1 : Int32))] [(.long y2), (.int (own_v0_205 zm)), (.double z1), (.long y1), (.int (own_v0_168a zm)), (.long y1), (.double (own_f6 y1 fk3 gk3))]))
          refine own_go (fun _ => XS.dload X52.here hx rfl (hb hby at_259) rfl) ?_
          show own_Go p.tables e below _ (T52.setTop (mkF m 261 #[.val (.int p1), .val (.long q2), .second, .val (.long q3), .second, .val (.long q4), .second, .val (.long q5), .second, .val (.int p6), .val (.int (3 : Int32)), .val (.int zm), .val (.long y1), .second, .val (.long y2), .second, .val (.long y3), .second, .val (.long y4), .second, .val (.double z1), .second, .val (.double z2), .second, .val (.double z3), .second, .val (.ref b45), .val (.int (own_v0_168a zm)), .val (.int (own_v0_205 zm)), .val (.int (1 : Int32))] [(.double z2), (.long y2), (.int (own_v0_205 zm)), (.double z1), (.long y1), (.int (own_v0_168a zm)), (.long y1), (.double (own_f6 y1 fk3 gk3))]))
          refine own_go (fun _ => XS.iload X52.here hx rfl (hb hby at_261) rfl) ?_
          show own_Go p.tables e below _ (T52.setTop (mkF m 263 #[.val (.int p1), .val (.long q2), .second, .val (.long q3), .second, .val (.long q4), .second, .val (.long q5), .second, .val (.int p6), .val (.int (3 : Int32)), .val (.int zm), .val (.long y1), .second, .val (.long y2), .second, .val (.long y3), .second, .val (.long y4), .second, .val (.double z1), .second, .val (.double z2), .second, .val (.double z3), .second, .val (.ref b45), .val (.int (own_v0_168a zm)), .val (.int (own_v0_205 zm)), .val (.int (1 : Int32))] [(.int (1 : Int32)), (.double z2), (.long y2), (.int (own_v0_205 zm)), (.double z1), (.long y1), (.int (own_v0_168a zm)), (.long y1), (.double (own_f6 y1 fk3 gk3))]))
          refine own_go (fun _ => XS.lload X52.here hx rfl (hb hby at_263) rfl) ?_
          show own_Go p.tables e below _ (T52.setTop (mkF m 265 #[.val (.int p1), .val (.long q2), .second, .val (.long q3), .second, .val (.long q4), .second, .val (.long q5), .second, .val (.int p6), .val (.int (3 : Int32)), .val (.int zm), .val (.long y1), .second, .val (.long y2), .second, .val (.long y3), .second, .val (.long y4), .second, .val (.double z1), .second, .val (.double z2), .second, .val (.double z3), .second, .val (.ref b45), .val (.int (own_v0_168a zm)), .val (.int (own_v0_205 zm)), .val (.int (1 : Int32))] [(.long y3), (.int (1 : Int32)), (.double z2), (.long y2), (.int (own_v0_205 zm)), (.double z1), (.long y1), (.int (own_v0_168a zm)), (.long y1), (.double (own_f6 y1 fk3 gk3))]))
          refine own_go (fun _ => XS.dload X52.here hx rfl (hb hby at_265) rfl) ?_
          show own_Go p.tables e below _ (T52.setTop (mkF m 267 #[.val (.int p1), .val (.long q2), .second, .val (.long q3), .second, .val (.long q4), .second, .val (.long q5), .second, .val (.int p6), .val (.int (3 : Int32)), .val (.int zm), .val (.long y1), .second, .val (.long y2), .second, .val (.long y3), .second, .val (.long y4), .second, .val (.double z1), .second, .val (.double z2), .second, .val (.double z3), .second, .val (.ref b45), .val (.int (own_v0_168a zm)), .val (.int (own_v0_205 zm)), .val (.int (1 : Int32))] [(.double z3), (.long y3), (.int (1 : Int32)), (.double z2), (.long y2), (.int (own_v0_205 zm)), (.double z1), (.long y1), (.int (own_v0_168a zm)), (.long y1), (.double (own_f6 y1 fk3 gk3))]))
          obtain ⟨v53, T53, L53, X53, hQ53, st53⟩ := own_tidyS X52 (Jvm.LawKit.callS X52 hx (y := (⟨"com/example/outis/outis/clustering/KeptChargesGetPinLaw", "check", "(DJZJDZJDZJD)Z"⟩ : MethodName)) hown (mvT hZ (hw _ (List.mem_of_getElem? (i := 45) rfl))) (mvT hZ (hw _ (List.mem_of_getElem? (i := 46) rfl))) (mvT hZ (hw _ (List.mem_of_getElem? (i := 47) rfl))) (mvT hZ (hw _ (List.mem_of_getElem? (i := 48) rfl))) (by decide) (backOf (W := 0) (rm8 l Z a0 hw [] (own_f6 y1 fk3 gk3) y1 (own_v0_168a zm) y1 z1 (own_v0_205 zm) y2 z2 (1 : Int32) y3 z3 T49.heap n0 (Nat.le_trans (Nat.le_trans (Nat.le_trans (Nat.le_trans (Nat.le_trans Z0 E45.1) Kc46.1) Kc47.1) Kc48.1) Kc49.1) ) hZ (hw _ (List.mem_of_getElem? (i := 48) rfl)) (hw _ (List.mem_of_getElem? (i := 47) rfl)) (by decide) (by decide)) (g := (mkF m 267 #[.val (.int p1), .val (.long q2), .second, .val (.long q3), .second, .val (.long q4), .second, .val (.long q5), .second, .val (.int p6), .val (.int (3 : Int32)), .val (.int zm), .val (.long y1), .second, .val (.long y2), .second, .val (.long y3), .second, .val (.long y4), .second, .val (.double z1), .second, .val (.double z2), .second, .val (.double z3), .second, .val (.ref b45), .val (.int (own_v0_168a zm)), .val (.int (own_v0_205 zm)), .val (.int (1 : Int32))] [(.double z3), (.long y3), (.int (1 : Int32)), (.double z2), (.long y2), (.int (own_v0_205 zm)), (.double z1), (.long y1), (.int (own_v0_168a zm)), (.long y1), (.double (own_f6 y1 fk3 gk3))])) rfl (by rw [hml]; rfl) (argsL := [(.double (own_f6 y1 fk3 gk3)), (.long y1), (.int (own_v0_168a zm)), (.long y1), (.double z1), (.int (own_v0_205 zm)), (.long y2), (.double z2), (.int (1 : Int32)), (.long y3), (.double z3)]) (rest := []) (lenOf pd_6 rfl) rfl (by show 2 * 0 + _ ≤ _; exact Nat.le_of_eq rfl) (hb hby at_267) (fun _ _ => ⟨rfl, e52, (by decide : 3 + 0 ≤ _), (by decide : 37 + 0 ≤ _)⟩)) (c' := 3) (n' := 37) rfl rfl
          obtain ⟨rfl, N53q, e53⟩ := hQ53
          have N53 := Fr.app N52 N53q
          refine own_go st53 ?_
          show own_Go p.tables e below _ (T53.setTop (mkF m 270 #[.val (.int p1), .val (.long q2), .second, .val (.long q3), .second, .val (.long q4), .second, .val (.long q5), .second, .val (.int p6), .val (.int (3 : Int32)), .val (.int zm), .val (.long y1), .second, .val (.long y2), .second, .val (.long y3), .second, .val (.long y4), .second, .val (.double z1), .second, .val (.double z2), .second, .val (.double z3), .second, .val (.ref b45), .val (.int (own_v0_168a zm)), .val (.int (own_v0_205 zm)), .val (.int (1 : Int32))] [(.int (own_f8 (own_f6 y1 fk3 gk3) y1 (own_v0_168a zm) y1 z1 (own_v0_205 zm) y2 z2 (1 : Int32) y3 z3))]))
          refine own_go (fun _ => XS.ifNo X53.here hx rfl (hb hby at_270) rfl ((if0 _ _).trans (feq (own_ok3 hz4 J3 hy1 hz1 hz2 hz3)).1)) ?_
          show own_Go p.tables e below _ (T53.setTop (mkF m 273 #[.val (.int p1), .val (.long q2), .second, .val (.long q3), .second, .val (.long q4), .second, .val (.long q5), .second, .val (.int p6), .val (.int (3 : Int32)), .val (.int zm), .val (.long y1), .second, .val (.long y2), .second, .val (.long y3), .second, .val (.long y4), .second, .val (.double z1), .second, .val (.double z2), .second, .val (.double z3), .second, .val (.ref b45), .val (.int (own_v0_168a zm)), .val (.int (own_v0_205 zm)), .val (.int (1 : Int32))] []))
          refine own_go (fun _ => XS.aload X53.here hx rfl (hb hby at_273) rfl rfl) ?_
          show own_Go p.tables e below _ (T53.setTop (mkF m 275 #[.val (.int p1), .val (.long q2), .second, .val (.long q3), .second, .val (.long q4), .second, .val (.long q5), .second, .val (.int p6), .val (.int (3 : Int32)), .val (.int zm), .val (.long y1), .second, .val (.long y2), .second, .val (.long y3), .second, .val (.long y4), .second, .val (.double z1), .second, .val (.double z2), .second, .val (.double z3), .second, .val (.ref b45), .val (.int (own_v0_168a zm)), .val (.int (own_v0_205 zm)), .val (.int (1 : Int32))] [(.ref b45)]))
          refine own_go (fun _ => XS.lload X53.here hx rfl (hb hby at_275) rfl) ?_
          show own_Go p.tables e below _ (T53.setTop (mkF m 277 #[.val (.int p1), .val (.long q2), .second, .val (.long q3), .second, .val (.long q4), .second, .val (.long q5), .second, .val (.int p6), .val (.int (3 : Int32)), .val (.int zm), .val (.long y1), .second, .val (.long y2), .second, .val (.long y3), .second, .val (.long y4), .second, .val (.double z1), .second, .val (.double z2), .second, .val (.double z3), .second, .val (.ref b45), .val (.int (own_v0_168a zm)), .val (.int (own_v0_205 zm)), .val (.int (1 : Int32))] [(.long y2), (.ref b45)]))
          obtain ⟨cq54, kq54, q54a, q54b, q54c⟩ := isOf hZ e53 F49_0
          obtain ⟨v54, T54, L54, X54, hQ54, st54⟩ := own_tidyV X53 (X53.virtualBack hx (y := (⟨"com/example/outis/outis/clustering/KeptCharges", "get", "(J)D"⟩ : MethodName)) (z := (⟨"com/example/outis/outis/clustering/KeptCharges", "get", "(J)D"⟩ : MethodName)) hown (mvT hZ (hw _ (List.mem_of_getElem? (i := 34) rfl))) (mvT hZ (hw _ (List.mem_of_getElem? (i := 35) rfl))) (notFace_of_selects (args := #[]) (mvT hZ (hw _ (List.mem_of_getElem? (i := 37) rfl)))) (mvT hZ (hw _ (List.mem_of_getElem? (i := 37) rfl))) (mvT hZ (hw _ (List.mem_of_getElem? (i := 36) rfl))) (by decide) (backOf (W := 0) (rm6 l Z a0 hw [] b45 y2 e46_0 e46_1 fk3 gk3 kc46_0 kc46_1 T49.heap n0 (Nat.le_trans (Nat.le_trans (Nat.le_trans (Nat.le_trans (Nat.le_trans Z0 E45.1) Kc46.1) Kc47.1) Kc48.1) Kc49.1) F49_3 F49_4 F49_5 F49_0 F49_6 F49_7 (own_J.fin J3 own_le3 _)) hZ (hw _ (List.mem_of_getElem? (i := 38) rfl)) (hw _ (List.mem_of_getElem? (i := 3) rfl)) (by decide) (by decide)) q54a q54c (g := (mkF m 277 #[.val (.int p1), .val (.long q2), .second, .val (.long q3), .second, .val (.long q4), .second, .val (.long q5), .second, .val (.int p6), .val (.int (3 : Int32)), .val (.int zm), .val (.long y1), .second, .val (.long y2), .second, .val (.long y3), .second, .val (.long y4), .second, .val (.double z1), .second, .val (.double z2), .second, .val (.double z3), .second, .val (.ref b45), .val (.int (own_v0_168a zm)), .val (.int (own_v0_205 zm)), .val (.int (1 : Int32))] [(.long y2), (.ref b45)])) rfl (by rw [hml]; rfl) (Steps.refl _) (argsL := [(.long y2)]) (rest := []) (lenOf pd_4 rfl) rfl (by show 2 * 0 + _ ≤ _; exact Nat.le_of_eq rfl) (hb hby at_277) (fun _ _ => ⟨rfl, e53, (by decide : 3 + 0 ≤ _), (by decide : 37 + 0 ≤ _)⟩)) (c' := 3) (n' := 37) rfl rfl
          obtain ⟨rfl, N54q, e54⟩ := hQ54
          have N54 := Fr.app N53 N54q
          refine own_via st54 ?_
          show own_Go p.tables e below _ (T54.setTop (mkF m 280 #[.val (.int p1), .val (.long q2), .second, .val (.long q3), .second, .val (.long q4), .second, .val (.long q5), .second, .val (.int p6), .val (.int (3 : Int32)), .val (.int zm), .val (.long y1), .second, .val (.long y2), .second, .val (.long y3), .second, .val (.long y4), .second, .val (.double z1), .second, .val (.double z2), .second, .val (.double z3), .second, .val (.ref b45), .val (.int (own_v0_168a zm)), .val (.int (own_v0_205 zm)), .val (.int (1 : Int32))] [(.double (own_f6 y2 fk3 gk3))]))
          refine own_go (fun _ => XS.lload X54.here hx rfl (hb hby at_280) rfl) ?_
          show own_Go p.tables e below _ (T54.setTop (mkF m 282 #[.val (.int p1), .val (.long q2), .second, .val (.long q3), .second, .val (.long q4), .second, .val (.long q5), .second, .val (.int p6), .val (.int (3 : Int32)), .val (.int zm), .val (.long y1), .second, .val (.long y2), .second, .val (.long y3), .second, .val (.long y4), .second, .val (.double z1), .second, .val (.double z2), .second, .val (.double z3), .second, .val (.ref b45), .val (.int (own_v0_168a zm)), .val (.int (own_v0_205 zm)), .val (.int (1 : Int32))] [(.long y2), (.double (own_f6 y2 fk3 gk3))]))
          refine own_go (fun _ => XS.iload X54.here hx rfl (hb hby at_282) rfl) ?_
          show own_Go p.tables e below _ (T54.setTop (mkF m 284 #[.val (.int p1), .val (.long q2), .second, .val (.long q3), .second, .val (.long q4), .second, .val (.long q5), .second, .val (.int p6), .val (.int (3 : Int32)), .val (.int zm), .val (.long y1), .second, .val (.long y2), .second, .val (.long y3), .second, .val (.long y4), .second, .val (.double z1), .second, .val (.double z2), .second, .val (.double z3), .second, .val (.ref b45), .val (.int (own_v0_168a zm)), .val (.int (own_v0_205 zm)), .val (.int (1 : Int32))] [(.int (own_v0_168a zm)), (.long y2), (.double (own_f6 y2 fk3 gk3))]))
          refine own_go (fun _ => XS.lload X54.here hx rfl (hb hby at_284) rfl) ?_
          show own_Go p.tables e below _ (T54.setTop (mkF m 286 #[.val (.int p1), .val (.long q2), .second, .val (.long q3), .second, .val (.long q4), .second, .val (.long q5), .second, .val (.int p6), .val (.int (3 : Int32)), .val (.int zm), .val (.long y1), .second, .val (.long y2), .second, .val (.long y3), .second, .val (.long y4), .second, .val (.double z1), .second, .val (.double z2), .second, .val (.double z3), .second, .val (.ref b45), .val (.int (own_v0_168a zm)), .val (.int (own_v0_205 zm)), .val (.int (1 : Int32))] [(.long y1), (.int (own_v0_168a zm)), (.long y2), (.double (own_f6 y2 fk3 gk3))]))
          refine own_go (fun _ => XS.dload X54.here hx rfl (hb hby at_286) rfl) ?_
          show own_Go p.tables e below _ (T54.setTop (mkF m 288 #[.val (.int p1), .val (.long q2), .second, .val (.long q3), .second, .val (.long q4), .second, .val (.long q5), .second, .val (.int p6), .val (.int (3 : Int32)), .val (.int zm), .val (.long y1), .second, .val (.long y2), .second, .val (.long y3), .second, .val (.long y4), .second, .val (.double z1), .second, .val (.double z2), .second, .val (.double z3), .second, .val (.ref b45), .val (.int (own_v0_168a zm)), .val (.int (own_v0_205 zm)), .val (.int (1 : Int32))] [(.double z1), (.long y1), (.int (own_v0_168a zm)), (.long y2), (.double (own_f6 y2 fk3 gk3))]))
          refine own_go (fun _ => XS.iload X54.here hx rfl (hb hby at_288) rfl) ?_
          show own_Go p.tables e below _ (T54.setTop (mkF m 290 #[.val (.int p1), .val (.long q2), .second, .val (.long q3), .second, .val (.long q4), .second, .val (.long q5), .second, .val (.int p6), .val (.int (3 : Int32)), .val (.int zm), .val (.long y1), .second, .val (.long y2), .second, .val (.long y3), .second, .val (.long y4), .second, .val (.double z1), .second, .val (.double z2), .second, .val (.double z3), .second, .val (.ref b45), .val (.int (own_v0_168a zm)), .val (.int (own_v0_205 zm)), .val (.int (1 : Int32))] [(.int (own_v0_205 zm)), (.double z1), (.long y1), (.int (own_v0_168a zm)), (.long y2), (.double (own_f6 y2 fk3 gk3))]))
          refine own_go (fun _ => XS.lload X54.here hx rfl (hb hby at_290) rfl) ?_
          show own_Go p.tables e below _ (T54.setTop (mkF m 292 #[.val (.int p1), .val (.long q2), .second, .val (.long q3), .second, .val (.long q4), .second, .val (.long q5), .second, .val (.int p6), .val (.int (3 : Int32)), .val (.int zm), .val (.long y1), .second, .val (.long y2), .second, .val (.long y3), .second, .val (.long y4), .second, .val (.double z1), .second, .val (.double z2), .second, .val (.double z3), .second, .val (.ref b45), .val (.int (own_v0_168a zm)), .val (.int (own_v0_205 zm)), .val (.int (1 : Int32))] [(.long y2), (.int (own_v0_205 zm)), (.double z1), (.long y1), (.int (own_v0_168a zm)), (.long y2), (.double (own_f6 y2 fk3 gk3))]))
          refine own_go (fun _ => XS.dload X54.here hx rfl (hb hby at_292) rfl) ?_
          show own_Go p.tables e below _ (T54.setTop (mkF m 294 #[.val (.int p1), .val (.long q2), .second, .val (.long q3), .second, .val (.long q4), .second, .val (.long q5), .second, .val (.int p6), .val (.int (3 : Int32)), .val (.int zm), .val (.long y1), .second, .val (.long y2), .second, .val (.long y3), .second, .val (.long y4), .second, .val (.double z1), .second, .val (.double z2), .second, .val (.double z3), .second, .val (.ref b45), .val (.int (own_v0_168a zm)), .val (.int (own_v0_205 zm)), .val (.int (1 : Int32))] [(.double z2), (.long y2), (.int (own_v0_205 zm)), (.double z1), (.long y1), (.int (own_v0_168a zm)), (.long y2), (.double (own_f6 y2 fk3 gk3))]))
          refine own_go (fun _ => XS.iload X54.here hx rfl (hb hby at_294) rfl) ?_
          show own_Go p.tables e below _ (T54.setTop (mkF m 296 #[.val (.int p1), .val (.long q2), .second, .val (.long q3), .second, .val (.long q4), .second, .val (.long q5), .second, .val (.int p6), .val (.int (3 : Int32)), .val (.int zm), .val (.long y1), .second, .val (.long y2), .second, .val (.long y3), .second, .val (.long y4), .second, .val (.double z1), .second, .val (.double z2), .second, .val (.double z3), .second, .val (.ref b45), .val (.int (own_v0_168a zm)), .val (.int (own_v0_205 zm)), .val (.int (1 : Int32))] [(.int (1 : Int32)), (.double z2), (.long y2), (.int (own_v0_205 zm)), (.double z1), (.long y1), (.int (own_v0_168a zm)), (.long y2), (.double (own_f6 y2 fk3 gk3))]))
          refine own_go (fun _ => XS.lload X54.here hx rfl (hb hby at_296) rfl) ?_
          show own_Go p.tables e below _ (T54.setTop (mkF m 298 #[.val (.int p1), .val (.long q2), .second, .val (.long q3), .second, .val (.long q4), .second, .val (.long q5), .second, .val (.int p6), .val (.int (3 : Int32)), .val (.int zm), .val (.long y1), .second, .val (.long y2), .second, .val (.long y3), .second, .val (.long y4), .second, .val (.double z1), .second, .val (.double z2), .second, .val (.double z3), .second, .val (.ref b45), .val (.int (own_v0_168a zm)), .val (.int (own_v0_205 zm)), .val (.int (1 : Int32))] [(.long y3), (.int (1 : Int32)), (.double z2), (.long y2), (.int (own_v0_205 zm)), (.double z1), (.long y1), (.int (own_v0_168a zm)), (.long y2), (.double (own_f6 y2 fk3 gk3))]))
          refine own_go (fun _ => XS.dload X54.here hx rfl (hb hby at_298) rfl) ?_
          show own_Go p.tables e below _ (T54.setTop (mkF m 300 #[.val (.int p1), .val (.long q2), .second, .val (.long q3), .second, .val (.long q4), .second, .val (.long q5), .second, .val (.int p6), .val (.int (3 : Int32)), .val (.int zm), .val (.long y1), .second, .val (.long y2), .second, .val (.long y3), .second, .val (.long y4), .second, .val (.double z1), .second, .val (.double z2), .second, .val (.double z3), .second, .val (.ref b45), .val (.int (own_v0_168a zm)), .val (.int (own_v0_205 zm)), .val (.int (1 : Int32))] [(.double z3), (.long y3), (.int (1 : Int32)), (.double z2), (.long y2), (.int (own_v0_205 zm)), (.double z1), (.long y1), (.int (own_v0_168a zm)), (.long y2), (.double (own_f6 y2 fk3 gk3))]))
          obtain ⟨v55, T55, L55, X55, hQ55, st55⟩ := own_tidyS X54 (Jvm.LawKit.callS X54 hx (y := (⟨"com/example/outis/outis/clustering/KeptChargesGetPinLaw", "check", "(DJZJDZJDZJD)Z"⟩ : MethodName)) hown (mvT hZ (hw _ (List.mem_of_getElem? (i := 45) rfl))) (mvT hZ (hw _ (List.mem_of_getElem? (i := 46) rfl))) (mvT hZ (hw _ (List.mem_of_getElem? (i := 47) rfl))) (mvT hZ (hw _ (List.mem_of_getElem? (i := 48) rfl))) (by decide) (backOf (W := 0) (rm8 l Z a0 hw [] (own_f6 y2 fk3 gk3) y2 (own_v0_168a zm) y1 z1 (own_v0_205 zm) y2 z2 (1 : Int32) y3 z3 T49.heap n0 (Nat.le_trans (Nat.le_trans (Nat.le_trans (Nat.le_trans (Nat.le_trans Z0 E45.1) Kc46.1) Kc47.1) Kc48.1) Kc49.1) ) hZ (hw _ (List.mem_of_getElem? (i := 48) rfl)) (hw _ (List.mem_of_getElem? (i := 47) rfl)) (by decide) (by decide)) (g := (mkF m 300 #[.val (.int p1), .val (.long q2), .second, .val (.long q3), .second, .val (.long q4), .second, .val (.long q5), .second, .val (.int p6), .val (.int (3 : Int32)), .val (.int zm), .val (.long y1), .second, .val (.long y2), .second, .val (.long y3), .second, .val (.long y4), .second, .val (.double z1), .second, .val (.double z2), .second, .val (.double z3), .second, .val (.ref b45), .val (.int (own_v0_168a zm)), .val (.int (own_v0_205 zm)), .val (.int (1 : Int32))] [(.double z3), (.long y3), (.int (1 : Int32)), (.double z2), (.long y2), (.int (own_v0_205 zm)), (.double z1), (.long y1), (.int (own_v0_168a zm)), (.long y2), (.double (own_f6 y2 fk3 gk3))])) rfl (by rw [hml]; rfl) (argsL := [(.double (own_f6 y2 fk3 gk3)), (.long y2), (.int (own_v0_168a zm)), (.long y1), (.double z1), (.int (own_v0_205 zm)), (.long y2), (.double z2), (.int (1 : Int32)), (.long y3), (.double z3)]) (rest := []) (lenOf pd_6 rfl) rfl (by show 2 * 0 + _ ≤ _; exact Nat.le_of_eq rfl) (hb hby at_300) (fun _ _ => ⟨rfl, e54, (by decide : 3 + 0 ≤ _), (by decide : 37 + 0 ≤ _)⟩)) (c' := 3) (n' := 37) rfl rfl
          obtain ⟨rfl, N55q, e55⟩ := hQ55
          have N55 := Fr.app N54 N55q
          refine own_go st55 ?_
          show own_Go p.tables e below _ (T55.setTop (mkF m 303 #[.val (.int p1), .val (.long q2), .second, .val (.long q3), .second, .val (.long q4), .second, .val (.long q5), .second, .val (.int p6), .val (.int (3 : Int32)), .val (.int zm), .val (.long y1), .second, .val (.long y2), .second, .val (.long y3), .second, .val (.long y4), .second, .val (.double z1), .second, .val (.double z2), .second, .val (.double z3), .second, .val (.ref b45), .val (.int (own_v0_168a zm)), .val (.int (own_v0_205 zm)), .val (.int (1 : Int32))] [(.int (own_f8 (own_f6 y2 fk3 gk3) y2 (own_v0_168a zm) y1 z1 (own_v0_205 zm) y2 z2 (1 : Int32) y3 z3))]))
          refine own_go (fun _ => XS.ifNo X55.here hx rfl (hb hby at_303) rfl ((if0 _ _).trans (feq (own_ok3 hz4 J3 hy2 hz1 hz2 hz3)).1)) ?_
          show own_Go p.tables e below _ (T55.setTop (mkF m 306 #[.val (.int p1), .val (.long q2), .second, .val (.long q3), .second, .val (.long q4), .second, .val (.long q5), .second, .val (.int p6), .val (.int (3 : Int32)), .val (.int zm), .val (.long y1), .second, .val (.long y2), .second, .val (.long y3), .second, .val (.long y4), .second, .val (.double z1), .second, .val (.double z2), .second, .val (.double z3), .second, .val (.ref b45), .val (.int (own_v0_168a zm)), .val (.int (own_v0_205 zm)), .val (.int (1 : Int32))] []))
          refine own_go (fun _ => XS.aload X55.here hx rfl (hb hby at_306) rfl rfl) ?_
          show own_Go p.tables e below _ (T55.setTop (mkF m 308 #[.val (.int p1), .val (.long q2), .second, .val (.long q3), .second, .val (.long q4), .second, .val (.long q5), .second, .val (.int p6), .val (.int (3 : Int32)), .val (.int zm), .val (.long y1), .second, .val (.long y2), .second, .val (.long y3), .second, .val (.long y4), .second, .val (.double z1), .second, .val (.double z2), .second, .val (.double z3), .second, .val (.ref b45), .val (.int (own_v0_168a zm)), .val (.int (own_v0_205 zm)), .val (.int (1 : Int32))] [(.ref b45)]))
          refine own_go (fun _ => XS.lload X55.here hx rfl (hb hby at_308) rfl) ?_
          show own_Go p.tables e below _ (T55.setTop (mkF m 310 #[.val (.int p1), .val (.long q2), .second, .val (.long q3), .second, .val (.long q4), .second, .val (.long q5), .second, .val (.int p6), .val (.int (3 : Int32)), .val (.int zm), .val (.long y1), .second, .val (.long y2), .second, .val (.long y3), .second, .val (.long y4), .second, .val (.double z1), .second, .val (.double z2), .second, .val (.double z3), .second, .val (.ref b45), .val (.int (own_v0_168a zm)), .val (.int (own_v0_205 zm)), .val (.int (1 : Int32))] [(.long y3), (.ref b45)]))
          obtain ⟨cq56, kq56, q56a, q56b, q56c⟩ := isOf hZ e55 F49_0
          obtain ⟨v56, T56, L56, X56, hQ56, st56⟩ := own_tidyV X55 (X55.virtualBack hx (y := (⟨"com/example/outis/outis/clustering/KeptCharges", "get", "(J)D"⟩ : MethodName)) (z := (⟨"com/example/outis/outis/clustering/KeptCharges", "get", "(J)D"⟩ : MethodName)) hown (mvT hZ (hw _ (List.mem_of_getElem? (i := 34) rfl))) (mvT hZ (hw _ (List.mem_of_getElem? (i := 35) rfl))) (notFace_of_selects (args := #[]) (mvT hZ (hw _ (List.mem_of_getElem? (i := 37) rfl)))) (mvT hZ (hw _ (List.mem_of_getElem? (i := 37) rfl))) (mvT hZ (hw _ (List.mem_of_getElem? (i := 36) rfl))) (by decide) (backOf (W := 0) (rm6 l Z a0 hw [] b45 y3 e46_0 e46_1 fk3 gk3 kc46_0 kc46_1 T49.heap n0 (Nat.le_trans (Nat.le_trans (Nat.le_trans (Nat.le_trans (Nat.le_trans Z0 E45.1) Kc46.1) Kc47.1) Kc48.1) Kc49.1) F49_3 F49_4 F49_5 F49_0 F49_6 F49_7 (own_J.fin J3 own_le3 _)) hZ (hw _ (List.mem_of_getElem? (i := 38) rfl)) (hw _ (List.mem_of_getElem? (i := 3) rfl)) (by decide) (by decide)) q56a q56c (g := (mkF m 310 #[.val (.int p1), .val (.long q2), .second, .val (.long q3), .second, .val (.long q4), .second, .val (.long q5), .second, .val (.int p6), .val (.int (3 : Int32)), .val (.int zm), .val (.long y1), .second, .val (.long y2), .second, .val (.long y3), .second, .val (.long y4), .second, .val (.double z1), .second, .val (.double z2), .second, .val (.double z3), .second, .val (.ref b45), .val (.int (own_v0_168a zm)), .val (.int (own_v0_205 zm)), .val (.int (1 : Int32))] [(.long y3), (.ref b45)])) rfl (by rw [hml]; rfl) (Steps.refl _) (argsL := [(.long y3)]) (rest := []) (lenOf pd_4 rfl) rfl (by show 2 * 0 + _ ≤ _; exact Nat.le_of_eq rfl) (hb hby at_310) (fun _ _ => ⟨rfl, e55, (by decide : 3 + 0 ≤ _), (by decide : 37 + 0 ≤ _)⟩)) (c' := 3) (n' := 37) rfl rfl
          obtain ⟨rfl, N56q, e56⟩ := hQ56
          have N56 := Fr.app N55 N56q
          refine own_via st56 ?_
          show own_Go p.tables e below _ (T56.setTop (mkF m 313 #[.val (.int p1), .val (.long q2), .second, .val (.long q3), .second, .val (.long q4), .second, .val (.long q5), .second, .val (.int p6), .val (.int (3 : Int32)), .val (.int zm), .val (.long y1), .second, .val (.long y2), .second, .val (.long y3), .second, .val (.long y4), .second, .val (.double z1), .second, .val (.double z2), .second, .val (.double z3), .second, .val (.ref b45), .val (.int (own_v0_168a zm)), .val (.int (own_v0_205 zm)), .val (.int (1 : Int32))] [(.double (own_f6 y3 fk3 gk3))]))
          refine own_go (fun _ => XS.lload X56.here hx rfl (hb hby at_313) rfl) ?_
          show own_Go p.tables e below _ (T56.setTop (mkF m 315 #[.val (.int p1), .val (.long q2), .second, .val (.long q3), .second, .val (.long q4), .second, .val (.long q5), .second, .val (.int p6), .val (.int (3 : Int32)), .val (.int zm), .val (.long y1), .second, .val (.long y2), .second, .val (.long y3), .second, .val (.long y4), .second, .val (.double z1), .second, .val (.double z2), .second, .val (.double z3), .second, .val (.ref b45), .val (.int (own_v0_168a zm)), .val (.int (own_v0_205 zm)), .val (.int (1 : Int32))] [(.long y3), (.double (own_f6 y3 fk3 gk3))]))
          refine own_go (fun _ => XS.iload X56.here hx rfl (hb hby at_315) rfl) ?_
          show own_Go p.tables e below _ (T56.setTop (mkF m 317 #[.val (.int p1), .val (.long q2), .second, .val (.long q3), .second, .val (.long q4), .second, .val (.long q5), .second, .val (.int p6), .val (.int (3 : Int32)), .val (.int zm), .val (.long y1), .second, .val (.long y2), .second, .val (.long y3), .second, .val (.long y4), .second, .val (.double z1), .second, .val (.double z2), .second, .val (.double z3), .second, .val (.ref b45), .val (.int (own_v0_168a zm)), .val (.int (own_v0_205 zm)), .val (.int (1 : Int32))] [(.int (own_v0_168a zm)), (.long y3), (.double (own_f6 y3 fk3 gk3))]))
          refine own_go (fun _ => XS.lload X56.here hx rfl (hb hby at_317) rfl) ?_
          show own_Go p.tables e below _ (T56.setTop (mkF m 319 #[.val (.int p1), .val (.long q2), .second, .val (.long q3), .second, .val (.long q4), .second, .val (.long q5), .second, .val (.int p6), .val (.int (3 : Int32)), .val (.int zm), .val (.long y1), .second, .val (.long y2), .second, .val (.long y3), .second, .val (.long y4), .second, .val (.double z1), .second, .val (.double z2), .second, .val (.double z3), .second, .val (.ref b45), .val (.int (own_v0_168a zm)), .val (.int (own_v0_205 zm)), .val (.int (1 : Int32))] [(.long y1), (.int (own_v0_168a zm)), (.long y3), (.double (own_f6 y3 fk3 gk3))]))
          refine own_go (fun _ => XS.dload X56.here hx rfl (hb hby at_319) rfl) ?_
          show own_Go p.tables e below _ (T56.setTop (mkF m 321 #[.val (.int p1), .val (.long q2), .second, .val (.long q3), .second, .val (.long q4), .second, .val (.long q5), .second, .val (.int p6), .val (.int (3 : Int32)), .val (.int zm), .val (.long y1), .second, .val (.long y2), .second, .val (.long y3), .second, .val (.long y4), .second, .val (.double z1), .second, .val (.double z2), .second, .val (.double z3), .second, .val (.ref b45), .val (.int (own_v0_168a zm)), .val (.int (own_v0_205 zm)), .val (.int (1 : Int32))] [(.double z1), (.long y1), (.int (own_v0_168a zm)), (.long y3), (.double (own_f6 y3 fk3 gk3))]))
          refine own_go (fun _ => XS.iload X56.here hx rfl (hb hby at_321) rfl) ?_
          show own_Go p.tables e below _ (T56.setTop (mkF m 323 #[.val (.int p1), .val (.long q2), .second, .val (.long q3), .second, .val (.long q4), .second, .val (.long q5), .second, .val (.int p6), .val (.int (3 : Int32)), .val (.int zm), .val (.long y1), .second, .val (.long y2), .second, .val (.long y3), .second, .val (.long y4), .second, .val (.double z1), .second, .val (.double z2), .second, .val (.double z3), .second, .val (.ref b45), .val (.int (own_v0_168a zm)), .val (.int (own_v0_205 zm)), .val (.int (1 : Int32))] [(.int (own_v0_205 zm)), (.double z1), (.long y1), (.int (own_v0_168a zm)), (.long y3), (.double (own_f6 y3 fk3 gk3))]))
          refine own_go (fun _ => XS.lload X56.here hx rfl (hb hby at_323) rfl) ?_
          show own_Go p.tables e below _ (T56.setTop (mkF m 325 #[.val (.int p1), .val (.long q2), .second, .val (.long q3), .second, .val (.long q4), .second, .val (.long q5), .second, .val (.int p6), .val (.int (3 : Int32)), .val (.int zm), .val (.long y1), .second, .val (.long y2), .second, .val (.long y3), .second, .val (.long y4), .second, .val (.double z1), .second, .val (.double z2), .second, .val (.double z3), .second, .val (.ref b45), .val (.int (own_v0_168a zm)), .val (.int (own_v0_205 zm)), .val (.int (1 : Int32))] [(.long y2), (.int (own_v0_205 zm)), (.double z1), (.long y1), (.int (own_v0_168a zm)), (.long y3), (.double (own_f6 y3 fk3 gk3))]))
          refine own_go (fun _ => XS.dload X56.here hx rfl (hb hby at_325) rfl) ?_
          show own_Go p.tables e below _ (T56.setTop (mkF m 327 #[.val (.int p1), .val (.long q2), .second, .val (.long q3), .second, .val (.long q4), .second, .val (.long q5), .second, .val (.int p6), .val (.int (3 : Int32)), .val (.int zm), .val (.long y1), .second, .val (.long y2), .second, .val (.long y3), .second, .val (.long y4), .second, .val (.double z1), .second, .val (.double z2), .second, .val (.double z3), .second, .val (.ref b45), .val (.int (own_v0_168a zm)), .val (.int (own_v0_205 zm)), .val (.int (1 : Int32))] [(.double z2), (.long y2), (.int (own_v0_205 zm)), (.double z1), (.long y1), (.int (own_v0_168a zm)), (.long y3), (.double (own_f6 y3 fk3 gk3))]))
          refine own_go (fun _ => XS.iload X56.here hx rfl (hb hby at_327) rfl) ?_
          show own_Go p.tables e below _ (T56.setTop (mkF m 329 #[.val (.int p1), .val (.long q2), .second, .val (.long q3), .second, .val (.long q4), .second, .val (.long q5), .second, .val (.int p6), .val (.int (3 : Int32)), .val (.int zm), .val (.long y1), .second, .val (.long y2), .second, .val (.long y3), .second, .val (.long y4), .second, .val (.double z1), .second, .val (.double z2), .second, .val (.double z3), .second, .val (.ref b45), .val (.int (own_v0_168a zm)), .val (.int (own_v0_205 zm)), .val (.int (1 : Int32))] [(.int (1 : Int32)), (.double z2), (.long y2), (.int (own_v0_205 zm)), (.double z1), (.long y1), (.int (own_v0_168a zm)), (.long y3), (.double (own_f6 y3 fk3 gk3))]))
          refine own_go (fun _ => XS.lload X56.here hx rfl (hb hby at_329) rfl) ?_
          show own_Go p.tables e below _ (T56.setTop (mkF m 331 #[.val (.int p1), .val (.long q2), .second, .val (.long q3), .second, .val (.long q4), .second, .val (.long q5), .second, .val (.int p6), .val (.int (3 : Int32)), .val (.int zm), .val (.long y1), .second, .val (.long y2), .second, .val (.long y3), .second, .val (.long y4), .second, .val (.double z1), .second, .val (.double z2), .second, .val (.double z3), .second, .val (.ref b45), .val (.int (own_v0_168a zm)), .val (.int (own_v0_205 zm)), .val (.int (1 : Int32))] [(.long y3), (.int (1 : Int32)), (.double z2), (.long y2), (.int (own_v0_205 zm)), (.double z1), (.long y1), (.int (own_v0_168a zm)), (.long y3), (.double (own_f6 y3 fk3 gk3))]))
          refine own_go (fun _ => XS.dload X56.here hx rfl (hb hby at_331) rfl) ?_
          show own_Go p.tables e below _ (T56.setTop (mkF m 333 #[.val (.int p1), .val (.long q2), .second, .val (.long q3), .second, .val (.long q4), .second, .val (.long q5), .second, .val (.int p6), .val (.int (3 : Int32)), .val (.int zm), .val (.long y1), .second, .val (.long y2), .second, .val (.long y3), .second, .val (.long y4), .second, .val (.double z1), .second, .val (.double z2), .second, .val (.double z3), .second, .val (.ref b45), .val (.int (own_v0_168a zm)), .val (.int (own_v0_205 zm)), .val (.int (1 : Int32))] [(.double z3), (.long y3), (.int (1 : Int32)), (.double z2), (.long y2), (.int (own_v0_205 zm)), (.double z1), (.long y1), (.int (own_v0_168a zm)), (.long y3), (.double (own_f6 y3 fk3 gk3))]))
          obtain ⟨v57, T57, L57, X57, hQ57, st57⟩ := own_tidyS X56 (Jvm.LawKit.callS X56 hx (y := (⟨"com/example/outis/outis/clustering/KeptChargesGetPinLaw", "check", "(DJZJDZJDZJD)Z"⟩ : MethodName)) hown (mvT hZ (hw _ (List.mem_of_getElem? (i := 45) rfl))) (mvT hZ (hw _ (List.mem_of_getElem? (i := 46) rfl))) (mvT hZ (hw _ (List.mem_of_getElem? (i := 47) rfl))) (mvT hZ (hw _ (List.mem_of_getElem? (i := 48) rfl))) (by decide) (backOf (W := 0) (rm8 l Z a0 hw [] (own_f6 y3 fk3 gk3) y3 (own_v0_168a zm) y1 z1 (own_v0_205 zm) y2 z2 (1 : Int32) y3 z3 T49.heap n0 (Nat.le_trans (Nat.le_trans (Nat.le_trans (Nat.le_trans (Nat.le_trans Z0 E45.1) Kc46.1) Kc47.1) Kc48.1) Kc49.1) ) hZ (hw _ (List.mem_of_getElem? (i := 48) rfl)) (hw _ (List.mem_of_getElem? (i := 47) rfl)) (by decide) (by decide)) (g := (mkF m 333 #[.val (.int p1), .val (.long q2), .second, .val (.long q3), .second, .val (.long q4), .second, .val (.long q5), .second, .val (.int p6), .val (.int (3 : Int32)), .val (.int zm), .val (.long y1), .second, .val (.long y2), .second, .val (.long y3), .second, .val (.long y4), .second, .val (.double z1), .second, .val (.double z2), .second, .val (.double z3), .second, .val (.ref b45), .val (.int (own_v0_168a zm)), .val (.int (own_v0_205 zm)), .val (.int (1 : Int32))] [(.double z3), (.long y3), (.int (1 : Int32)), (.double z2), (.long y2), (.int (own_v0_205 zm)), (.double z1), (.long y1), (.int (own_v0_168a zm)), (.long y3), (.double (own_f6 y3 fk3 gk3))])) rfl (by rw [hml]; rfl) (argsL := [(.double (own_f6 y3 fk3 gk3)), (.long y3), (.int (own_v0_168a zm)), (.long y1), (.double z1), (.int (own_v0_205 zm)), (.long y2), (.double z2), (.int (1 : Int32)), (.long y3), (.double z3)]) (rest := []) (lenOf pd_6 rfl) rfl (by show 2 * 0 + _ ≤ _; exact Nat.le_of_eq rfl) (hb hby at_333) (fun _ _ => ⟨rfl, e56, (by decide : 3 + 0 ≤ _), (by decide : 37 + 0 ≤ _)⟩)) (c' := 3) (n' := 37) rfl rfl
          obtain ⟨rfl, N57q, e57⟩ := hQ57
          have N57 := Fr.app N56 N57q
          refine own_go st57 ?_
          show own_Go p.tables e below _ (T57.setTop (mkF m 336 #[.val (.int p1), .val (.long q2), .second, .val (.long q3), .second, .val (.long q4), .second, .val (.long q5), .second, .val (.int p6), .val (.int (3 : Int32)), .val (.int zm), .val (.long y1), .second, .val (.long y2), .second, .val (.long y3), .second, .val (.long y4), .second, .val (.double z1), .second, .val (.double z2), .second, .val (.double z3), .second, .val (.ref b45), .val (.int (own_v0_168a zm)), .val (.int (own_v0_205 zm)), .val (.int (1 : Int32))] [(.int (own_f8 (own_f6 y3 fk3 gk3) y3 (own_v0_168a zm) y1 z1 (own_v0_205 zm) y2 z2 (1 : Int32) y3 z3))]))
          refine own_go (fun _ => XS.ifNo X57.here hx rfl (hb hby at_336) rfl ((if0 _ _).trans (feq (own_ok3 hz4 J3 hy3 hz1 hz2 hz3)).1)) ?_
          show own_Go p.tables e below _ (T57.setTop (mkF m 339 #[.val (.int p1), .val (.long q2), .second, .val (.long q3), .second, .val (.long q4), .second, .val (.long q5), .second, .val (.int p6), .val (.int (3 : Int32)), .val (.int zm), .val (.long y1), .second, .val (.long y2), .second, .val (.long y3), .second, .val (.long y4), .second, .val (.double z1), .second, .val (.double z2), .second, .val (.double z3), .second, .val (.ref b45), .val (.int (own_v0_168a zm)), .val (.int (own_v0_205 zm)), .val (.int (1 : Int32))] []))
          refine own_go (fun _ => XS.aload X57.here hx rfl (hb hby at_339) rfl rfl) ?_
          show own_Go p.tables e below _ (T57.setTop (mkF m 341 #[.val (.int p1), .val (.long q2), .second, .val (.long q3), .second, .val (.long q4), .second, .val (.long q5), .second, .val (.int p6), .val (.int (3 : Int32)), .val (.int zm), .val (.long y1), .second, .val (.long y2), .second, .val (.long y3), .second, .val (.long y4), .second, .val (.double z1), .second, .val (.double z2), .second, .val (.double z3), .second, .val (.ref b45), .val (.int (own_v0_168a zm)), .val (.int (own_v0_205 zm)), .val (.int (1 : Int32))] [(.ref b45)]))
          refine own_go (fun _ => XS.lload X57.here hx rfl (hb hby at_341) rfl) ?_
          show own_Go p.tables e below _ (T57.setTop (mkF m 343 #[.val (.int p1), .val (.long q2), .second, .val (.long q3), .second, .val (.long q4), .second, .val (.long q5), .second, .val (.int p6), .val (.int (3 : Int32)), .val (.int zm), .val (.long y1), .second, .val (.long y2), .second, .val (.long y3), .second, .val (.long y4), .second, .val (.double z1), .second, .val (.double z2), .second, .val (.double z3), .second, .val (.ref b45), .val (.int (own_v0_168a zm)), .val (.int (own_v0_205 zm)), .val (.int (1 : Int32))] [(.long y4), (.ref b45)]))
          obtain ⟨cq58, kq58, q58a, q58b, q58c⟩ := isOf hZ e57 F49_0
          obtain ⟨v58, T58, L58, X58, hQ58, st58⟩ := own_tidyV X57 (X57.virtualBack hx (y := (⟨"com/example/outis/outis/clustering/KeptCharges", "get", "(J)D"⟩ : MethodName)) (z := (⟨"com/example/outis/outis/clustering/KeptCharges", "get", "(J)D"⟩ : MethodName)) hown (mvT hZ (hw _ (List.mem_of_getElem? (i := 34) rfl))) (mvT hZ (hw _ (List.mem_of_getElem? (i := 35) rfl))) (notFace_of_selects (args := #[]) (mvT hZ (hw _ (List.mem_of_getElem? (i := 37) rfl)))) (mvT hZ (hw _ (List.mem_of_getElem? (i := 37) rfl))) (mvT hZ (hw _ (List.mem_of_getElem? (i := 36) rfl))) (by decide) (backOf (W := 0) (rm6 l Z a0 hw [] b45 y4 e46_0 e46_1 fk3 gk3 kc46_0 kc46_1 T49.heap n0 (Nat.le_trans (Nat.le_trans (Nat.le_trans (Nat.le_trans (Nat.le_trans Z0 E45.1) Kc46.1) Kc47.1) Kc48.1) Kc49.1) F49_3 F49_4 F49_5 F49_0 F49_6 F49_7 (own_J.fin J3 own_le3 _)) hZ (hw _ (List.mem_of_getElem? (i := 38) rfl)) (hw _ (List.mem_of_getElem? (i := 3) rfl)) (by decide) (by decide)) q58a q58c (g := (mkF m 343 #[.val (.int p1), .val (.long q2), .second, .val (.long q3), .second, .val (.long q4), .second, .val (.long q5), .second, .val (.int p6), .val (.int (3 : Int32)), .val (.int zm), .val (.long y1), .second, .val (.long y2), .second, .val (.long y3), .second, .val (.long y4), .second, .val (.double z1), .second, .val (.double z2), .second, .val (.double z3), .second, .val (.ref b45), .val (.int (own_v0_168a zm)), .val (.int (own_v0_205 zm)), .val (.int (1 : Int32))] [(.long y4), (.ref b45)])) rfl (by rw [hml]; rfl) (Steps.refl _) (argsL := [(.long y4)]) (rest := []) (lenOf pd_4 rfl) rfl (by show 2 * 0 + _ ≤ _; exact Nat.le_of_eq rfl) (hb hby at_343) (fun _ _ => ⟨rfl, e57, (by decide : 3 + 0 ≤ _), (by decide : 37 + 0 ≤ _)⟩)) (c' := 3) (n' := 37) rfl rfl
          obtain ⟨rfl, N58q, e58⟩ := hQ58
          have N58 := Fr.app N57 N58q
          refine own_via st58 ?_
          show own_Go p.tables e below _ (T58.setTop (mkF m 346 #[.val (.int p1), .val (.long q2), .second, .val (.long q3), .second, .val (.long q4), .second, .val (.long q5), .second, .val (.int p6), .val (.int (3 : Int32)), .val (.int zm), .val (.long y1), .second, .val (.long y2), .second, .val (.long y3), .second, .val (.long y4), .second, .val (.double z1), .second, .val (.double z2), .second, .val (.double z3), .second, .val (.ref b45), .val (.int (own_v0_168a zm)), .val (.int (own_v0_205 zm)), .val (.int (1 : Int32))] [(.double (own_f6 y4 fk3 gk3))]))
          refine own_go (fun _ => XS.lload X58.here hx rfl (hb hby at_346) rfl) ?_
          show own_Go p.tables e below _ (T58.setTop (mkF m 348 #[.val (.int p1), .val (.long q2), .second, .val (.long q3), .second, .val (.long q4), .second, .val (.long q5), .second, .val (.int p6), .val (.int (3 : Int32)), .val (.int zm), .val (.long y1), .second, .val (.long y2), .second, .val (.long y3), .second, .val (.long y4), .second, .val (.double z1), .second, .val (.double z2), .second, .val (.double z3), .second, .val (.ref b45), .val (.int (own_v0_168a zm)), .val (.int (own_v0_205 zm)), .val (.int (1 : Int32))] [(.long y4), (.double (own_f6 y4 fk3 gk3))]))
          refine own_go (fun _ => XS.iload X58.here hx rfl (hb hby at_348) rfl) ?_
          show own_Go p.tables e below _ (T58.setTop (mkF m 350 #[.val (.int p1), .val (.long q2), .second, .val (.long q3), .second, .val (.long q4), .second, .val (.long q5), .second, .val (.int p6), .val (.int (3 : Int32)), .val (.int zm), .val (.long y1), .second, .val (.long y2), .second, .val (.long y3), .second, .val (.long y4), .second, .val (.double z1), .second, .val (.double z2), .second, .val (.double z3), .second, .val (.ref b45), .val (.int (own_v0_168a zm)), .val (.int (own_v0_205 zm)), .val (.int (1 : Int32))] [(.int (own_v0_168a zm)), (.long y4), (.double (own_f6 y4 fk3 gk3))]))
          refine own_go (fun _ => XS.lload X58.here hx rfl (hb hby at_350) rfl) ?_
          show own_Go p.tables e below _ (T58.setTop (mkF m 352 #[.val (.int p1), .val (.long q2), .second, .val (.long q3), .second, .val (.long q4), .second, .val (.long q5), .second, .val (.int p6), .val (.int (3 : Int32)), .val (.int zm), .val (.long y1), .second, .val (.long y2), .second, .val (.long y3), .second, .val (.long y4), .second, .val (.double z1), .second, .val (.double z2), .second, .val (.double z3), .second, .val (.ref b45), .val (.int (own_v0_168a zm)), .val (.int (own_v0_205 zm)), .val (.int (1 : Int32))] [(.long y1), (.int (own_v0_168a zm)), (.long y4), (.double (own_f6 y4 fk3 gk3))]))
          refine own_go (fun _ => XS.dload X58.here hx rfl (hb hby at_352) rfl) ?_
          show own_Go p.tables e below _ (T58.setTop (mkF m 354 #[.val (.int p1), .val (.long q2), .second, .val (.long q3), .second, .val (.long q4), .second, .val (.long q5), .second, .val (.int p6), .val (.int (3 : Int32)), .val (.int zm), .val (.long y1), .second, .val (.long y2), .second, .val (.long y3), .second, .val (.long y4), .second, .val (.double z1), .second, .val (.double z2), .second, .val (.double z3), .second, .val (.ref b45), .val (.int (own_v0_168a zm)), .val (.int (own_v0_205 zm)), .val (.int (1 : Int32))] [(.double z1), (.long y1), (.int (own_v0_168a zm)), (.long y4), (.double (own_f6 y4 fk3 gk3))]))
          refine own_go (fun _ => XS.iload X58.here hx rfl (hb hby at_354) rfl) ?_
          show own_Go p.tables e below _ (T58.setTop (mkF m 356 #[.val (.int p1), .val (.long q2), .second, .val (.long q3), .second, .val (.long q4), .second, .val (.long q5), .second, .val (.int p6), .val (.int (3 : Int32)), .val (.int zm), .val (.long y1), .second, .val (.long y2), .second, .val (.long y3), .second, .val (.long y4), .second, .val (.double z1), .second, .val (.double z2), .second, .val (.double z3), .second, .val (.ref b45), .val (.int (own_v0_168a zm)), .val (.int (own_v0_205 zm)), .val (.int (1 : Int32))] [(.int (own_v0_205 zm)), (.double z1), (.long y1), (.int (own_v0_168a zm)), (.long y4), (.double (own_f6 y4 fk3 gk3))]))
          refine own_go (fun _ => XS.lload X58.here hx rfl (hb hby at_356) rfl) ?_
          show own_Go p.tables e below _ (T58.setTop (mkF m 358 #[.val (.int p1), .val (.long q2), .second, .val (.long q3), .second, .val (.long q4), .second, .val (.long q5), .second, .val (.int p6), .val (.int (3 : Int32)), .val (.int zm), .val (.long y1), .second, .val (.long y2), .second, .val (.long y3), .second, .val (.long y4), .second, .val (.double z1), .second, .val (.double z2), .second, .val (.double z3), .second, .val (.ref b45), .val (.int (own_v0_168a zm)), .val (.int (own_v0_205 zm)), .val (.int (1 : Int32))] [(.long y2), (.int (own_v0_205 zm)), (.double z1), (.long y1), (.int (own_v0_168a zm)), (.long y4), (.double (own_f6 y4 fk3 gk3))]))
          refine own_go (fun _ => XS.dload X58.here hx rfl (hb hby at_358) rfl) ?_
          show own_Go p.tables e below _ (T58.setTop (mkF m 360 #[.val (.int p1), .val (.long q2), .second, .val (.long q3), .second, .val (.long q4), .second, .val (.long q5), .second, .val (.int p6), .val (.int (3 : Int32)), .val (.int zm), .val (.long y1), .second, .val (.long y2), .second, .val (.long y3), .second, .val (.long y4), .second, .val (.double z1), .second, .val (.double z2), .second, .val (.double z3), .second, .val (.ref b45), .val (.int (own_v0_168a zm)), .val (.int (own_v0_205 zm)), .val (.int (1 : Int32))] [(.double z2), (.long y2), (.int (own_v0_205 zm)), (.double z1), (.long y1), (.int (own_v0_168a zm)), (.long y4), (.double (own_f6 y4 fk3 gk3))]))
          refine own_go (fun _ => XS.iload X58.here hx rfl (hb hby at_360) rfl) ?_
          show own_Go p.tables e below _ (T58.setTop (mkF m 362 #[.val (.int p1), .val (.long q2), .second, .val (.long q3), .second, .val (.long q4), .second, .val (.long q5), .second, .val (.int p6), .val (.int (3 : Int32)), .val (.int zm), .val (.long y1), .second, .val (.long y2), .second, .val (.long y3), .second, .val (.long y4), .second, .val (.double z1), .second, .val (.double z2), .second, .val (.double z3), .second, .val (.ref b45), .val (.int (own_v0_168a zm)), .val (.int (own_v0_205 zm)), .val (.int (1 : Int32))] [(.int (1 : Int32)), (.double z2), (.long y2), (.int (own_v0_205 zm)), (.double z1), (.long y1), (.int (own_v0_168a zm)), (.long y4), (.double (own_f6 y4 fk3 gk3))]))
          refine own_go (fun _ => XS.lload X58.here hx rfl (hb hby at_362) rfl) ?_
          show own_Go p.tables e below _ (T58.setTop (mkF m 364 #[.val (.int p1), .val (.long q2), .second, .val (.long q3), .second, .val (.long q4), .second, .val (.long q5), .second, .val (.int p6), .val (.int (3 : Int32)), .val (.int zm), .val (.long y1), .second, .val (.long y2), .second, .val (.long y3), .second, .val (.long y4), .second, .val (.double z1), .second, .val (.double z2), .second, .val (.double z3), .second, .val (.ref b45), .val (.int (own_v0_168a zm)), .val (.int (own_v0_205 zm)), .val (.int (1 : Int32))] [(.long y3), (.int (1 : Int32)), (.double z2), (.long y2), (.int (own_v0_205 zm)), (.double z1), (.long y1), (.int (own_v0_168a zm)), (.long y4), (.double (own_f6 y4 fk3 gk3))]))
          refine own_go (fun _ => XS.dload X58.here hx rfl (hb hby at_364) rfl) ?_
          show own_Go p.tables e below _ (T58.setTop (mkF m 366 #[.val (.int p1), .val (.long q2), .second, .val (.long q3), .second, .val (.long q4), .second, .val (.long q5), .second, .val (.int p6), .val (.int (3 : Int32)), .val (.int zm), .val (.long y1), .second, .val (.long y2), .second, .val (.long y3), .second, .val (.long y4), .second, .val (.double z1), .second, .val (.double z2), .second, .val (.double z3), .second, .val (.ref b45), .val (.int (own_v0_168a zm)), .val (.int (own_v0_205 zm)), .val (.int (1 : Int32))] [(.double z3), (.long y3), (.int (1 : Int32)), (.double z2), (.long y2), (.int (own_v0_205 zm)), (.double z1), (.long y1), (.int (own_v0_168a zm)), (.long y4), (.double (own_f6 y4 fk3 gk3))]))
          obtain ⟨v59, T59, L59, X59, hQ59, st59⟩ := own_tidyS X58 (Jvm.LawKit.callS X58 hx (y := (⟨"com/example/outis/outis/clustering/KeptChargesGetPinLaw", "check", "(DJZJDZJDZJD)Z"⟩ : MethodName)) hown (mvT hZ (hw _ (List.mem_of_getElem? (i := 45) rfl))) (mvT hZ (hw _ (List.mem_of_getElem? (i := 46) rfl))) (mvT hZ (hw _ (List.mem_of_getElem? (i := 47) rfl))) (mvT hZ (hw _ (List.mem_of_getElem? (i := 48) rfl))) (by decide) (backOf (W := 0) (rm8 l Z a0 hw [] (own_f6 y4 fk3 gk3) y4 (own_v0_168a zm) y1 z1 (own_v0_205 zm) y2 z2 (1 : Int32) y3 z3 T49.heap n0 (Nat.le_trans (Nat.le_trans (Nat.le_trans (Nat.le_trans (Nat.le_trans Z0 E45.1) Kc46.1) Kc47.1) Kc48.1) Kc49.1) ) hZ (hw _ (List.mem_of_getElem? (i := 48) rfl)) (hw _ (List.mem_of_getElem? (i := 47) rfl)) (by decide) (by decide)) (g := (mkF m 366 #[.val (.int p1), .val (.long q2), .second, .val (.long q3), .second, .val (.long q4), .second, .val (.long q5), .second, .val (.int p6), .val (.int (3 : Int32)), .val (.int zm), .val (.long y1), .second, .val (.long y2), .second, .val (.long y3), .second, .val (.long y4), .second, .val (.double z1), .second, .val (.double z2), .second, .val (.double z3), .second, .val (.ref b45), .val (.int (own_v0_168a zm)), .val (.int (own_v0_205 zm)), .val (.int (1 : Int32))] [(.double z3), (.long y3), (.int (1 : Int32)), (.double z2), (.long y2), (.int (own_v0_205 zm)), (.double z1), (.long y1), (.int (own_v0_168a zm)), (.long y4), (.double (own_f6 y4 fk3 gk3))])) rfl (by rw [hml]; rfl) (argsL := [(.double (own_f6 y4 fk3 gk3)), (.long y4), (.int (own_v0_168a zm)), (.long y1), (.double z1), (.int (own_v0_205 zm)), (.long y2), (.double z2), (.int (1 : Int32)), (.long y3), (.double z3)]) (rest := []) (lenOf pd_6 rfl) rfl (by show 2 * 0 + _ ≤ _; exact Nat.le_of_eq rfl) (hb hby at_366) (fun _ _ => ⟨rfl, e58, (by decide : 3 + 0 ≤ _), (by decide : 37 + 0 ≤ _)⟩)) (c' := 3) (n' := 37) rfl rfl
          obtain ⟨rfl, N59q, e59⟩ := hQ59
          have N59 := Fr.app N58 N59q
          refine own_go st59 ?_
          show own_Go p.tables e below _ (T59.setTop (mkF m 369 #[.val (.int p1), .val (.long q2), .second, .val (.long q3), .second, .val (.long q4), .second, .val (.long q5), .second, .val (.int p6), .val (.int (3 : Int32)), .val (.int zm), .val (.long y1), .second, .val (.long y2), .second, .val (.long y3), .second, .val (.long y4), .second, .val (.double z1), .second, .val (.double z2), .second, .val (.double z3), .second, .val (.ref b45), .val (.int (own_v0_168a zm)), .val (.int (own_v0_205 zm)), .val (.int (1 : Int32))] [(.int (own_f8 (own_f6 y4 fk3 gk3) y4 (own_v0_168a zm) y1 z1 (own_v0_205 zm) y2 z2 (1 : Int32) y3 z3))]))
          refine own_go (fun _ => XS.ifNo X59.here hx rfl (hb hby at_369) rfl ((if0 _ _).trans (feq (own_ok3 hz4 J3 hy4 hz1 hz2 hz3)).1)) ?_
          show own_Go p.tables e below _ (T59.setTop (mkF m 372 #[.val (.int p1), .val (.long q2), .second, .val (.long q3), .second, .val (.long q4), .second, .val (.long q5), .second, .val (.int p6), .val (.int (3 : Int32)), .val (.int zm), .val (.long y1), .second, .val (.long y2), .second, .val (.long y3), .second, .val (.long y4), .second, .val (.double z1), .second, .val (.double z2), .second, .val (.double z3), .second, .val (.ref b45), .val (.int (own_v0_168a zm)), .val (.int (own_v0_205 zm)), .val (.int (1 : Int32))] []))
          refine own_go (fun _ => XS.iconst X59.here hx rfl (hb hby at_372)) ?_
          show own_Go p.tables e below _ (T59.setTop (mkF m 373 #[.val (.int p1), .val (.long q2), .second, .val (.long q3), .second, .val (.long q4), .second, .val (.long q5), .second, .val (.int p6), .val (.int (3 : Int32)), .val (.int zm), .val (.long y1), .second, .val (.long y2), .second, .val (.long y3), .second, .val (.long y4), .second, .val (.double z1), .second, .val (.double z2), .second, .val (.double z3), .second, .val (.ref b45), .val (.int (own_v0_168a zm)), .val (.int (own_v0_205 zm)), .val (.int (1 : Int32))] [(.int (1 : Int32))]))
          refine own_go (fun _ => XS.goto X59.here hx rfl (pc0 := 373) (pc' := 377) rfl (hb hby at_373) (by decide) (by decide)) ?_
          show own_Go p.tables e below _ (T59.setTop (mkF m 377 #[.val (.int p1), .val (.long q2), .second, .val (.long q3), .second, .val (.long q4), .second, .val (.long q5), .second, .val (.int p6), .val (.int (3 : Int32)), .val (.int zm), .val (.long y1), .second, .val (.long y2), .second, .val (.long y3), .second, .val (.long y4), .second, .val (.double z1), .second, .val (.double z2), .second, .val (.double z3), .second, .val (.ref b45), .val (.int (own_v0_168a zm)), .val (.int (own_v0_205 zm)), .val (.int (1 : Int32))] [(.int (1 : Int32))]))
          refine own_retN X59 Bd.notSynchronized hx (t := .boolean) Bd.returns (by simp) (hb hby at_377) (show Q0 Z p1 q2 q3 q4 q5 p6 h0 n0 _ T59.heap _ from by rw [e59]; exact ⟨rfl, N59⟩) (by decide) (by decide)
        · skip
          show own_Go p.tables e below _ (s₁.setTop (mkF m 74 #[.val (.int p1), .val (.long q2), .second, .val (.long q3), .second, .val (.long q4), .second, .val (.long q5), .second, .val (.int p6), .val (.int (3 : Int32)), .val (.int zm), .val (.long y1), .second, .val (.long y2), .second, .val (.long y3), .second, .val (.long y4), .second, .unset, .unset, .unset, .unset, .unset, .unset, .unset, .unset, .unset, .unset] []))
          refine own_go (fun _ => XS.iload X0.here hx rfl (hb hby at_74) rfl) ?_
          show own_Go p.tables e below _ (s₁.setTop (mkF m 76 #[.val (.int p1), .val (.long q2), .second, .val (.long q3), .second, .val (.long q4), .second, .val (.long q5), .second, .val (.int p6), .val (.int (3 : Int32)), .val (.int zm), .val (.long y1), .second, .val (.long y2), .second, .val (.long y3), .second, .val (.long y4), .second, .unset, .unset, .unset, .unset, .unset, .unset, .unset, .unset, .unset, .unset] [(.int zm)]))
          refine own_go (fun _ => XS.iconst X0.here hx rfl (hb hby at_76)) ?_
          show own_Go p.tables e below _ (s₁.setTop (mkF m 77 #[.val (.int p1), .val (.long q2), .second, .val (.long q3), .second, .val (.long q4), .second, .val (.long q5), .second, .val (.int p6), .val (.int (3 : Int32)), .val (.int zm), .val (.long y1), .second, .val (.long y2), .second, .val (.long y3), .second, .val (.long y4), .second, .unset, .unset, .unset, .unset, .unset, .unset, .unset, .unset, .unset, .unset] [(.int (2 : Int32)), (.int zm)]))
          refine own_go (fun _ => XS.icmpNo X0.here hx rfl (hb hby at_77) rfl (flt (fun h => hd (Or.inl h))).1) ?_
          show own_Go p.tables e below _ (s₁.setTop (mkF m 80 #[.val (.int p1), .val (.long q2), .second, .val (.long q3), .second, .val (.long q4), .second, .val (.long q5), .second, .val (.int p6), .val (.int (3 : Int32)), .val (.int zm), .val (.long y1), .second, .val (.long y2), .second, .val (.long y3), .second, .val (.long y4), .second, .unset, .unset, .unset, .unset, .unset, .unset, .unset, .unset, .unset, .unset] []))
          refine own_go (fun _ => XS.lload X0.here hx rfl (hb hby at_80) rfl) ?_
          show own_Go p.tables e below _ (s₁.setTop (mkF m 82 #[.val (.int p1), .val (.long q2), .second, .val (.long q3), .second, .val (.long q4), .second, .val (.long q5), .second, .val (.int p6), .val (.int (3 : Int32)), .val (.int zm), .val (.long y1), .second, .val (.long y2), .second, .val (.long y3), .second, .val (.long y4), .second, .unset, .unset, .unset, .unset, .unset, .unset, .unset, .unset, .unset, .unset] [(.long y3)]))
          refine own_go (fun _ => XS.lload X0.here hx rfl (hb hby at_82) rfl) ?_
          show own_Go p.tables e below _ (s₁.setTop (mkF m 84 #[.val (.int p1), .val (.long q2), .second, .val (.long q3), .second, .val (.long q4), .second, .val (.long q5), .second, .val (.int p6), .val (.int (3 : Int32)), .val (.int zm), .val (.long y1), .second, .val (.long y2), .second, .val (.long y3), .second, .val (.long y4), .second, .unset, .unset, .unset, .unset, .unset, .unset, .unset, .unset, .unset, .unset] [(.long y1), (.long y3)]))
          refine own_go (fun _ => XS.lcmp X0.here hx rfl (hb hby at_84) rfl) ?_
          show own_Go p.tables e below _ (s₁.setTop (mkF m 85 #[.val (.int p1), .val (.long q2), .second, .val (.long q3), .second, .val (.long q4), .second, .val (.long q5), .second, .val (.int p6), .val (.int (3 : Int32)), .val (.int zm), .val (.long y1), .second, .val (.long y2), .second, .val (.long y3), .second, .val (.long y4), .second, .unset, .unset, .unset, .unset, .unset, .unset, .unset, .unset, .unset, .unset] [(.int (lcmpW y3 y1))]))
          refine own_go (fun _ => XS.ifNo X0.here hx rfl (hb hby at_85) rfl ((if0 _ _).trans (teq ((lw_eq _ _).mpr (Classical.byContradiction fun h => hd (Or.inr h)))).2)) ?_
          show own_Go p.tables e below _ (s₁.setTop (mkF m 88 #[.val (.int p1), .val (.long q2), .second, .val (.long q3), .second, .val (.long q4), .second, .val (.long q5), .second, .val (.int p6), .val (.int (3 : Int32)), .val (.int zm), .val (.long y1), .second, .val (.long y2), .second, .val (.long y3), .second, .val (.long y4), .second, .unset, .unset, .unset, .unset, .unset, .unset, .unset, .unset, .unset, .unset] []))
          refine own_go (fun _ => XS.iconst X0.here hx rfl (hb hby at_88)) ?_
          show own_Go p.tables e below _ (s₁.setTop (mkF m 89 #[.val (.int p1), .val (.long q2), .second, .val (.long q3), .second, .val (.long q4), .second, .val (.long q5), .second, .val (.int p6), .val (.int (3 : Int32)), .val (.int zm), .val (.long y1), .second, .val (.long y2), .second, .val (.long y3), .second, .val (.long y4), .second, .unset, .unset, .unset, .unset, .unset, .unset, .unset, .unset, .unset, .unset] [(.int (1 : Int32))]))
          refine own_retN X0 Bd.notSynchronized hx (t := .boolean) Bd.returns (by simp) (hb hby at_89) (show Q0 Z p1 q2 q3 q4 q5 p6 h0 n0 _ s₁.heap _ from by rw [e0]; exact ⟨rfl, N0⟩) (by decide) (by decide)
set_option maxRecDepth 65536 in
set_option maxHeartbeats 40000000 in
theorem comes_1 {Post : Tables → Env → Array Value → State → Outcome → State → Prop} (hpost : ∀ tb e args s v u, (limb_1_1.after args s (.returned v) u = true ∧ limb_1_2.after args s (.returned v) u = true ∧ True) → FrameEnd s (.returned v) u (Jvm.fieldLocs frame_1_writes args s ++ Jvm.arrayLocs frame_1_arrays args s ++ Jvm.staticLocs frame_1_statics s) 16 192 → Post tb e args s (.returned v) u) :
    ArmFor flags0 classFile x code maxLocals ret World_1 tables_1 room_1 Calls_1 rest_1 Pre_1 Post := by
  intro l hfl _ _ p e ha hc hk s m args below hf hA hF happ hP
  obtain ⟨hcalls, hrest, hpre⟩ := hP
  obtain ⟨-, -, -, hnamed, -, -, -, hat⟩ := (Spec.applies_iff hf).mp happ
  obtain ⟨hg, hn⟩ := and_e (Cond.before_iff.mp (show (Jvm.Cond.and given_1 narrow_1).before args s = true from hpre))
  obtain ⟨g1, g2⟩ := and_e hg
  obtain ⟨g3, g4⟩ := and_e g2
  obtain ⟨g5, g6⟩ := and_e g4
  obtain ⟨g7, g8⟩ := and_e g6
  obtain ⟨g9, g10⟩ := and_e g8
  obtain ⟨g11, g12⟩ := and_e g10
  obtain ⟨w0, w1, w2, w3, w4, w5, rfl⟩ : ∃ w0 w1 w2 w3 w4 w5 : Value, args = #[w0, w1, w2, w3, w4, w5] := by
    have hs : args.size = 6 := by simpa [Cond.value, given_1] using g1
    obtain ⟨L⟩ := args
    match L, hs with
    | [w0, w1, w2, w3, w4, w5], _ => exact ⟨w0, w1, w2, w3, w4, w5, rfl⟩
  have hw := fun d (hd : d ∈ tables_1) => atoms_spec (ws := Jvm.Cond.code x code maxLocals ret :: tables_1) hat d (List.mem_cons_of_mem _ hd)
  have hfit : Fit s := fun {y c} hc i hi => by
    obtain ⟨ha, rfl⟩ := Array.getElem?_eq_some_iff.mp hc
    have q := List.all_eq_true.mp ((Array.all_eq_true_iff_forall_mem.mp hF) _ (Array.getElem_mem ha)) i (List.mem_range.mpr hi)
    simpa [Array.getElem?_eq_getElem hi] using q
  obtain ⟨i0, ei0⟩ := is_v g3
  obtain rfl : w0 = (.int i0) := Option.some.inj ei0
  obtain ⟨i1, ei1⟩ := isL_v g5
  obtain rfl : w1 = (.long i1) := Option.some.inj ei1
  obtain ⟨i2, ei2⟩ := isL_v g7
  obtain rfl : w2 = (.long i2) := Option.some.inj ei2
  obtain ⟨i3, ei3⟩ := isL_v g9
  obtain rfl : w3 = (.long i3) := Option.some.inj ei3
  obtain ⟨i4, ei4⟩ := isL_v g11
  obtain rfl : w4 = (.long i4) := Option.some.inj ei4
  obtain ⟨i5, ei5⟩ := is_v g12
  obtain rfl : w5 = (.int i5) := Option.some.inj ei5
  obtain ⟨n, o, h1, h2, h3, _, L, rfl, ⟨rfl, N⟩, hq⟩ := rm0 l s _ hw tables_1 i0 i1 i2 i3 i4 i5  s.heap s.heap.size (Nat.le_refl _)   p e ha hc hk s m _ below hf ((Spec.applies_iff_loose hf).mp happ).1 ⟨rfl, State.Warmed39.refl s, rfl⟩ trivial
  refine ⟨n, _, h1, h2, h3, hpost _ _ _ _ _ _ ⟨Cond.after_iff.mpr rfl, Cond.after_iff.mpr (eq_i res_at (Term.int_eval (1)) rfl), trivial⟩ ⟨hq.1, hq.2.1, (hq.2.2.sift fun y hy => Or.inr (N y hy)).mono (by decide) (by decide)⟩⟩
theorem main_1_1 : Claimed_1_1 := comes_1 fun _ _ _ _ _ _ h hF => ⟨h.1, hF⟩
theorem main_1_2 : Claimed_1_2 := comes_1 fun _ _ _ _ _ _ h hF => ⟨h.2.1, hF⟩
end Jvm.Pilot.@@N@@
namespace Jvm.Pilot.@@N@@
open Jvm Jvm.ClassFile Sem Op Lib Jvm.Free Jvm.Stand Jvm.Pilot.@@N@@.Jvm.D
/-! MADE BY PROGRAM (witnessworld.py) out of the Statement's table words and the real class files: 19 classes; the members and pool entries that the words name. The judged class is class 1, her method 1. -/
namespace start1
open Jvm.ClassFile
def u (s : String) : CpInfo := .utf8 (stringToUtf16 s)
/-- a pool by its gaps: so many unusable entries, then the entry; so many at the end -/
def gap : Nat → List CpInfo → List CpInfo
  | 0, r => r
  | n + 1, r => .unusable :: gap n r
def poolList (es : List (Nat × CpInfo)) (last : Nat) : List CpInfo := es.foldr (fun e r => gap e.1 (e.2 :: r)) (gap last [])
def pool (es : List (Nat × CpInfo)) (last : Nat) : Array CpInfo := ⟨poolList es last⟩
def fileOf (pool : Array CpInfo) (this : Nat) (attrs : Array Attribute := #[]) (ms : Array MethodInfo := #[]) (fl : Nat := 33) (sup : Nat := 0) (ifs : Array Nat := #[]) (fds : Array FieldInfo := #[]) : ClassFile where
  minorVersion := 0
  majorVersion := 65
  constantPool := pool
  accessFlags := fl
  thisClass := this
  superClass := sup
  interfaces := ifs
  fields := fds
  methods := ms
  attributes := attrs
def plain (name : String) (sup : Option ClassId) : Class where
  name := name
  kind := .ordinary
  loader := none
  accessFlags := 33
  super := sup
  interfaces := #[]
  cf := none
  fields := #[]
  methods := #[]
  instanceTypes := #[]
  staticTypes := #[]
  resolved := #[]
  callSites := []
  init := .initialized
  statics := none
  mirror := none

def pool0 : Array CpInfo := pool [(5, u "<init>"), (0, u "()V"), (1, .class_ 10), (1, u "java/lang/Object")] 113

def k0c0 : Code := { maxStack := 0, maxLocals := 1, code := object_method_1_code, exceptionTable := #[], attributes := #[] }
def k0m0 : Method := { name := "<init>", desc := "()V", sig := { parameters := [], returnType := none }, accessFlags := 1, code := some k0c0 }
/-- java/lang/Object -/
def k0 : Class := { plain "java/lang/Object" none with
  accessFlags := 33
  interfaces := #[]
  cf := some (fileOf pool0 8 #[] #[{ accessFlags := 1, nameIndex := 5, descriptorIndex := 6, attributes := #[] }] 33 0 #[] #[])
  fields := #[]
  methods := #[k0m0]
  instanceTypes := #[]
  staticTypes := #[]
  resolved := Array.replicate 124 none
  statics := none }

def pool1 : Array CpInfo := pool [(2, .class_ 4), (1, u "java/lang/Object"), (0, u "<init>"), (0, u "()V"), (2, .long 9223372036854775807), (1, .class_ 12), (0, u "com/example/outis/outis/clustering/KeptCharges"), (0, .methodref 11 14), (0, .nameAndType 5 15), (0, u "(I)V"), (0, .methodref 11 17), (0, .nameAndType 18 19), (0, u "put"), (0, u "(JD)V"), (0, .methodref 11 21), (0, .nameAndType 22 23), (0, u "get"), (0, u "(J)D"), (0, .methodref 25 26), (0, .class_ 27), (0, .nameAndType 28 29), (0, u "com/example/outis/outis/clustering/KeptChargesGetPinLaw"), (0, u "check"), (0, u "(DJZJDZJDZJD)Z"), (2, u "law"), (0, u "(IJJJJI)Z")] 3

def k1m0 : Method := { name := "<init>", desc := "()V", sig := { parameters := [], returnType := none }, accessFlags := 1, code := none }
def k1c1 : Code := { maxStack := 19, maxLocals := 30, code := code, exceptionTable := #[], attributes := #[] }
def k1m1 : Method := { name := "law", desc := "(IJJJJI)Z", sig := { parameters := [.int, .long, .long, .long, .long, .int], returnType := some .boolean }, accessFlags := 9, code := some k1c1 }
def k1c2 : Code := { maxStack := 4, maxLocals := 19, code := method_3_code, exceptionTable := #[], attributes := #[] }
def k1m2 : Method := { name := "check", desc := "(DJZJDZJDZJD)Z", sig := { parameters := [.double, .long, .boolean, .long, .double, .boolean, .long, .double, .boolean, .long, .double], returnType := some .boolean }, accessFlags := 10, code := some k1c2 }
/-- com/example/outis/outis/clustering/KeptChargesGetPinLaw -/
def k1 : Class := { plain "com/example/outis/outis/clustering/KeptChargesGetPinLaw" (some 0) with
  accessFlags := 49
  interfaces := #[]
  cf := some (fileOf pool1 25 #[] #[{ accessFlags := 1, nameIndex := 5, descriptorIndex := 6, attributes := #[] }, { accessFlags := 9, nameIndex := 32, descriptorIndex := 33, attributes := #[] }, { accessFlags := 10, nameIndex := 28, descriptorIndex := 29, attributes := #[] }] 49 2 #[] #[])
  fields := #[]
  methods := #[k1m0, k1m1, k1m2]
  instanceTypes := #[]
  staticTypes := #[]
  resolved := Array.replicate 37 none
  statics := none }

def pool2 : Array CpInfo := pool [(1, .methodref 2 3), (0, .class_ 4), (0, .nameAndType 5 6), (0, u "java/lang/Object"), (0, u "<init>"), (0, u "()V"), (0, .fieldref 8 9), (0, .class_ 10), (0, .nameAndType 11 12), (0, u "com/example/outis/outis/clustering/KeptCharges"), (0, u "most"), (0, u "I"), (0, .methodref 8 14), (0, .nameAndType 15 16), (0, u "makePlaces"), (0, u "(I)V"), (0, .methodref 8 18), (0, .nameAndType 19 20), (0, u "placeOf"), (0, u "(J)I"), (0, .fieldref 8 22), (0, .nameAndType 23 24), (0, u "keys"), (0, u "[J"), (0, .fieldref 8 26), (0, .nameAndType 27 28), (0, u "charges"), (0, u "[D"), (2, .double 9221120237041090560), (1, .fieldref 8 34), (0, .nameAndType 35 12), (0, u "size"), (0, .long 18446744073709551615), (1, .methodref 39 40), (0, .class_ 41), (0, .nameAndType 42 43), (0, u "java/util/Arrays"), (0, u "fill"), (0, u "([JJ)V"), (0, .methodref 8 45), (0, .nameAndType 46 47), (0, u "keep"), (0, u "(JD)V"), (0, .methodref 49 50), (0, .class_ 51), (0, .nameAndType 52 53), (0, u "java/lang/Integer"), (0, u "numberOfTrailingZeros"), (0, u "(I)I"), (0, .fieldref 8 55), (0, .nameAndType 56 12), (0, u "bits"), (0, .long 11400714819323198485), (3, u "FREE"), (0, u "J"), (1, u "FIRST_PLACES"), (3, u "get"), (0, u "(J)D"), (1, u "put")] 4

def k2c0 : Code := { maxStack := 2, maxLocals := 2, code := prog_2_method_1_code, exceptionTable := #[], attributes := #[] }
def k2m0 : Method := { name := "<init>", desc := "(I)V", sig := { parameters := [.int], returnType := none }, accessFlags := 0, code := some k2c0 }
def k2c1 : Code := { maxStack := 4, maxLocals := 4, code := prog_2_method_2_code, exceptionTable := #[], attributes := #[] }
def k2m1 : Method := { name := "get", desc := "(J)D", sig := { parameters := [.long], returnType := some .double }, accessFlags := 0, code := some k2c1 }
def k2c2 : Code := { maxStack := 5, maxLocals := 8, code := prog_2_method_3_code, exceptionTable := #[], attributes := #[] }
def k2m2 : Method := { name := "put", desc := "(JD)V", sig := { parameters := [.long, .double], returnType := none }, accessFlags := 0, code := some k2c2 }
def k2c3 : Code := { maxStack := 3, maxLocals := 2, code := prog_2_method_4_code, exceptionTable := #[], attributes := #[] }
def k2m3 : Method := { name := "makePlaces", desc := "(I)V", sig := { parameters := [.int], returnType := none }, accessFlags := 2, code := some k2c3 }
def k2c4 : Code := { maxStack := 4, maxLocals := 6, code := prog_2_method_5_code, exceptionTable := #[], attributes := #[] }
def k2m4 : Method := { name := "keep", desc := "(JD)V", sig := { parameters := [.long, .double], returnType := none }, accessFlags := 2, code := some k2c4 }
def k2c5 : Code := { maxStack := 4, maxLocals := 4, code := prog_2_method_6_code, exceptionTable := #[], attributes := #[] }
def k2m5 : Method := { name := "placeOf", desc := "(J)I", sig := { parameters := [.long], returnType := some .int }, accessFlags := 2, code := some k2c5 }
/-- com/example/outis/outis/clustering/KeptCharges -/
def k2 : Class := { plain "com/example/outis/outis/clustering/KeptCharges" (some 0) with
  accessFlags := 48
  interfaces := #[]
  cf := some (fileOf pool2 8 #[] #[{ accessFlags := 0, nameIndex := 5, descriptorIndex := 16, attributes := #[] }, { accessFlags := 0, nameIndex := 68, descriptorIndex := 69, attributes := #[] }, { accessFlags := 0, nameIndex := 71, descriptorIndex := 47, attributes := #[] }, { accessFlags := 2, nameIndex := 15, descriptorIndex := 16, attributes := #[] }, { accessFlags := 2, nameIndex := 46, descriptorIndex := 47, attributes := #[] }, { accessFlags := 2, nameIndex := 19, descriptorIndex := 20, attributes := #[] }] 48 2 #[] #[{ accessFlags := 26, nameIndex := 61, descriptorIndex := 62, attributes := #[] }, { accessFlags := 26, nameIndex := 64, descriptorIndex := 12, attributes := #[] }, { accessFlags := 18, nameIndex := 11, descriptorIndex := 12, attributes := #[] }, { accessFlags := 2, nameIndex := 23, descriptorIndex := 24, attributes := #[] }, { accessFlags := 2, nameIndex := 27, descriptorIndex := 28, attributes := #[] }, { accessFlags := 2, nameIndex := 56, descriptorIndex := 12, attributes := #[] }, { accessFlags := 2, nameIndex := 35, descriptorIndex := 12, attributes := #[] }])
  fields := #[{ name := "FREE", type := .long, accessFlags := 26, slot := 0, constantValue := 0 }, { name := "FIRST_PLACES", type := .int, accessFlags := 26, slot := 1, constantValue := 0 }, { name := "most", type := .int, accessFlags := 18, slot := 0, constantValue := 0 }, { name := "keys", type := (.array .long), accessFlags := 2, slot := 1, constantValue := 0 }, { name := "charges", type := (.array .double), accessFlags := 2, slot := 2, constantValue := 0 }, { name := "bits", type := .int, accessFlags := 2, slot := 3, constantValue := 0 }, { name := "size", type := .int, accessFlags := 2, slot := 4, constantValue := 0 }]
  methods := #[k2m0, k2m1, k2m2, k2m3, k2m4, k2m5]
  instanceTypes := #[.int, (.array .long), (.array .double), .int, .int]
  staticTypes := #[.long, .int]
  resolved := Array.replicate 76 none
  statics := none }

def pool3 : Array CpInfo := pool [(2, .class_ 4), (1, u "java/lang/Object"), (0, u "<init>"), (0, u "()V"), (7, .class_ 16), (1, u "java/util/Arrays"), (57, .class_ 76), (1, u "java/util/Arrays$NaturalOrder"), (36, .class_ 115), (1, u "java/util/Arrays$LegacyMergeSort"), (1, u "Z"), (257, .class_ 376), (0, u "java/util/Arrays$ArrayList"), (68, u "$assertionsDisabled"), (269, u "MIN_ARRAY_SORT_GRAN"), (0, u "I"), (2, u "INSERTIONSORT_THRESHOLD"), (120, u "fill"), (0, u "([JJ)V"), (133, .class_ 976), (0, u "java/util/Arrays$ArrayItr")] 52

def k3m0 : Method := { name := "<init>", desc := "()V", sig := { parameters := [], returnType := none }, accessFlags := 2, code := none }
def k3c1 : Code := { maxStack := 4, maxLocals := 5, code := jdk_65_method_101_code, exceptionTable := #[], attributes := #[] }
def k3m1 : Method := { name := "fill", desc := "([JJ)V", sig := { parameters := [(.array .long), .long], returnType := none }, accessFlags := 9, code := some k3c1 }
/-- java/util/Arrays -/
def k3 : Class := { plain "java/util/Arrays" (some 0) with
  accessFlags := 49
  interfaces := #[]
  cf := some (fileOf pool3 14 #[.nestMembers #[975, 375, 113, 74]] #[{ accessFlags := 2, nameIndex := 5, descriptorIndex := 6, attributes := #[] }, { accessFlags := 9, nameIndex := 840, descriptorIndex := 841, attributes := #[] }] 49 2 #[] #[{ accessFlags := 26, nameIndex := 715, descriptorIndex := 716, attributes := #[] }, { accessFlags := 26, nameIndex := 719, descriptorIndex := 716, attributes := #[] }, { accessFlags := 4120, nameIndex := 445, descriptorIndex := 117, attributes := #[] }])
  fields := #[{ name := "MIN_ARRAY_SORT_GRAN", type := .int, accessFlags := 26, slot := 0, constantValue := 0 }, { name := "INSERTIONSORT_THRESHOLD", type := .int, accessFlags := 26, slot := 1, constantValue := 0 }, { name := "$assertionsDisabled", type := .boolean, accessFlags := 4120, slot := 2, constantValue := 0 }]
  methods := #[k3m0, k3m1]
  instanceTypes := #[]
  staticTypes := #[.int, .int, .boolean]
  resolved := Array.replicate 1029 none
  statics := none }

def pool4 : Array CpInfo := pool [(1, .class_ 2), (0, u "java/io/Serializable"), (0, .class_ 4), (0, u "java/lang/Object")] 2

/-- java/io/Serializable -/
def k4 : Class := { plain "java/io/Serializable" (some 0) with
  accessFlags := 1537
  interfaces := #[]
  cf := some (fileOf pool4 1 #[] #[] 1537 3 #[] #[])
  fields := #[]
  methods := #[]
  instanceTypes := #[]
  staticTypes := #[]
  resolved := Array.replicate 7 none
  statics := none }

def pool5 : Array CpInfo := pool [(2, .class_ 4), (1, u "java/lang/Object"), (0, u "<init>"), (0, u "()V"), (1, .class_ 10), (1, u "java/lang/Number"), (2, .class_ 14), (0, u "java/io/Serializable"), (0, u "serialVersionUID"), (0, u "J")] 20

def k5m0 : Method := { name := "<init>", desc := "()V", sig := { parameters := [], returnType := none }, accessFlags := 1, code := none }
/-- java/lang/Number -/
def k5 : Class := { plain "java/lang/Number" (some 0) with
  accessFlags := 1057
  interfaces := #[4]
  cf := some (fileOf pool5 8 #[] #[{ accessFlags := 1, nameIndex := 5, descriptorIndex := 6, attributes := #[] }] 1057 2 #[13] #[{ accessFlags := 26, nameIndex := 15, descriptorIndex := 16, attributes := #[] }])
  fields := #[{ name := "serialVersionUID", type := .long, accessFlags := 26, slot := 0, constantValue := 0 }]
  methods := #[k5m0]
  instanceTypes := #[]
  staticTypes := #[.long]
  resolved := Array.replicate 37 none
  statics := none }

def pool6 : Array CpInfo := pool [(1, .class_ 2), (0, u "java/lang/Comparable"), (0, .class_ 4), (0, u "java/lang/Object")] 7

/-- java/lang/Comparable -/
def k6 : Class := { plain "java/lang/Comparable" (some 0) with
  accessFlags := 1537
  interfaces := #[]
  cf := some (fileOf pool6 1 #[] #[] 1537 3 #[] #[])
  fields := #[]
  methods := #[]
  instanceTypes := #[]
  staticTypes := #[]
  resolved := Array.replicate 12 none
  statics := none }

def pool7 : Array CpInfo := pool [(1, .class_ 2), (0, u "java/lang/constant/Constable"), (0, .class_ 4), (0, u "java/lang/Object")] 6

/-- java/lang/constant/Constable -/
def k7 : Class := { plain "java/lang/constant/Constable" (some 0) with
  accessFlags := 1537
  interfaces := #[]
  cf := some (fileOf pool7 1 #[] #[] 1537 3 #[] #[])
  fields := #[]
  methods := #[]
  instanceTypes := #[]
  staticTypes := #[]
  resolved := Array.replicate 11 none
  statics := none }

def pool8 : Array CpInfo := pool [(1, .class_ 2), (0, u "java/lang/constant/ConstantDesc"), (0, .class_ 4), (0, u "java/lang/Object")] 32

/-- java/lang/constant/ConstantDesc -/
def k8 : Class := { plain "java/lang/constant/ConstantDesc" (some 0) with
  accessFlags := 1537
  interfaces := #[]
  cf := some (fileOf pool8 1 #[] #[] 1537 3 #[] #[])
  fields := #[]
  methods := #[]
  instanceTypes := #[]
  staticTypes := #[]
  resolved := Array.replicate 37 none
  statics := none }

def pool9 : Array CpInfo := pool [(1, .class_ 2), (0, u "java/lang/Integer"), (16, u "digits"), (0, u "[C"), (33, u "(I)I"), (30, u "DigitOnes"), (0, u "[B"), (2, u "DigitTens"), (99, .class_ 190), (0, u "java/lang/Integer$IntegerCache"), (3, u "I"), (8, .class_ 204), (0, u "java/lang/Number"), (2, u "value"), (56, .integer 65536), (37, u "TYPE"), (0, u "Ljava/lang/Class;"), (0, .class_ 305), (0, u "java/lang/Comparable"), (0, .class_ 307), (0, u "java/lang/constant/Constable"), (0, .class_ 309), (0, u "java/lang/constant/ConstantDesc"), (0, u "MIN_VALUE"), (1, u "MAX_VALUE"), (3, u "SIZE"), (1, u "BYTES"), (1, u "serialVersionUID"), (0, u "J"), (84, u "numberOfTrailingZeros")] 46

def k9c0 : Code := { maxStack := 3, maxLocals := 2, code := jdk_33_method_48_code, exceptionTable := #[], attributes := #[] }
def k9m0 : Method := { name := "numberOfTrailingZeros", desc := "(I)I", sig := { parameters := [.int], returnType := some .int }, accessFlags := 9, code := some k9c0 }
/-- java/lang/Integer -/
def k9 : Class := { plain "java/lang/Integer" (some 5) with
  accessFlags := 49
  interfaces := #[6, 7, 8]
  cf := some (fileOf pool9 1 #[.nestMembers #[189]] #[{ accessFlags := 9, nameIndex := 406, descriptorIndex := 54, attributes := #[] }] 49 203 #[304, 306, 308] #[{ accessFlags := 25, nameIndex := 310, descriptorIndex := 194, attributes := #[] }, { accessFlags := 25, nameIndex := 312, descriptorIndex := 194, attributes := #[] }, { accessFlags := 25, nameIndex := 302, descriptorIndex := 303, attributes := #[] }, { accessFlags := 24, nameIndex := 19, descriptorIndex := 20, attributes := #[] }, { accessFlags := 24, nameIndex := 89, descriptorIndex := 86, attributes := #[] }, { accessFlags := 24, nameIndex := 85, descriptorIndex := 86, attributes := #[] }, { accessFlags := 18, nameIndex := 207, descriptorIndex := 194, attributes := #[] }, { accessFlags := 25, nameIndex := 316, descriptorIndex := 194, attributes := #[] }, { accessFlags := 25, nameIndex := 318, descriptorIndex := 194, attributes := #[] }, { accessFlags := 26, nameIndex := 320, descriptorIndex := 321, attributes := #[] }])
  fields := #[{ name := "MIN_VALUE", type := .int, accessFlags := 25, slot := 0, constantValue := 0 }, { name := "MAX_VALUE", type := .int, accessFlags := 25, slot := 1, constantValue := 0 }, { name := "TYPE", type := (.object "java/lang/Class"), accessFlags := 25, slot := 2, constantValue := 0 }, { name := "digits", type := (.array .char), accessFlags := 24, slot := 3, constantValue := 0 }, { name := "DigitTens", type := (.array .byte), accessFlags := 24, slot := 4, constantValue := 0 }, { name := "DigitOnes", type := (.array .byte), accessFlags := 24, slot := 5, constantValue := 0 }, { name := "value", type := .int, accessFlags := 18, slot := 0, constantValue := 0 }, { name := "SIZE", type := .int, accessFlags := 25, slot := 6, constantValue := 0 }, { name := "BYTES", type := .int, accessFlags := 25, slot := 7, constantValue := 0 }, { name := "serialVersionUID", type := .long, accessFlags := 26, slot := 8, constantValue := 0 }]
  methods := #[k9m0]
  instanceTypes := #[.int]
  staticTypes := #[.int, .int, (.object "java/lang/Class"), (.array .char), (.array .byte), (.array .byte), .int, .int, .long]
  resolved := Array.replicate 453 none
  statics := none }

def pool10 : Array CpInfo := pool [(1, u "java/lang/Cloneable"), (0, .class_ 1), (0, u "java/lang/Object"), (0, .class_ 3)] 3

/-- java/lang/Cloneable -/
def k10 : Class := { plain "java/lang/Cloneable" (some 0) with
  accessFlags := 1537
  interfaces := #[]
  cf := some (fileOf pool10 2 #[] #[] 1537 4 #[] #[])
  fields := #[]
  methods := #[]
  instanceTypes := #[]
  staticTypes := #[]
  resolved := Array.replicate 8 none
  statics := none }

/-- the primitive byte -/
def k11 : Class := { plain "byte" none with kind := .primitive 'B', accessFlags := 0x411 }
/-- [B -/
def k12 : Class := { plain "[B" (some 0) with kind := .array 11 .byte, interfaces := #[10, 4], accessFlags := 1041 }

/-- the primitive double -/
def k13 : Class := { plain "double" none with kind := .primitive 'D', accessFlags := 0x411 }
/-- [D -/
def k14 : Class := { plain "[D" (some 0) with kind := .array 13 .double, interfaces := #[10, 4], accessFlags := 1041 }

/-- the primitive int -/
def k15 : Class := { plain "int" none with kind := .primitive 'I', accessFlags := 0x411 }
/-- [I -/
def k16 : Class := { plain "[I" (some 0) with kind := .array 15 .int, interfaces := #[10, 4], accessFlags := 1041 }

/-- the primitive long -/
def k17 : Class := { plain "long" none with kind := .primitive 'J', accessFlags := 0x411 }
/-- [J -/
def k18 : Class := { plain "[J" (some 0) with kind := .array 17 .long, interfaces := #[10, 4], accessFlags := 1041 }

def heap : Heap := #[]
def classes : Array Class := #[k0, k1, k2, k3, k4, k5, k6, k7, k8, k9, k10, k11, k12, k13, k14, k15, k16, k17, k18]
def interned : List (Array UInt16 × Addr) := []
def slotsUsed : Nat := 0
def theMethod : MethodId := ⟨1, 1⟩
def args0 : Array Value := #[.int 15, .long 1, .long 2, .long 3, .long 4, .int 5]
def aboutOver (below : List Frame) : State where
  vm := { classes := classes, interned := interned.toArray }
  heap := heap
  slotsUsed := slotsUsed
  threads := #[{ frames := .invoking theMethod args0 :: below }]
def below0 : List Frame := [.native { method := ⟨0, 0⟩, args := #[] }]
def about1 : State := aboutOver below0
def p0 : Program := .bare "" "" ""
def e0 : Env := launch0.env 0 0 0
theorem w_frames : about1.frames = Frame.invoking theMethod args0 :: below0 := rfl
set_option maxRecDepth 65536 in
theorem w_args : argsFit about1.vm theMethod args0 = true := by decide +kernel
set_option maxRecDepth 65536 in
theorem w_heap : heapFits about1 = true := by decide +kernel
set_option maxRecDepth 65536 in
theorem w_runnable : about1.curStatus? = some .runnable := by decide +kernel
set_option maxRecDepth 65536 in
theorem w_alone : about1.alone = true := by decide +kernel
set_option maxRecDepth 65536 in
theorem w_named : about1.methodNamed? x = some theMethod := by decide +kernel
set_option maxRecDepth 65536 in
theorem w_hears : about1.hears theMethod below0 = true := by decide +kernel
set_option maxRecDepth 65536 in
theorem w_ripe : about1.ripe theMethod args0 below0 = true := by decide +kernel
theorem w_running : about1.status = .running := rfl
set_option maxRecDepth 65536 in
theorem w_room : about1.hasRoom e0.platform room_1 = true :=
  launch0.hasRoom_least _ room_1 (by decide +kernel) (by decide +kernel) (by decide +kernel) (by decide +kernel) (by decide +kernel) (by decide +kernel)
theorem allAtoms_all (ts : List Jvm.Cond) (a : Array Jvm.Value) (st : Jvm.State) : (allAtoms ts).before a st = ts.all (fun c => c.before a st) := by
  induction ts with
  | nil => rfl
  | cons c t ih =>
    show (Jvm.Cond.and c (allAtoms t)).before a st = _
    rw [Jvm.Cond.before_and, ih, List.all_cons]
def words1 : List Jvm.Cond := Jvm.Cond.code x code maxLocals ret :: tables_1
/-- a 'code' word, met by the world's own term for the bytes: nothing is compared byte by byte -/
theorem code_word {y : MethodName} {bytes : ByteArray} {mx : Nat} {rt : Option FieldType} {a : Array Value} {s : State} {m : MethodId} {meth : Method} {c : Code} (h1 : s.methodNamed? y = some m) (h2 : s.vm.method? m = some meth) (h3 : meth.code = some c) (h4 : c.code = bytes)
    (h5 : (c.maxLocals == mx && c.exceptionTable.isEmpty && decide (c.maxStack ≤ mostOperands) && decide (meth.sig.returnType = rt) && !meth.locks && decide (parseMethodDescriptor y.desc = some meth.sig)) = true) : (Jvm.Cond.code y bytes mx rt).before a s = true := by
  simp only [Bool.and_eq_true, beq_iff_eq, Bool.not_eq_true', decide_eq_true_eq] at h5
  obtain ⟨⟨⟨⟨⟨g1, g2⟩, g3⟩, g4⟩, g5⟩, g6⟩ := h5
  simp [Cond.before, Cond.holds, Cond.value, h1, h2, h3, h4, g1, g2, g3, g4, g5, g6]
def isCode : Jvm.Cond → Bool
  | .code _ _ _ _ => true
  | _ => false
theorem all_split {L : List Jvm.Cond} {P : Jvm.Cond → Bool} (h1 : L.all (fun c => isCode c || P c) = true) (h2 : ∀ c ∈ L.filter isCode, P c = true) : L.all P = true := by
  refine List.all_eq_true.mpr fun c hc => ?_
  have h := List.all_eq_true.mp h1 c hc
  rcases Bool.eq_false_or_eq_true (isCode c) with hi | hi
  · exact h2 c (List.mem_filter.mpr ⟨hc, hi⟩)
  · simpa [hi] using h
set_option maxRecDepth 65536 in
theorem w_c0 : (Jvm.Cond.code x code maxLocals ret).before args0 about1 = true := code_word (m := ⟨1, 1⟩) (meth := k1m1) (c := k1c1) (by decide +kernel) rfl rfl rfl (by decide +kernel)
set_option maxRecDepth 65536 in
theorem w_c1 : (Jvm.Cond.code ({ cls := "com/example/outis/outis/clustering/KeptCharges", name := "<init>", desc := "(I)V" } : Jvm.MethodName) prog_2_method_1_code (2 : Nat) (Option.none : Option Jvm.ClassFile.FieldType)).before args0 about1 = true := code_word (m := ⟨2, 0⟩) (meth := k2m0) (c := k2c0) (by decide +kernel) rfl rfl rfl (by decide +kernel)
set_option maxRecDepth 65536 in
theorem w_c2 : (Jvm.Cond.code ({ cls := "java/lang/Object", name := "<init>", desc := "()V" } : Jvm.MethodName) object_method_1_code (1 : Nat) (Option.none : Option Jvm.ClassFile.FieldType)).before args0 about1 = true := code_word (m := ⟨0, 0⟩) (meth := k0m0) (c := k0c0) (by decide +kernel) rfl rfl rfl (by decide +kernel)
set_option maxRecDepth 65536 in
theorem w_c3 : (Jvm.Cond.code ({ cls := "com/example/outis/outis/clustering/KeptCharges", name := "makePlaces", desc := "(I)V" } : Jvm.MethodName) prog_2_method_4_code (2 : Nat) (Option.none : Option Jvm.ClassFile.FieldType)).before args0 about1 = true := code_word (m := ⟨2, 3⟩) (meth := k2m3) (c := k2c3) (by decide +kernel) rfl rfl rfl (by decide +kernel)
set_option maxRecDepth 65536 in
theorem w_c4 : (Jvm.Cond.code ({ cls := "java/util/Arrays", name := "fill", desc := "([JJ)V" } : Jvm.MethodName) jdk_65_method_101_code (5 : Nat) (Option.none : Option Jvm.ClassFile.FieldType)).before args0 about1 = true := code_word (m := ⟨3, 1⟩) (meth := k3m1) (c := k3c1) (by decide +kernel) rfl rfl rfl (by decide +kernel)
set_option maxRecDepth 65536 in
theorem w_c5 : (Jvm.Cond.code ({ cls := "java/lang/Integer", name := "numberOfTrailingZeros", desc := "(I)I" } : Jvm.MethodName) jdk_33_method_48_code (2 : Nat) (Option.some Jvm.ClassFile.FieldType.int)).before args0 about1 = true := code_word (m := ⟨9, 0⟩) (meth := k9m0) (c := k9c0) (by decide +kernel) rfl rfl rfl (by decide +kernel)
set_option maxRecDepth 65536 in
theorem w_c6 : (Jvm.Cond.code ({ cls := "com/example/outis/outis/clustering/KeptCharges", name := "get", desc := "(J)D" } : Jvm.MethodName) prog_2_method_2_code (4 : Nat) (Option.some Jvm.ClassFile.FieldType.double)).before args0 about1 = true := code_word (m := ⟨2, 1⟩) (meth := k2m1) (c := k2c1) (by decide +kernel) rfl rfl rfl (by decide +kernel)
set_option maxRecDepth 65536 in
theorem w_c7 : (Jvm.Cond.code ({ cls := "com/example/outis/outis/clustering/KeptCharges", name := "placeOf", desc := "(J)I" } : Jvm.MethodName) prog_2_method_6_code (4 : Nat) (Option.some Jvm.ClassFile.FieldType.int)).before args0 about1 = true := code_word (m := ⟨2, 5⟩) (meth := k2m5) (c := k2c5) (by decide +kernel) rfl rfl rfl (by decide +kernel)
set_option maxRecDepth 65536 in
theorem w_c8 : (Jvm.Cond.code ({ cls := "com/example/outis/outis/clustering/KeptChargesGetPinLaw", name := "check", desc := "(DJZJDZJDZJD)Z" } : Jvm.MethodName) method_3_code (19 : Nat) (Option.some Jvm.ClassFile.FieldType.boolean)).before args0 about1 = true := code_word (m := ⟨1, 2⟩) (meth := k1m2) (c := k1c2) (by decide +kernel) rfl rfl rfl (by decide +kernel)
set_option maxRecDepth 65536 in
theorem w_c9 : (Jvm.Cond.code ({ cls := "com/example/outis/outis/clustering/KeptCharges", name := "put", desc := "(JD)V" } : Jvm.MethodName) prog_2_method_3_code (8 : Nat) (Option.none : Option Jvm.ClassFile.FieldType)).before args0 about1 = true := code_word (m := ⟨2, 2⟩) (meth := k2m2) (c := k2c2) (by decide +kernel) rfl rfl rfl (by decide +kernel)
set_option maxRecDepth 65536 in
theorem w_c10 : (Jvm.Cond.code ({ cls := "com/example/outis/outis/clustering/KeptCharges", name := "keep", desc := "(JD)V" } : Jvm.MethodName) prog_2_method_5_code (6 : Nat) (Option.none : Option Jvm.ClassFile.FieldType)).before args0 about1 = true := code_word (m := ⟨2, 4⟩) (meth := k2m4) (c := k2c4) (by decide +kernel) rfl rfl rfl (by decide +kernel)
def codes1 : List Jvm.Cond := [Jvm.Cond.code x code maxLocals ret, Jvm.Cond.code ({ cls := "com/example/outis/outis/clustering/KeptCharges", name := "<init>", desc := "(I)V" } : Jvm.MethodName) prog_2_method_1_code (2 : Nat) (Option.none : Option Jvm.ClassFile.FieldType), Jvm.Cond.code ({ cls := "java/lang/Object", name := "<init>", desc := "()V" } : Jvm.MethodName) object_method_1_code (1 : Nat) (Option.none : Option Jvm.ClassFile.FieldType), Jvm.Cond.code ({ cls := "com/example/outis/outis/clustering/KeptCharges", name := "makePlaces", desc := "(I)V" } : Jvm.MethodName) prog_2_method_4_code (2 : Nat) (Option.none : Option Jvm.ClassFile.FieldType), Jvm.Cond.code ({ cls := "java/util/Arrays", name := "fill", desc := "([JJ)V" } : Jvm.MethodName) jdk_65_method_101_code (5 : Nat) (Option.none : Option Jvm.ClassFile.FieldType), Jvm.Cond.code ({ cls := "java/lang/Integer", name := "numberOfTrailingZeros", desc := "(I)I" } : Jvm.MethodName) jdk_33_method_48_code (2 : Nat) (Option.some Jvm.ClassFile.FieldType.int), Jvm.Cond.code ({ cls := "com/example/outis/outis/clustering/KeptCharges", name := "get", desc := "(J)D" } : Jvm.MethodName) prog_2_method_2_code (4 : Nat) (Option.some Jvm.ClassFile.FieldType.double), Jvm.Cond.code ({ cls := "com/example/outis/outis/clustering/KeptCharges", name := "placeOf", desc := "(J)I" } : Jvm.MethodName) prog_2_method_6_code (4 : Nat) (Option.some Jvm.ClassFile.FieldType.int), Jvm.Cond.code ({ cls := "com/example/outis/outis/clustering/KeptChargesGetPinLaw", name := "check", desc := "(DJZJDZJDZJD)Z" } : Jvm.MethodName) method_3_code (19 : Nat) (Option.some Jvm.ClassFile.FieldType.boolean), Jvm.Cond.code ({ cls := "com/example/outis/outis/clustering/KeptCharges", name := "put", desc := "(JD)V" } : Jvm.MethodName) prog_2_method_3_code (8 : Nat) (Option.none : Option Jvm.ClassFile.FieldType), Jvm.Cond.code ({ cls := "com/example/outis/outis/clustering/KeptCharges", name := "keep", desc := "(JD)V" } : Jvm.MethodName) prog_2_method_5_code (6 : Nat) (Option.none : Option Jvm.ClassFile.FieldType)]
set_option maxRecDepth 65536 in
theorem codes_eq : words1.filter isCode = codes1 := rfl
theorem w_codes : ∀ c ∈ words1.filter isCode, c.before args0 about1 = true := by
  rw [codes_eq]
  intro c hc
  simp only [codes1, List.mem_cons, List.not_mem_nil, or_false] at hc
  rcases hc with rfl | rfl | rfl | rfl | rfl | rfl | rfl | rfl | rfl | rfl | rfl
  · exact w_c0
  · exact w_c1
  · exact w_c2
  · exact w_c3
  · exact w_c4
  · exact w_c5
  · exact w_c6
  · exact w_c7
  · exact w_c8
  · exact w_c9
  · exact w_c10
set_option maxRecDepth 65536 in
theorem w_t1 : (words1.take 24).all (fun c => isCode c || c.before args0 about1) = true := by decide +kernel
set_option maxRecDepth 65536 in
theorem w_t2 : ((words1.drop 24).take 24).all (fun c => isCode c || c.before args0 about1) = true := by decide +kernel
set_option maxRecDepth 65536 in
theorem w_t3 : ((words1.drop 24).drop 24).all (fun c => isCode c || c.before args0 about1) = true := by decide +kernel
theorem w_tables : (allAtoms (Jvm.Cond.code x code maxLocals ret :: tables_1)).before args0 about1 = true := by
  rw [allAtoms_all]
  show words1.all (fun c => c.before args0 about1) = true
  refine all_split ?_ w_codes
  rw [← List.take_append_drop 24 words1, List.all_append, w_t1, ← List.take_append_drop 24 (words1.drop 24), List.all_append, w_t2, w_t3]
  rfl
set_option maxRecDepth 65536 in
theorem w_case : (Jvm.Cond.and given_1 narrow_1).before args0 about1 = true := by decide +kernel
theorem w_applies : (headSpec (Jvm.Cond.code x code maxLocals ret :: tables_1) room_1).applies x e0.platform about1 = true :=
  (Spec.applies_iff w_frames).mpr ⟨w_running, w_runnable, w_alone, w_named, w_hears, w_ripe, w_room, w_tables⟩
theorem atStart : AtStart classFile x code maxLocals ret World_1 tables_1 room_1 Calls_1 rest_1 Pre_1 launch0 p0 e0 about1 theMethod args0 below0 :=
  ⟨lists_1, trivial, launch0.admits_env _ _ _, launch0.least_env, fairChoices_fair.cas, fairChoices_fair.clock, w_frames, w_args, w_heap, w_applies, trivial, trivial, w_case⟩
end start1
theorem witness_1 : WitnessClaimed_1 := ⟨start1.p0, start1.e0, start1.about1, start1.theMethod, start1.args0, start1.below0, start1.atStart⟩
end Jvm.Pilot.@@N@@
