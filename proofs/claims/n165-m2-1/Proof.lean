import JvmDerived
import JvmDerived.Pilot.@@N@@Statement
import JvmDerived.Pilot.@@N@@Code
set_option linter.unusedVariables false
set_option linter.unusedSimpArgs false
namespace Jvm.Pilot.@@N@@
open Jvm Jvm.ClassFile Sem Op Lib Jvm.Free Jvm.Stand Jvm.LawKit Jvm.RoadKit Bundle Jvm.Pilot.@@N@@.Jvm.D
section OwnKit
variable {p : Program} {l : Launch} {e : Env} {R : Room} {s : State} {m : MethodId} {args : Array Value} {below : List Frame} {meth : Method} {c : Code} {T T' : State} {locs : List Loc} {cells slots : Nat} {F F' : JFrame} {K : State → Prop}
/-- from the frame F the run comes to a state that K takes -/
def own_R (p : Program) (e : Env) (below : List Frame) (K : State → Prop) (T : State) (F : JFrame) : Prop := ∃ t, Steps p.tables e below (T.setTop F) t ∧ K t
theorem own_go (h : ∀ t, Steps p.tables e below (T'.setTop F') t → Steps p.tables e below (T.setTop F) t) (r : own_R p e below K T' F') : own_R p e below K T F := by
  obtain ⟨t, h1, h2⟩ := r
  exact ⟨t, h t h1, h2⟩
/-- the end of the body: it returned, and Q holds -/
def own_E (s : State) (below : List Frame) (Q : Option Value → Heap → List Loc → Prop) (k n : Nat) (t : State) : Prop :=
  t.status = .running ∧ ∃ v L, Ended t below (.returned v) ∧ Q v t.heap L ∧ FrameEnd s (.returned v) t L k n
/-- a join: the run stands at F', the heap as I says -/
def own_K (p : Program) (l : Launch) (e : Env) (R : Room) (s : State) (m : MethodId) (args : Array Value) (below : List Frame) (meth : Method) (c : Code) (n0 cells slots : Nat) (I : Heap → Prop) (F' : JFrame) (t : State) : Prop :=
  ∃ (T' : State) (L' : List Loc), t = T'.setTop F' ∧ Stand p l e R s m args below meth c T' L' cells slots ∧ I T'.heap ∧ Fr n0 L'
theorem own_here {n0 : Nat} {I : Heap → Prop} (X : Stand p l e R s m args below meth c T locs cells slots) (i : I T.heap) (N : Fr n0 locs) : own_R p e below (own_K p l e R s m args below meth c n0 cells slots I F) T F :=
  ⟨_, Steps.refl _, T, locs, rfl, X, i, N⟩
theorem own_retN {Q : Option Value → Heap → List Loc → Prop} {k n : Nat} (X : Stand p l e R s m args below meth c T locs cells slots) (hx : p.tables.exec = Jvm.exec) {pc : Nat} {Ls : Array Slot} {z : Int32} {t : FieldType} {rest : List Value} (hret : meth.sig.returnType = some t) (ht : t = .boolean ∨ t = .byte ∨ t = .char ∨ t = .short) (hlk : meth.locks = false)
    (hd : decode c.code pc = .ok (.ireturn, 1)) (hk : cells ≤ k) (hn : slots ≤ n) (hQ : Q (some (.int (nar t z))) T.heap locs) : own_R p e below (own_E s below Q k n) T (mkF m pc Ls (.int z :: rest)) := by
  obtain ⟨fs, hr, hrun, hended, hW, hsame⟩ := X.leave (v := some (.int (nar t z))) (fun h => by rw [hret] at h; cases h) hlk
  exact ⟨_, retN X hx hret ht hd hr, hrun, _, _, hended, hQ, ⟨_, rfl⟩, hW, hsame.mono hk hn⟩
theorem own_retW {Q : Option Value → Heap → List Loc → Prop} {k n : Nat} (X : Stand p l e R s m args below meth c T locs cells slots) (hx : p.tables.exec = Jvm.exec) {pc : Nat} {Ls : Array Slot} {w : Value} {t : FieldType} {i : Instr} {rest : List Value} (hret : meth.sig.returnType = some t) (hnw : narrow t w = w)
    (hi : (i = .ireturn ∧ (t = .int ∨ t = .boolean ∨ t = .byte ∨ t = .char ∨ t = .short) ∧ ∃ z, w = .int z) ∨ (i = .lreturn ∧ t = .long ∧ ∃ z, w = .long z) ∨ (i = .dreturn ∧ t = .double ∧ ∃ z, w = .double z) ∨ (i = .freturn ∧ t = .float ∧ ∃ z, w = .float z) ∨ (i = .areturn ∧ t.isReference = true ∧ w.isRef = true)) (hlk : meth.locks = false)
    (hd : decode c.code pc = .ok (i, 1)) (hk : cells ≤ k) (hn : slots ≤ n) (hQ : Q (some w) T.heap locs) : own_R p e below (own_E s below Q k n) T (mkF m pc Ls (w :: rest)) := by
  obtain ⟨fs, hr, hrun, hended, hW, hsame⟩ := X.leave (v := some w) (fun h => by rw [hret] at h; cases h) hlk
  exact ⟨_, retOut X hx hret hnw hi hd hr, hrun, _, _, hended, hQ, ⟨_, rfl⟩, hW, hsame.mono hk hn⟩
theorem own_retV {Q : Option Value → Heap → List Loc → Prop} {k n : Nat} (X : Stand p l e R s m args below meth c T locs cells slots) (hx : p.tables.exec = Jvm.exec) {pc : Nat} {Ls : Array Slot} (hret : meth.sig.returnType = none) (hlk : meth.locks = false)
    (hd : decode c.code pc = .ok (.return_, 1)) (hk : cells ≤ k) (hn : slots ≤ n) (hQ : Q none T.heap locs) : own_R p e below (own_E s below Q k n) T (mkF m pc Ls []) := by
  obtain ⟨fs, hr, hrun, hended, hW, hsame⟩ := X.leave (v := none) (fun _ => rfl) hlk
  exact ⟨_, X.returnOut hx hret hd hr, hrun, _, _, hended, hQ, ⟨_, rfl⟩, hW, hsame.mono hk hn⟩
theorem own_lti {x y : Int32} {a b : Int} (h : x < y) (ha : x.toInt = a) (hb : y.toInt = b) : a < b := by rw [← ha, ← hb]; exact Int32.lt_iff_toInt_lt.mp h
theorem own_nlti {x y : Int32} {a b : Int} (h : ¬ x < y) (ha : x.toInt = a) (hb : y.toInt = b) : b ≤ a := by rw [← ha, ← hb]; rw [Int32.lt_iff_toInt_lt] at h; omega
theorem own_eqi {x y : Int32} {a b : Int} (h : x = y) (ha : x.toInt = a) (hb : y.toInt = b) : a = b := by rw [← ha, ← hb, h]
theorem own_nei {x y : Int32} {a b : Int} (h : ¬ x = y) (ha : x.toInt = a) (hb : y.toInt = b) : a ≠ b := by rw [← ha, ← hb]; exact fun q => h (Int32.toInt_inj.mp q)
theorem own_if0 {P : Prop} [Decidable P] (h : (if P then (1 : Int32) else (0 : Int32)) = (0 : Int32)) : ¬ P := fun q => by rw [if_pos q] at h; exact absurd h (by decide)
theorem own_if1 {P : Prop} [Decidable P] (h : ¬ (if P then (1 : Int32) else (0 : Int32)) = (0 : Int32)) : P := by
  by_cases q : P
  · exact q
  · exact absurd (if_neg q) h
theorem own_b01 {P : Prop} [Decidable P] : nar .boolean (if P then (1 : Int32) else (0 : Int32)) = (if P then (1 : Int32) else (0 : Int32)) := by split <;> rfl
/-- the end of the body, where a String constant may have been interned -/
def own_EW (s : State) (below : List Frame) (Q : Option Value → Heap → List Loc → Prop) (k n : Nat) (t : State) : Prop :=
  t.status = .running ∧ ∃ v L, Ended t below (.returned v) ∧ Q v t.heap L ∧ ReturnedEndW s (.returned v) t L k n
theorem own_retNW {Q : Option Value → Heap → List Loc → Prop} {k n j : Nat} {vm₁ : Vm} (X : Stand p l e R (s.setVm vm₁) m args below meth c T locs cells slots) (hx : p.tables.exec = Jvm.exec) {pc : Nat} {Ls : Array Slot} {z : Int32} {t : FieldType} {rest : List Value} (hret : meth.sig.returnType = some t) (ht : t = .boolean ∨ t = .byte ∨ t = .char ∨ t = .short) (hlk : meth.locks = false)
    (hd : decode c.code pc = .ok (.ireturn, 1)) (hS : s.Since vm₁ j) (hj : j ≤ T.heap.size) (hk : cells ≤ k) (hn : slots ≤ n) (hQ : Q (some (.int (nar t z))) T.heap locs) : own_R p e below (own_EW s below Q k n) T (mkF m pc Ls (.int z :: rest)) := by
  obtain ⟨fs, hr, hrun, hended, h1, h2, h3, h4⟩ := X.leaveW hS hj (v := some (.int (nar t z))) (fun h => by rw [hret] at h; cases h) hlk
  exact ⟨_, retN X hx hret ht hd hr, hrun, _, _, hended, hQ, h1, h2, h3, h4.mono hk hn⟩
end OwnKit
theorem own_min (x y : Int32) : (if y < x then y else x) = y ↔ ¬ x < y := by
  by_cases h : y < x
  · rw [if_pos h]
    exact ⟨fun _ q => by rw [Int32.lt_iff_toInt_lt] at *; omega, fun _ => rfl⟩
  · rw [if_neg h]
    constructor
    · intro e q
      subst e
      rw [Int32.lt_iff_toInt_lt] at q; omega
    · intro q
      rw [← Int32.toInt_inj]
      rw [Int32.lt_iff_toInt_lt] at *; omega
theorem own_max (x y : Int32) : (if x < y then y else x) = y ↔ ¬ y < x := by
  by_cases h : x < y
  · rw [if_pos h]
    exact ⟨fun _ q => by rw [Int32.lt_iff_toInt_lt] at *; omega, fun _ => rfl⟩
  · rw [if_neg h]
    constructor
    · intro e q
      subst e
      rw [Int32.lt_iff_toInt_lt] at q; omega
    · intro q
      rw [← Int32.toInt_inj]
      rw [Int32.lt_iff_toInt_lt] at *; omega
theorem pd_0 : parseMethodDescriptor "(IIII)V" = some ⟨[.int, .int, .int, .int], none⟩ := by decide +kernel
theorem pd_1 : parseMethodDescriptor "()V" = some ⟨[], none⟩ := by decide +kernel
theorem pd_2 : parseMethodDescriptor "(Lcom/example/tracewise/tracewise/Fragment;)Z" = some ⟨[(.object "com/example/tracewise/tracewise/Fragment")], some .boolean⟩ := by decide +kernel
theorem pd_3 : parseMethodDescriptor "(Lcom/example/tracewise/tracewise/Fragment;)Lcom/example/tracewise/tracewise/Fragment;" = some ⟨[(.object "com/example/tracewise/tracewise/Fragment")], some (.object "com/example/tracewise/tracewise/Fragment")⟩ := by decide +kernel
theorem pd_4 : parseMethodDescriptor "(II)I" = some ⟨[.int, .int], some .int⟩ := by decide +kernel
theorem pd_5 : parseMethodDescriptor "()I" = some ⟨[], some .int⟩ := by decide +kernel
theorem d5_0 : decode jdk_29_method_69_code 0 = .ok (.iload_n 0, 1) := by decide +kernel
theorem d5_1 : decode jdk_29_method_69_code 1 = .ok (.iload_n 1, 1) := by decide +kernel
theorem d5_2 : decode jdk_29_method_69_code 2 = .ok (.if_icmp .gt 7, 3) := by decide +kernel
theorem d5_5 : decode jdk_29_method_69_code 5 = .ok (.iload_n 0, 1) := by decide +kernel
theorem d5_6 : decode jdk_29_method_69_code 6 = .ok (.goto 4, 3) := by decide +kernel
theorem d5_9 : decode jdk_29_method_69_code 9 = .ok (.iload_n 1, 1) := by decide +kernel
theorem d5_10 : decode jdk_29_method_69_code 10 = .ok (.ireturn, 1) := by decide +kernel
theorem ef_5 (m : MethodId) (x0 : Int32) (x1 : Int32) : entryFrame m #[(.int x0), (.int x1)] 2 = mkF m 0 #[.val (.int x0), .val (.int x1)] [] := by first | (simp [entryFrame, mkF, argsToLocals, Value.category]; done) | rfl
def Q5 (Z : State) (p1 : Int32) (p2 : Int32) (h0 : Heap) (n0 : Nat) (v : Option Value) (h : Heap) (L : List Loc) : Prop := v = some (.int (if p2 < p1 then p2 else p1)) ∧ Fr n0 L ∧ h = h0
set_option maxRecDepth 65536 in
set_option maxHeartbeats 40000000 in
theorem rm5 (l : Launch) (Z : State) (a0 : Array Value) (hw : ∀ d ∈ tables_1, d.before a0 Z = true) (ws : List Jvm.Cond) (p1 : Int32) (p2 : Int32) (h0 : Heap) (n0 : Nat) (Z0 : n0 ≤ h0.size) :
    MetFree l (⟨"java/lang/Math", "min", "(II)I"⟩ : MethodName) (head1 (Jvm.Cond.code (⟨"java/lang/Math", "min", "(II)I"⟩ : MethodName) jdk_29_method_69_code 2 (some .int) :: ws) ({ frames := 0, cells := 0, slots := 0, locals := 0 } : Room)) (fun aS U => aS = #[(.int p1), (.int p2)] ∧ Z.Warmed39 U.vm ∧ U.heap = h0) (fun _ _ _ _ _ => True) (fun _ U o U' => ∃ v L, o = .returned v ∧ Q5 Z p1 p2 h0 n0 v U'.heap L ∧ FrameEnd U o U' L ({ frames := 0, cells := 0, slots := 0, locals := 0 } : Room).cells ({ frames := 0, cells := 0, slots := 0, locals := 0 } : Room).slots) := by
  refine MetFree.of_bodySF (Jvm.Free.JP.mathPlain rfl (by decide +kernel)) hisR ?_
  intro p e s m args below meth c s₁ Bd hml0 hP hK
  obtain ⟨rfl, hZ, hh⟩ := hP
  have hx := Bd.exec
  have hby := Bd.bytes
  have hml : c.maxLocals = 2 := hml0
  have hown : s.vm.findClass "java/lang/Math" = some m.cls := findClass_of_methodNamed Bd.named
  have hnm := (name_of_methodNamed Bd.named Bd.method).1
  have X0 : Stand p l e ({ frames := 0, cells := 0, slots := 0, locals := 0 } : Room) s m #[(.int p1), (.int p2)] below meth c s₁ [] 0 0 := Stand.of_body Bd
  have e0 : s₁.heap = h0 := by rw [← hh, Bd.state]; rfl
  have N0 := Fr.nil n0
  have Kh : Keep h0 h0 [] := Keep.refl _ _
  suffices H : own_R p e below (own_E s below (Q5 Z p1 p2 h0 n0) ({ frames := 0, cells := 0, slots := 0, locals := 0 } : Room).cells ({ frames := 0, cells := 0, slots := 0, locals := 0 } : Room).slots) s₁ (mkF m 0 #[.val (.int p1), .val (.int p2)] []) by
    obtain ⟨t, hst, hrun, v, L, hend, hQ, hF⟩ := H
    exact ⟨t, _, castTop (ef_5 m p1 p2) hst, hrun, hend, v, L, rfl, hQ, hF⟩
  show own_R p e below _ s₁ (mkF m 0 #[.val (.int p1), .val (.int p2)] [])
  refine own_go (fun t k => XS.iloadN X0.here hx rfl (hb hby d5_0) rfl  k) ?_
  show own_R p e below _ s₁ (mkF m 1 #[.val (.int p1), .val (.int p2)] [(.int p1)])
  refine own_go (fun t k => XS.iloadN X0.here hx rfl (hb hby d5_1) rfl  k) ?_
  show own_R p e below _ s₁ (mkF m 2 #[.val (.int p1), .val (.int p2)] [(.int p2), (.int p1)])
  by_cases hc2_1 : p2 < p1
  · -- pc 2: yes
    refine own_go (fun t k => XS.icmpYes X0.here hx rfl (pc0 := 2) (pc' := 9) rfl (hb hby d5_2) rfl (tlt hc2_1).2.2.1 (by decide) (by decide) k) ?_
    show own_R p e below _ s₁ (mkF m 9 #[.val (.int p1), .val (.int p2)] [])
    refine own_go (fun t k => XS.iloadN X0.here hx rfl (hb hby d5_9) rfl  k) ?_
    show own_R p e below _ s₁ (mkF m 10 #[.val (.int p1), .val (.int p2)] [(.int p2)])
    refine own_retW X0 hx Bd.returns rfl (Or.inl ⟨rfl, Or.inl rfl, _, rfl⟩) (BodyLoose.notSynchronized Bd) (hb hby d5_10) (by decide) (by decide) ?_
    exact ⟨by rw [if_pos hc2_1], N0, e0⟩
  · -- pc 2: no
    refine own_go (fun t k => XS.icmpNo X0.here hx rfl (hb hby d5_2) rfl (flt hc2_1).2.2.1 k) ?_
    show own_R p e below _ s₁ (mkF m 5 #[.val (.int p1), .val (.int p2)] [])
    refine own_go (fun t k => XS.iloadN X0.here hx rfl (hb hby d5_5) rfl  k) ?_
    show own_R p e below _ s₁ (mkF m 6 #[.val (.int p1), .val (.int p2)] [(.int p1)])
    refine own_go (fun t k => XS.goto X0.here hx rfl (pc0 := 6) (pc' := 10) rfl (hb hby d5_6) (by decide) (by decide) k) ?_
    show own_R p e below _ s₁ (mkF m 10 #[.val (.int p1), .val (.int p2)] [(.int p1)])
    refine own_retW X0 hx Bd.returns rfl (Or.inl ⟨rfl, Or.inl rfl, _, rfl⟩) (BodyLoose.notSynchronized Bd) (hb hby d5_10) (by decide) (by decide) ?_
    exact ⟨by rw [if_neg hc2_1], N0, e0⟩
theorem d6_0 : decode jdk_29_method_65_code 0 = .ok (.iload_n 0, 1) := by decide +kernel
theorem d6_1 : decode jdk_29_method_65_code 1 = .ok (.iload_n 1, 1) := by decide +kernel
theorem d6_2 : decode jdk_29_method_65_code 2 = .ok (.if_icmp .lt 7, 3) := by decide +kernel
theorem d6_5 : decode jdk_29_method_65_code 5 = .ok (.iload_n 0, 1) := by decide +kernel
theorem d6_6 : decode jdk_29_method_65_code 6 = .ok (.goto 4, 3) := by decide +kernel
theorem d6_9 : decode jdk_29_method_65_code 9 = .ok (.iload_n 1, 1) := by decide +kernel
theorem d6_10 : decode jdk_29_method_65_code 10 = .ok (.ireturn, 1) := by decide +kernel
theorem ef_6 (m : MethodId) (x0 : Int32) (x1 : Int32) : entryFrame m #[(.int x0), (.int x1)] 2 = mkF m 0 #[.val (.int x0), .val (.int x1)] [] := by first | (simp [entryFrame, mkF, argsToLocals, Value.category]; done) | rfl
def Q6 (Z : State) (p1 : Int32) (p2 : Int32) (h0 : Heap) (n0 : Nat) (v : Option Value) (h : Heap) (L : List Loc) : Prop := v = some (.int (if p1 < p2 then p2 else p1)) ∧ Fr n0 L ∧ h = h0
set_option maxRecDepth 65536 in
set_option maxHeartbeats 40000000 in
theorem rm6 (l : Launch) (Z : State) (a0 : Array Value) (hw : ∀ d ∈ tables_1, d.before a0 Z = true) (ws : List Jvm.Cond) (p1 : Int32) (p2 : Int32) (h0 : Heap) (n0 : Nat) (Z0 : n0 ≤ h0.size) :
    MetFree l (⟨"java/lang/Math", "max", "(II)I"⟩ : MethodName) (head1 (Jvm.Cond.code (⟨"java/lang/Math", "max", "(II)I"⟩ : MethodName) jdk_29_method_65_code 2 (some .int) :: ws) ({ frames := 0, cells := 0, slots := 0, locals := 0 } : Room)) (fun aS U => aS = #[(.int p1), (.int p2)] ∧ Z.Warmed39 U.vm ∧ U.heap = h0) (fun _ _ _ _ _ => True) (fun _ U o U' => ∃ v L, o = .returned v ∧ Q6 Z p1 p2 h0 n0 v U'.heap L ∧ FrameEnd U o U' L ({ frames := 0, cells := 0, slots := 0, locals := 0 } : Room).cells ({ frames := 0, cells := 0, slots := 0, locals := 0 } : Room).slots) := by
  refine MetFree.of_bodySF (Jvm.Free.JP.mathPlain rfl (by decide +kernel)) hisR ?_
  intro p e s m args below meth c s₁ Bd hml0 hP hK
  obtain ⟨rfl, hZ, hh⟩ := hP
  have hx := Bd.exec
  have hby := Bd.bytes
  have hml : c.maxLocals = 2 := hml0
  have hown : s.vm.findClass "java/lang/Math" = some m.cls := findClass_of_methodNamed Bd.named
  have hnm := (name_of_methodNamed Bd.named Bd.method).1
  have X0 : Stand p l e ({ frames := 0, cells := 0, slots := 0, locals := 0 } : Room) s m #[(.int p1), (.int p2)] below meth c s₁ [] 0 0 := Stand.of_body Bd
  have e0 : s₁.heap = h0 := by rw [← hh, Bd.state]; rfl
  have N0 := Fr.nil n0
  have Kh : Keep h0 h0 [] := Keep.refl _ _
  suffices H : own_R p e below (own_E s below (Q6 Z p1 p2 h0 n0) ({ frames := 0, cells := 0, slots := 0, locals := 0 } : Room).cells ({ frames := 0, cells := 0, slots := 0, locals := 0 } : Room).slots) s₁ (mkF m 0 #[.val (.int p1), .val (.int p2)] []) by
    obtain ⟨t, hst, hrun, v, L, hend, hQ, hF⟩ := H
    exact ⟨t, _, castTop (ef_6 m p1 p2) hst, hrun, hend, v, L, rfl, hQ, hF⟩
  show own_R p e below _ s₁ (mkF m 0 #[.val (.int p1), .val (.int p2)] [])
  refine own_go (fun t k => XS.iloadN X0.here hx rfl (hb hby d6_0) rfl  k) ?_
  show own_R p e below _ s₁ (mkF m 1 #[.val (.int p1), .val (.int p2)] [(.int p1)])
  refine own_go (fun t k => XS.iloadN X0.here hx rfl (hb hby d6_1) rfl  k) ?_
  show own_R p e below _ s₁ (mkF m 2 #[.val (.int p1), .val (.int p2)] [(.int p2), (.int p1)])
  by_cases hc2_1 : p1 < p2
  · -- pc 2: yes
    refine own_go (fun t k => XS.icmpYes X0.here hx rfl (pc0 := 2) (pc' := 9) rfl (hb hby d6_2) rfl (tlt hc2_1).1 (by decide) (by decide) k) ?_
    show own_R p e below _ s₁ (mkF m 9 #[.val (.int p1), .val (.int p2)] [])
    refine own_go (fun t k => XS.iloadN X0.here hx rfl (hb hby d6_9) rfl  k) ?_
    show own_R p e below _ s₁ (mkF m 10 #[.val (.int p1), .val (.int p2)] [(.int p2)])
    refine own_retW X0 hx Bd.returns rfl (Or.inl ⟨rfl, Or.inl rfl, _, rfl⟩) (BodyLoose.notSynchronized Bd) (hb hby d6_10) (by decide) (by decide) ?_
    exact ⟨by rw [if_pos hc2_1], N0, e0⟩
  · -- pc 2: no
    refine own_go (fun t k => XS.icmpNo X0.here hx rfl (hb hby d6_2) rfl (flt hc2_1).1 k) ?_
    show own_R p e below _ s₁ (mkF m 5 #[.val (.int p1), .val (.int p2)] [])
    refine own_go (fun t k => XS.iloadN X0.here hx rfl (hb hby d6_5) rfl  k) ?_
    show own_R p e below _ s₁ (mkF m 6 #[.val (.int p1), .val (.int p2)] [(.int p1)])
    refine own_go (fun t k => XS.goto X0.here hx rfl (pc0 := 6) (pc' := 10) rfl (hb hby d6_6) (by decide) (by decide) k) ?_
    show own_R p e below _ s₁ (mkF m 10 #[.val (.int p1), .val (.int p2)] [(.int p1)])
    refine own_retW X0 hx Bd.returns rfl (Or.inl ⟨rfl, Or.inl rfl, _, rfl⟩) (BodyLoose.notSynchronized Bd) (hb hby d6_10) (by decide) (by decide) ?_
    exact ⟨by rw [if_neg hc2_1], N0, e0⟩
theorem d1_0 : decode prog_8_method_1_code 0 = .ok (.aload_n 0, 1) := by decide +kernel
theorem d1_1 : decode prog_8_method_1_code 1 = .ok (.invokespecial 1, 3) := by decide +kernel
theorem d1_4 : decode prog_8_method_1_code 4 = .ok (.aload_n 0, 1) := by decide +kernel
theorem d1_5 : decode prog_8_method_1_code 5 = .ok (.iload_n 1, 1) := by decide +kernel
theorem d1_6 : decode prog_8_method_1_code 6 = .ok (.putfield 7, 3) := by decide +kernel
theorem d1_9 : decode prog_8_method_1_code 9 = .ok (.aload_n 0, 1) := by decide +kernel
theorem d1_10 : decode prog_8_method_1_code 10 = .ok (.iload_n 2, 1) := by decide +kernel
theorem d1_11 : decode prog_8_method_1_code 11 = .ok (.putfield 13, 3) := by decide +kernel
theorem d1_14 : decode prog_8_method_1_code 14 = .ok (.aload_n 0, 1) := by decide +kernel
theorem d1_15 : decode prog_8_method_1_code 15 = .ok (.iload_n 3, 1) := by decide +kernel
theorem d1_16 : decode prog_8_method_1_code 16 = .ok (.putfield 16, 3) := by decide +kernel
theorem d1_19 : decode prog_8_method_1_code 19 = .ok (.aload_n 0, 1) := by decide +kernel
theorem d1_20 : decode prog_8_method_1_code 20 = .ok (.iload 4, 2) := by decide +kernel
theorem d1_22 : decode prog_8_method_1_code 22 = .ok (.putfield 19, 3) := by decide +kernel
theorem d1_25 : decode prog_8_method_1_code 25 = .ok (.return_, 1) := by decide +kernel
theorem pn_0 : plainName "com/example/tracewise/tracewise/Fragment" = true := by first | (simp [plainName, overriddenIn]; done) | decide +kernel
theorem ef_1 (m : MethodId) (x0 : Addr) (x1 : Int32) (x2 : Int32) (x3 : Int32) (x4 : Int32) : entryFrame m #[(.ref x0), (.int x1), (.int x2), (.int x3), (.int x4)] 5 = mkF m 0 #[.val (.ref x0), .val (.int x1), .val (.int x2), .val (.int x3), .val (.int x4)] [] := by first | (simp [entryFrame, mkF, argsToLocals, Value.category]; done) | rfl
def Q1 (Z : State) (a : Addr) (p1 : Int32) (p2 : Int32) (p3 : Int32) (p4 : Int32) (h0 : Heap) (n0 : Nat) (v : Option Value) (h : Heap) (L : List Loc) : Prop := v = none ∧ Fr n0 L ∧ Keep h0 h [a] ∧ Exa Z h a "com/example/tracewise/tracewise/Fragment" ∧ Fld Z h a "com/example/tracewise/tracewise/Fragment" "start" "I" (.int p1) ∧ Fld Z h a "com/example/tracewise/tracewise/Fragment" "end" "I" (.int p2) ∧ Fld Z h a "com/example/tracewise/tracewise/Fragment" "otherStart" "I" (.int p3) ∧ Fld Z h a "com/example/tracewise/tracewise/Fragment" "otherEnd" "I" (.int p4)
set_option maxRecDepth 65536 in
set_option maxHeartbeats 40000000 in
theorem rm1 (l : Launch) (Z : State) (a0 : Array Value) (hw : ∀ d ∈ tables_1, d.before a0 Z = true) (ws : List Jvm.Cond) (a : Addr) (p1 : Int32) (p2 : Int32) (p3 : Int32) (p4 : Int32) (h0 : Heap) (n0 : Nat) (Z0 : n0 ≤ h0.size) (F_start_a : Fld Z h0 a "com/example/tracewise/tracewise/Fragment" "start" "I" (.int (0 : Int32))) (F_end_a : Fld Z h0 a "com/example/tracewise/tracewise/Fragment" "end" "I" (.int (0 : Int32))) (F_otherStart_a : Fld Z h0 a "com/example/tracewise/tracewise/Fragment" "otherStart" "I" (.int (0 : Int32))) (F_otherEnd_a : Fld Z h0 a "com/example/tracewise/tracewise/Fragment" "otherEnd" "I" (.int (0 : Int32))) (E_a : Exa Z h0 a "com/example/tracewise/tracewise/Fragment") (g_a : n0 ≤ a) :
    MetFree l (⟨"com/example/tracewise/tracewise/Fragment", "<init>", "(IIII)V"⟩ : MethodName) (head1 (Jvm.Cond.code (⟨"com/example/tracewise/tracewise/Fragment", "<init>", "(IIII)V"⟩ : MethodName) prog_8_method_1_code 5 none :: ws) ({ frames := 1, cells := 0, slots := 0, locals := 12 } : Room)) (fun aS U => aS = #[(.ref a), (.int p1), (.int p2), (.int p3), (.int p4)] ∧ Z.Warmed39 U.vm ∧ U.heap = h0) (fun _ _ _ _ _ => True) (fun _ U o U' => ∃ v L, o = .returned v ∧ Q1 Z a p1 p2 p3 p4 h0 n0 v U'.heap L ∧ FrameEnd U o U' L ({ frames := 1, cells := 0, slots := 0, locals := 12 } : Room).cells ({ frames := 1, cells := 0, slots := 0, locals := 12 } : Room).slots) := by
  refine MetFree.of_bodySF (plainFor_of_name pn_0) hisR ?_
  intro p e s m args below meth c s₁ Bd hml0 hP hK
  obtain ⟨rfl, hZ, hh⟩ := hP
  have hx := Bd.exec
  have hby := Bd.bytes
  have hml : c.maxLocals = 5 := hml0
  have hown : s.vm.findClass "com/example/tracewise/tracewise/Fragment" = some m.cls := findClass_of_methodNamed Bd.named
  have hnm := (name_of_methodNamed Bd.named Bd.method).1
  have X0 : Stand p l e ({ frames := 1, cells := 0, slots := 0, locals := 12 } : Room) s m #[(.ref a), (.int p1), (.int p2), (.int p3), (.int p4)] below meth c s₁ [] 0 0 := Stand.of_body Bd
  have e0 : s₁.heap = h0 := by rw [← hh, Bd.state]; rfl
  have N0 := Fr.nil n0
  have Kh : Keep h0 h0 [a] := Keep.refl _ _
  suffices H : own_R p e below (own_E s below (Q1 Z a p1 p2 p3 p4 h0 n0) ({ frames := 1, cells := 0, slots := 0, locals := 12 } : Room).cells ({ frames := 1, cells := 0, slots := 0, locals := 12 } : Room).slots) s₁ (mkF m 0 #[.val (.ref a), .val (.int p1), .val (.int p2), .val (.int p3), .val (.int p4)] []) by
    obtain ⟨t, hst, hrun, v, L, hend, hQ, hF⟩ := H
    exact ⟨t, _, castTop (ef_1 m a p1 p2 p3 p4) hst, hrun, hend, v, L, rfl, hQ, hF⟩
  show own_R p e below _ s₁ (mkF m 0 #[.val (.ref a), .val (.int p1), .val (.int p2), .val (.int p3), .val (.int p4)] [])
  refine own_go (fun t k => XS.aloadN X0.here hx rfl (hb hby d1_0) rfl rfl  k) ?_
  show own_R p e below _ s₁ (mkF m 1 #[.val (.ref a), .val (.int p1), .val (.int p2), .val (.int p3), .val (.int p4)] [(.ref a)])
  obtain ⟨T1, X1, e1, st1⟩ := initO X0 hx hZ hown (hw _ (List.mem_of_getElem? (i := 6) rfl)) (hw _ (List.mem_of_getElem? (i := 7) rfl)) (hw _ (List.mem_of_getElem? (i := 8) rfl)) e0 (g := (mkF m 1 #[.val (.ref a), .val (.int p1), .val (.int p2), .val (.int p3), .val (.int p4)] [(.ref a)])) rfl (by rw [hml]; rfl) rfl (hb hby d1_1) (by decide) (W := 0) (by show 2 * 0 + _ ≤ _; exact Nat.le_of_eq rfl) (by decide)
  refine own_go (st1) ?_
  show own_R p e below _ T1 (mkF m 4 #[.val (.ref a), .val (.int p1), .val (.int p2), .val (.int p3), .val (.int p4)] [])
  refine own_go (fun t k => XS.aloadN X1.here hx rfl (hb hby d1_4) rfl rfl  k) ?_
  show own_R p e below _ T1 (mkF m 5 #[.val (.ref a), .val (.int p1), .val (.int p2), .val (.int p3), .val (.int p4)] [(.ref a)])
  refine own_go (fun t k => XS.iloadN X1.here hx rfl (hb hby d1_5) rfl  k) ?_
  show own_R p e below _ T1 (mkF m 6 #[.val (.ref a), .val (.int p1), .val (.int p2), .val (.int p3), .val (.int p4)] [(.int p1), (.ref a)])
  obtain ⟨T2, h2, X2, e2, W2, st2⟩ := putF X1 hx hZ hown (host := "") (Or.inl (hw _ (List.mem_of_getElem? (i := 9) rfl))) Via.refl e1 F_start_a E_a (Or.inr ⟨(hw _ (List.mem_of_getElem? (i := 10) rfl)), rfl, hnm⟩) (hw _ (List.mem_of_getElem? (i := 1) rfl)) (ty := .int) (by decide) rfl rfl (g := (mkF m 6 #[.val (.ref a), .val (.int p1), .val (.int p2), .val (.int p3), .val (.int p4)] [(.int p1), (.ref a)])) rfl rfl (hb hby d1_6)
  have N2 := Fr.snoc X2 N0 g_a
  replace Kh := Kh.wr W2 (Or.inl (List.mem_of_getElem? (i := 0) rfl))
  replace F_start_a := Fld.same W2 F_start_a
  replace F_end_a := Fld.other W2 F_end_a (Or.inr (slot_ne (Or.inr (hw _ (List.mem_of_getElem? (i := 12) rfl))) (Or.inr (hw _ (List.mem_of_getElem? (i := 10) rfl))) (by decide) (t := .int) (t' := .int) (by decide) (by decide)))
  replace F_otherStart_a := Fld.other W2 F_otherStart_a (Or.inr (slot_ne (Or.inr (hw _ (List.mem_of_getElem? (i := 14) rfl))) (Or.inr (hw _ (List.mem_of_getElem? (i := 10) rfl))) (by decide) (t := .int) (t' := .int) (by decide) (by decide)))
  replace F_otherEnd_a := Fld.other W2 F_otherEnd_a (Or.inr (slot_ne (Or.inr (hw _ (List.mem_of_getElem? (i := 16) rfl))) (Or.inr (hw _ (List.mem_of_getElem? (i := 10) rfl))) (by decide) (t := .int) (t' := .int) (by decide) (by decide)))
  replace E_a := Exa.wr W2 E_a
  refine own_go (st2) ?_
  show own_R p e below _ T2 (mkF m 9 #[.val (.ref a), .val (.int p1), .val (.int p2), .val (.int p3), .val (.int p4)] [])
  refine own_go (fun t k => XS.aloadN X2.here hx rfl (hb hby d1_9) rfl rfl  k) ?_
  show own_R p e below _ T2 (mkF m 10 #[.val (.ref a), .val (.int p1), .val (.int p2), .val (.int p3), .val (.int p4)] [(.ref a)])
  refine own_go (fun t k => XS.iloadN X2.here hx rfl (hb hby d1_10) rfl  k) ?_
  show own_R p e below _ T2 (mkF m 11 #[.val (.ref a), .val (.int p1), .val (.int p2), .val (.int p3), .val (.int p4)] [(.int p2), (.ref a)])
  obtain ⟨T3, h3, X3, e3, W3, st3⟩ := putF X2 hx hZ hown (host := "") (Or.inl (hw _ (List.mem_of_getElem? (i := 11) rfl))) Via.refl e2 F_end_a E_a (Or.inr ⟨(hw _ (List.mem_of_getElem? (i := 12) rfl)), rfl, hnm⟩) (hw _ (List.mem_of_getElem? (i := 1) rfl)) (ty := .int) (by decide) rfl rfl (g := (mkF m 11 #[.val (.ref a), .val (.int p1), .val (.int p2), .val (.int p3), .val (.int p4)] [(.int p2), (.ref a)])) rfl rfl (hb hby d1_11)
  have N3 := Fr.snoc X3 N2 g_a
  replace Kh := Kh.wr W3 (Or.inl (List.mem_of_getElem? (i := 0) rfl))
  replace F_start_a := Fld.other W3 F_start_a (Or.inr (slot_ne (Or.inr (hw _ (List.mem_of_getElem? (i := 10) rfl))) (Or.inr (hw _ (List.mem_of_getElem? (i := 12) rfl))) (by decide) (t := .int) (t' := .int) (by decide) (by decide)))
  replace F_end_a := Fld.same W3 F_end_a
  replace F_otherStart_a := Fld.other W3 F_otherStart_a (Or.inr (slot_ne (Or.inr (hw _ (List.mem_of_getElem? (i := 14) rfl))) (Or.inr (hw _ (List.mem_of_getElem? (i := 12) rfl))) (by decide) (t := .int) (t' := .int) (by decide) (by decide)))
  replace F_otherEnd_a := Fld.other W3 F_otherEnd_a (Or.inr (slot_ne (Or.inr (hw _ (List.mem_of_getElem? (i := 16) rfl))) (Or.inr (hw _ (List.mem_of_getElem? (i := 12) rfl))) (by decide) (t := .int) (t' := .int) (by decide) (by decide)))
  replace E_a := Exa.wr W3 E_a
  refine own_go (st3) ?_
  show own_R p e below _ T3 (mkF m 14 #[.val (.ref a), .val (.int p1), .val (.int p2), .val (.int p3), .val (.int p4)] [])
  refine own_go (fun t k => XS.aloadN X3.here hx rfl (hb hby d1_14) rfl rfl  k) ?_
  show own_R p e below _ T3 (mkF m 15 #[.val (.ref a), .val (.int p1), .val (.int p2), .val (.int p3), .val (.int p4)] [(.ref a)])
  refine own_go (fun t k => XS.iloadN X3.here hx rfl (hb hby d1_15) rfl  k) ?_
  show own_R p e below _ T3 (mkF m 16 #[.val (.ref a), .val (.int p1), .val (.int p2), .val (.int p3), .val (.int p4)] [(.int p3), (.ref a)])
  obtain ⟨T4, h4, X4, e4, W4, st4⟩ := putF X3 hx hZ hown (host := "") (Or.inl (hw _ (List.mem_of_getElem? (i := 13) rfl))) Via.refl e3 F_otherStart_a E_a (Or.inr ⟨(hw _ (List.mem_of_getElem? (i := 14) rfl)), rfl, hnm⟩) (hw _ (List.mem_of_getElem? (i := 1) rfl)) (ty := .int) (by decide) rfl rfl (g := (mkF m 16 #[.val (.ref a), .val (.int p1), .val (.int p2), .val (.int p3), .val (.int p4)] [(.int p3), (.ref a)])) rfl rfl (hb hby d1_16)
  have N4 := Fr.snoc X4 N3 g_a
  replace Kh := Kh.wr W4 (Or.inl (List.mem_of_getElem? (i := 0) rfl))
  replace F_start_a := Fld.other W4 F_start_a (Or.inr (slot_ne (Or.inr (hw _ (List.mem_of_getElem? (i := 10) rfl))) (Or.inr (hw _ (List.mem_of_getElem? (i := 14) rfl))) (by decide) (t := .int) (t' := .int) (by decide) (by decide)))
  replace F_end_a := Fld.other W4 F_end_a (Or.inr (slot_ne (Or.inr (hw _ (List.mem_of_getElem? (i := 12) rfl))) (Or.inr (hw _ (List.mem_of_getElem? (i := 14) rfl))) (by decide) (t := .int) (t' := .int) (by decide) (by decide)))
  replace F_otherStart_a := Fld.same W4 F_otherStart_a
  replace F_otherEnd_a := Fld.other W4 F_otherEnd_a (Or.inr (slot_ne (Or.inr (hw _ (List.mem_of_getElem? (i := 16) rfl))) (Or.inr (hw _ (List.mem_of_getElem? (i := 14) rfl))) (by decide) (t := .int) (t' := .int) (by decide) (by decide)))
  replace E_a := Exa.wr W4 E_a
  refine own_go (st4) ?_
  show own_R p e below _ T4 (mkF m 19 #[.val (.ref a), .val (.int p1), .val (.int p2), .val (.int p3), .val (.int p4)] [])
  refine own_go (fun t k => XS.aloadN X4.here hx rfl (hb hby d1_19) rfl rfl  k) ?_
  show own_R p e below _ T4 (mkF m 20 #[.val (.ref a), .val (.int p1), .val (.int p2), .val (.int p3), .val (.int p4)] [(.ref a)])
  refine own_go (fun t k => XS.iload X4.here hx rfl (hb hby d1_20) rfl  k) ?_
  show own_R p e below _ T4 (mkF m 22 #[.val (.ref a), .val (.int p1), .val (.int p2), .val (.int p3), .val (.int p4)] [(.int p4), (.ref a)])
  obtain ⟨T5, h5, X5, e5, W5, st5⟩ := putF X4 hx hZ hown (host := "") (Or.inl (hw _ (List.mem_of_getElem? (i := 15) rfl))) Via.refl e4 F_otherEnd_a E_a (Or.inr ⟨(hw _ (List.mem_of_getElem? (i := 16) rfl)), rfl, hnm⟩) (hw _ (List.mem_of_getElem? (i := 1) rfl)) (ty := .int) (by decide) rfl rfl (g := (mkF m 22 #[.val (.ref a), .val (.int p1), .val (.int p2), .val (.int p3), .val (.int p4)] [(.int p4), (.ref a)])) rfl rfl (hb hby d1_22)
  have N5 := Fr.snoc X5 N4 g_a
  replace Kh := Kh.wr W5 (Or.inl (List.mem_of_getElem? (i := 0) rfl))
  replace F_start_a := Fld.other W5 F_start_a (Or.inr (slot_ne (Or.inr (hw _ (List.mem_of_getElem? (i := 10) rfl))) (Or.inr (hw _ (List.mem_of_getElem? (i := 16) rfl))) (by decide) (t := .int) (t' := .int) (by decide) (by decide)))
  replace F_end_a := Fld.other W5 F_end_a (Or.inr (slot_ne (Or.inr (hw _ (List.mem_of_getElem? (i := 12) rfl))) (Or.inr (hw _ (List.mem_of_getElem? (i := 16) rfl))) (by decide) (t := .int) (t' := .int) (by decide) (by decide)))
  replace F_otherStart_a := Fld.other W5 F_otherStart_a (Or.inr (slot_ne (Or.inr (hw _ (List.mem_of_getElem? (i := 14) rfl))) (Or.inr (hw _ (List.mem_of_getElem? (i := 16) rfl))) (by decide) (t := .int) (t' := .int) (by decide) (by decide)))
  replace F_otherEnd_a := Fld.same W5 F_otherEnd_a
  replace E_a := Exa.wr W5 E_a
  refine own_go (st5) ?_
  show own_R p e below _ T5 (mkF m 25 #[.val (.ref a), .val (.int p1), .val (.int p2), .val (.int p3), .val (.int p4)] [])
  refine own_retV X5 hx Bd.returns (BodyLoose.notSynchronized Bd) (hb hby d1_25) (by decide) (by decide) ?_
  rw [e5]
  exact ⟨rfl, N5, Kh, E_a, F_start_a, F_end_a, F_otherStart_a, F_otherEnd_a⟩
theorem d7_0 : decode prog_8_method_2_code 0 = .ok (.aload_n 0, 1) := by decide +kernel
theorem d7_1 : decode prog_8_method_2_code 1 = .ok (.getfield 7, 3) := by decide +kernel
theorem d7_4 : decode prog_8_method_2_code 4 = .ok (.ireturn, 1) := by decide +kernel
theorem ef_7 (m : MethodId) (x0 : Addr) : entryFrame m #[(.ref x0)] 1 = mkF m 0 #[.val (.ref x0)] [] := by first | (simp [entryFrame, mkF, argsToLocals, Value.category]; done) | rfl
def Q7 (Z : State) (a : Addr) (v1 : Int32) (h0 : Heap) (n0 : Nat) (v : Option Value) (h : Heap) (L : List Loc) : Prop := v = some (.int v1) ∧ Fr n0 L ∧ h = h0
set_option maxRecDepth 65536 in
set_option maxHeartbeats 40000000 in
theorem rm7 (l : Launch) (Z : State) (a0 : Array Value) (hw : ∀ d ∈ tables_1, d.before a0 Z = true) (ws : List Jvm.Cond) (a : Addr) (v1 : Int32) (h0 : Heap) (n0 : Nat) (Z0 : n0 ≤ h0.size) (F_start_a : Fld Z h0 a "com/example/tracewise/tracewise/Fragment" "start" "I" (.int v1)) :
    MetFree l (⟨"com/example/tracewise/tracewise/Fragment", "start", "()I"⟩ : MethodName) (head1 (Jvm.Cond.code (⟨"com/example/tracewise/tracewise/Fragment", "start", "()I"⟩ : MethodName) prog_8_method_2_code 1 (some .int) :: ws) ({ frames := 0, cells := 0, slots := 0, locals := 0 } : Room)) (fun aS U => aS = #[(.ref a)] ∧ Z.Warmed39 U.vm ∧ U.heap = h0) (fun _ _ _ _ _ => True) (fun _ U o U' => ∃ v L, o = .returned v ∧ Q7 Z a v1 h0 n0 v U'.heap L ∧ FrameEnd U o U' L ({ frames := 0, cells := 0, slots := 0, locals := 0 } : Room).cells ({ frames := 0, cells := 0, slots := 0, locals := 0 } : Room).slots) := by
  refine MetFree.of_bodySF (plainFor_of_name pn_0) hisR ?_
  intro p e s m args below meth c s₁ Bd hml0 hP hK
  obtain ⟨rfl, hZ, hh⟩ := hP
  have hx := Bd.exec
  have hby := Bd.bytes
  have hml : c.maxLocals = 1 := hml0
  have hown : s.vm.findClass "com/example/tracewise/tracewise/Fragment" = some m.cls := findClass_of_methodNamed Bd.named
  have hnm := (name_of_methodNamed Bd.named Bd.method).1
  have X0 : Stand p l e ({ frames := 0, cells := 0, slots := 0, locals := 0 } : Room) s m #[(.ref a)] below meth c s₁ [] 0 0 := Stand.of_body Bd
  have e0 : s₁.heap = h0 := by rw [← hh, Bd.state]; rfl
  have N0 := Fr.nil n0
  have Kh : Keep h0 h0 [] := Keep.refl _ _
  suffices H : own_R p e below (own_E s below (Q7 Z a v1 h0 n0) ({ frames := 0, cells := 0, slots := 0, locals := 0 } : Room).cells ({ frames := 0, cells := 0, slots := 0, locals := 0 } : Room).slots) s₁ (mkF m 0 #[.val (.ref a)] []) by
    obtain ⟨t, hst, hrun, v, L, hend, hQ, hF⟩ := H
    exact ⟨t, _, castTop (ef_7 m a) hst, hrun, hend, v, L, rfl, hQ, hF⟩
  show own_R p e below _ s₁ (mkF m 0 #[.val (.ref a)] [])
  refine own_go (fun t k => XS.aloadN X0.here hx rfl (hb hby d7_0) rfl rfl  k) ?_
  show own_R p e below _ s₁ (mkF m 1 #[.val (.ref a)] [(.ref a)])
  obtain ⟨T1, X1, e1, st1⟩ := getF X0 hx hZ hown (host := "") (Or.inl (hw _ (List.mem_of_getElem? (i := 9) rfl))) Via.refl e0 F_start_a (g := (mkF m 1 #[.val (.ref a)] [(.ref a)])) rfl rfl (hb hby d7_1)
  refine own_go (st1) ?_
  show own_R p e below _ T1 (mkF m 4 #[.val (.ref a)] [(.int v1)])
  refine own_retW X1 hx Bd.returns rfl (Or.inl ⟨rfl, Or.inl rfl, _, rfl⟩) (BodyLoose.notSynchronized Bd) (hb hby d7_4) (by decide) (by decide) ?_
  exact ⟨rfl, N0, e1⟩
theorem d8_0 : decode prog_8_method_3_code 0 = .ok (.aload_n 0, 1) := by decide +kernel
theorem d8_1 : decode prog_8_method_3_code 1 = .ok (.getfield 13, 3) := by decide +kernel
theorem d8_4 : decode prog_8_method_3_code 4 = .ok (.ireturn, 1) := by decide +kernel
theorem ef_8 (m : MethodId) (x0 : Addr) : entryFrame m #[(.ref x0)] 1 = mkF m 0 #[.val (.ref x0)] [] := by first | (simp [entryFrame, mkF, argsToLocals, Value.category]; done) | rfl
def Q8 (Z : State) (a : Addr) (v1 : Int32) (h0 : Heap) (n0 : Nat) (v : Option Value) (h : Heap) (L : List Loc) : Prop := v = some (.int v1) ∧ Fr n0 L ∧ h = h0
set_option maxRecDepth 65536 in
set_option maxHeartbeats 40000000 in
theorem rm8 (l : Launch) (Z : State) (a0 : Array Value) (hw : ∀ d ∈ tables_1, d.before a0 Z = true) (ws : List Jvm.Cond) (a : Addr) (v1 : Int32) (h0 : Heap) (n0 : Nat) (Z0 : n0 ≤ h0.size) (F_end_a : Fld Z h0 a "com/example/tracewise/tracewise/Fragment" "end" "I" (.int v1)) :
    MetFree l (⟨"com/example/tracewise/tracewise/Fragment", "end", "()I"⟩ : MethodName) (head1 (Jvm.Cond.code (⟨"com/example/tracewise/tracewise/Fragment", "end", "()I"⟩ : MethodName) prog_8_method_3_code 1 (some .int) :: ws) ({ frames := 0, cells := 0, slots := 0, locals := 0 } : Room)) (fun aS U => aS = #[(.ref a)] ∧ Z.Warmed39 U.vm ∧ U.heap = h0) (fun _ _ _ _ _ => True) (fun _ U o U' => ∃ v L, o = .returned v ∧ Q8 Z a v1 h0 n0 v U'.heap L ∧ FrameEnd U o U' L ({ frames := 0, cells := 0, slots := 0, locals := 0 } : Room).cells ({ frames := 0, cells := 0, slots := 0, locals := 0 } : Room).slots) := by
  refine MetFree.of_bodySF (plainFor_of_name pn_0) hisR ?_
  intro p e s m args below meth c s₁ Bd hml0 hP hK
  obtain ⟨rfl, hZ, hh⟩ := hP
  have hx := Bd.exec
  have hby := Bd.bytes
  have hml : c.maxLocals = 1 := hml0
  have hown : s.vm.findClass "com/example/tracewise/tracewise/Fragment" = some m.cls := findClass_of_methodNamed Bd.named
  have hnm := (name_of_methodNamed Bd.named Bd.method).1
  have X0 : Stand p l e ({ frames := 0, cells := 0, slots := 0, locals := 0 } : Room) s m #[(.ref a)] below meth c s₁ [] 0 0 := Stand.of_body Bd
  have e0 : s₁.heap = h0 := by rw [← hh, Bd.state]; rfl
  have N0 := Fr.nil n0
  have Kh : Keep h0 h0 [] := Keep.refl _ _
  suffices H : own_R p e below (own_E s below (Q8 Z a v1 h0 n0) ({ frames := 0, cells := 0, slots := 0, locals := 0 } : Room).cells ({ frames := 0, cells := 0, slots := 0, locals := 0 } : Room).slots) s₁ (mkF m 0 #[.val (.ref a)] []) by
    obtain ⟨t, hst, hrun, v, L, hend, hQ, hF⟩ := H
    exact ⟨t, _, castTop (ef_8 m a) hst, hrun, hend, v, L, rfl, hQ, hF⟩
  show own_R p e below _ s₁ (mkF m 0 #[.val (.ref a)] [])
  refine own_go (fun t k => XS.aloadN X0.here hx rfl (hb hby d8_0) rfl rfl  k) ?_
  show own_R p e below _ s₁ (mkF m 1 #[.val (.ref a)] [(.ref a)])
  obtain ⟨T1, X1, e1, st1⟩ := getF X0 hx hZ hown (host := "") (Or.inl (hw _ (List.mem_of_getElem? (i := 11) rfl))) Via.refl e0 F_end_a (g := (mkF m 1 #[.val (.ref a)] [(.ref a)])) rfl rfl (hb hby d8_1)
  refine own_go (st1) ?_
  show own_R p e below _ T1 (mkF m 4 #[.val (.ref a)] [(.int v1)])
  refine own_retW X1 hx Bd.returns rfl (Or.inl ⟨rfl, Or.inl rfl, _, rfl⟩) (BodyLoose.notSynchronized Bd) (hb hby d8_4) (by decide) (by decide) ?_
  exact ⟨rfl, N0, e1⟩
theorem d9_0 : decode prog_8_method_4_code 0 = .ok (.aload_n 0, 1) := by decide +kernel
theorem d9_1 : decode prog_8_method_4_code 1 = .ok (.getfield 16, 3) := by decide +kernel
theorem d9_4 : decode prog_8_method_4_code 4 = .ok (.ireturn, 1) := by decide +kernel
theorem ef_9 (m : MethodId) (x0 : Addr) : entryFrame m #[(.ref x0)] 1 = mkF m 0 #[.val (.ref x0)] [] := by first | (simp [entryFrame, mkF, argsToLocals, Value.category]; done) | rfl
def Q9 (Z : State) (a : Addr) (v1 : Int32) (h0 : Heap) (n0 : Nat) (v : Option Value) (h : Heap) (L : List Loc) : Prop := v = some (.int v1) ∧ Fr n0 L ∧ h = h0
set_option maxRecDepth 65536 in
set_option maxHeartbeats 40000000 in
theorem rm9 (l : Launch) (Z : State) (a0 : Array Value) (hw : ∀ d ∈ tables_1, d.before a0 Z = true) (ws : List Jvm.Cond) (a : Addr) (v1 : Int32) (h0 : Heap) (n0 : Nat) (Z0 : n0 ≤ h0.size) (F_otherStart_a : Fld Z h0 a "com/example/tracewise/tracewise/Fragment" "otherStart" "I" (.int v1)) :
    MetFree l (⟨"com/example/tracewise/tracewise/Fragment", "otherStart", "()I"⟩ : MethodName) (head1 (Jvm.Cond.code (⟨"com/example/tracewise/tracewise/Fragment", "otherStart", "()I"⟩ : MethodName) prog_8_method_4_code 1 (some .int) :: ws) ({ frames := 0, cells := 0, slots := 0, locals := 0 } : Room)) (fun aS U => aS = #[(.ref a)] ∧ Z.Warmed39 U.vm ∧ U.heap = h0) (fun _ _ _ _ _ => True) (fun _ U o U' => ∃ v L, o = .returned v ∧ Q9 Z a v1 h0 n0 v U'.heap L ∧ FrameEnd U o U' L ({ frames := 0, cells := 0, slots := 0, locals := 0 } : Room).cells ({ frames := 0, cells := 0, slots := 0, locals := 0 } : Room).slots) := by
  refine MetFree.of_bodySF (plainFor_of_name pn_0) hisR ?_
  intro p e s m args below meth c s₁ Bd hml0 hP hK
  obtain ⟨rfl, hZ, hh⟩ := hP
  have hx := Bd.exec
  have hby := Bd.bytes
  have hml : c.maxLocals = 1 := hml0
  have hown : s.vm.findClass "com/example/tracewise/tracewise/Fragment" = some m.cls := findClass_of_methodNamed Bd.named
  have hnm := (name_of_methodNamed Bd.named Bd.method).1
  have X0 : Stand p l e ({ frames := 0, cells := 0, slots := 0, locals := 0 } : Room) s m #[(.ref a)] below meth c s₁ [] 0 0 := Stand.of_body Bd
  have e0 : s₁.heap = h0 := by rw [← hh, Bd.state]; rfl
  have N0 := Fr.nil n0
  have Kh : Keep h0 h0 [] := Keep.refl _ _
  suffices H : own_R p e below (own_E s below (Q9 Z a v1 h0 n0) ({ frames := 0, cells := 0, slots := 0, locals := 0 } : Room).cells ({ frames := 0, cells := 0, slots := 0, locals := 0 } : Room).slots) s₁ (mkF m 0 #[.val (.ref a)] []) by
    obtain ⟨t, hst, hrun, v, L, hend, hQ, hF⟩ := H
    exact ⟨t, _, castTop (ef_9 m a) hst, hrun, hend, v, L, rfl, hQ, hF⟩
  show own_R p e below _ s₁ (mkF m 0 #[.val (.ref a)] [])
  refine own_go (fun t k => XS.aloadN X0.here hx rfl (hb hby d9_0) rfl rfl  k) ?_
  show own_R p e below _ s₁ (mkF m 1 #[.val (.ref a)] [(.ref a)])
  obtain ⟨T1, X1, e1, st1⟩ := getF X0 hx hZ hown (host := "") (Or.inl (hw _ (List.mem_of_getElem? (i := 13) rfl))) Via.refl e0 F_otherStart_a (g := (mkF m 1 #[.val (.ref a)] [(.ref a)])) rfl rfl (hb hby d9_1)
  refine own_go (st1) ?_
  show own_R p e below _ T1 (mkF m 4 #[.val (.ref a)] [(.int v1)])
  refine own_retW X1 hx Bd.returns rfl (Or.inl ⟨rfl, Or.inl rfl, _, rfl⟩) (BodyLoose.notSynchronized Bd) (hb hby d9_4) (by decide) (by decide) ?_
  exact ⟨rfl, N0, e1⟩
theorem d10_0 : decode prog_8_method_5_code 0 = .ok (.aload_n 0, 1) := by decide +kernel
theorem d10_1 : decode prog_8_method_5_code 1 = .ok (.getfield 19, 3) := by decide +kernel
theorem d10_4 : decode prog_8_method_5_code 4 = .ok (.ireturn, 1) := by decide +kernel
theorem ef_10 (m : MethodId) (x0 : Addr) : entryFrame m #[(.ref x0)] 1 = mkF m 0 #[.val (.ref x0)] [] := by first | (simp [entryFrame, mkF, argsToLocals, Value.category]; done) | rfl
def Q10 (Z : State) (a : Addr) (v1 : Int32) (h0 : Heap) (n0 : Nat) (v : Option Value) (h : Heap) (L : List Loc) : Prop := v = some (.int v1) ∧ Fr n0 L ∧ h = h0
set_option maxRecDepth 65536 in
set_option maxHeartbeats 40000000 in
theorem rm10 (l : Launch) (Z : State) (a0 : Array Value) (hw : ∀ d ∈ tables_1, d.before a0 Z = true) (ws : List Jvm.Cond) (a : Addr) (v1 : Int32) (h0 : Heap) (n0 : Nat) (Z0 : n0 ≤ h0.size) (F_otherEnd_a : Fld Z h0 a "com/example/tracewise/tracewise/Fragment" "otherEnd" "I" (.int v1)) :
    MetFree l (⟨"com/example/tracewise/tracewise/Fragment", "otherEnd", "()I"⟩ : MethodName) (head1 (Jvm.Cond.code (⟨"com/example/tracewise/tracewise/Fragment", "otherEnd", "()I"⟩ : MethodName) prog_8_method_5_code 1 (some .int) :: ws) ({ frames := 0, cells := 0, slots := 0, locals := 0 } : Room)) (fun aS U => aS = #[(.ref a)] ∧ Z.Warmed39 U.vm ∧ U.heap = h0) (fun _ _ _ _ _ => True) (fun _ U o U' => ∃ v L, o = .returned v ∧ Q10 Z a v1 h0 n0 v U'.heap L ∧ FrameEnd U o U' L ({ frames := 0, cells := 0, slots := 0, locals := 0 } : Room).cells ({ frames := 0, cells := 0, slots := 0, locals := 0 } : Room).slots) := by
  refine MetFree.of_bodySF (plainFor_of_name pn_0) hisR ?_
  intro p e s m args below meth c s₁ Bd hml0 hP hK
  obtain ⟨rfl, hZ, hh⟩ := hP
  have hx := Bd.exec
  have hby := Bd.bytes
  have hml : c.maxLocals = 1 := hml0
  have hown : s.vm.findClass "com/example/tracewise/tracewise/Fragment" = some m.cls := findClass_of_methodNamed Bd.named
  have hnm := (name_of_methodNamed Bd.named Bd.method).1
  have X0 : Stand p l e ({ frames := 0, cells := 0, slots := 0, locals := 0 } : Room) s m #[(.ref a)] below meth c s₁ [] 0 0 := Stand.of_body Bd
  have e0 : s₁.heap = h0 := by rw [← hh, Bd.state]; rfl
  have N0 := Fr.nil n0
  have Kh : Keep h0 h0 [] := Keep.refl _ _
  suffices H : own_R p e below (own_E s below (Q10 Z a v1 h0 n0) ({ frames := 0, cells := 0, slots := 0, locals := 0 } : Room).cells ({ frames := 0, cells := 0, slots := 0, locals := 0 } : Room).slots) s₁ (mkF m 0 #[.val (.ref a)] []) by
    obtain ⟨t, hst, hrun, v, L, hend, hQ, hF⟩ := H
    exact ⟨t, _, castTop (ef_10 m a) hst, hrun, hend, v, L, rfl, hQ, hF⟩
  show own_R p e below _ s₁ (mkF m 0 #[.val (.ref a)] [])
  refine own_go (fun t k => XS.aloadN X0.here hx rfl (hb hby d10_0) rfl rfl  k) ?_
  show own_R p e below _ s₁ (mkF m 1 #[.val (.ref a)] [(.ref a)])
  obtain ⟨T1, X1, e1, st1⟩ := getF X0 hx hZ hown (host := "") (Or.inl (hw _ (List.mem_of_getElem? (i := 15) rfl))) Via.refl e0 F_otherEnd_a (g := (mkF m 1 #[.val (.ref a)] [(.ref a)])) rfl rfl (hb hby d10_1)
  refine own_go (st1) ?_
  show own_R p e below _ T1 (mkF m 4 #[.val (.ref a)] [(.int v1)])
  refine own_retW X1 hx Bd.returns rfl (Or.inl ⟨rfl, Or.inl rfl, _, rfl⟩) (BodyLoose.notSynchronized Bd) (hb hby d10_4) (by decide) (by decide) ?_
  exact ⟨rfl, N0, e1⟩
theorem d3_0 : decode prog_8_method_6_code 0 = .ok (.aload_n 1, 1) := by decide +kernel
theorem d3_1 : decode prog_8_method_6_code 1 = .ok (.getfield 7, 3) := by decide +kernel
theorem d3_4 : decode prog_8_method_6_code 4 = .ok (.aload_n 0, 1) := by decide +kernel
theorem d3_5 : decode prog_8_method_6_code 5 = .ok (.getfield 7, 3) := by decide +kernel
theorem d3_8 : decode prog_8_method_6_code 8 = .ok (.if_icmp .gt 40, 3) := by decide +kernel
theorem d3_11 : decode prog_8_method_6_code 11 = .ok (.aload_n 0, 1) := by decide +kernel
theorem d3_12 : decode prog_8_method_6_code 12 = .ok (.getfield 13, 3) := by decide +kernel
theorem d3_15 : decode prog_8_method_6_code 15 = .ok (.aload_n 1, 1) := by decide +kernel
theorem d3_16 : decode prog_8_method_6_code 16 = .ok (.getfield 13, 3) := by decide +kernel
theorem d3_19 : decode prog_8_method_6_code 19 = .ok (.if_icmp .gt 29, 3) := by decide +kernel
theorem d3_22 : decode prog_8_method_6_code 22 = .ok (.aload_n 1, 1) := by decide +kernel
theorem d3_23 : decode prog_8_method_6_code 23 = .ok (.getfield 16, 3) := by decide +kernel
theorem d3_26 : decode prog_8_method_6_code 26 = .ok (.aload_n 0, 1) := by decide +kernel
theorem d3_27 : decode prog_8_method_6_code 27 = .ok (.getfield 16, 3) := by decide +kernel
theorem d3_30 : decode prog_8_method_6_code 30 = .ok (.if_icmp .gt 18, 3) := by decide +kernel
theorem d3_33 : decode prog_8_method_6_code 33 = .ok (.aload_n 0, 1) := by decide +kernel
theorem d3_34 : decode prog_8_method_6_code 34 = .ok (.getfield 19, 3) := by decide +kernel
theorem d3_37 : decode prog_8_method_6_code 37 = .ok (.aload_n 1, 1) := by decide +kernel
theorem d3_38 : decode prog_8_method_6_code 38 = .ok (.getfield 19, 3) := by decide +kernel
theorem d3_41 : decode prog_8_method_6_code 41 = .ok (.if_icmp .gt 7, 3) := by decide +kernel
theorem d3_44 : decode prog_8_method_6_code 44 = .ok (.iconst 1, 1) := by decide +kernel
theorem d3_45 : decode prog_8_method_6_code 45 = .ok (.goto 4, 3) := by decide +kernel
theorem d3_48 : decode prog_8_method_6_code 48 = .ok (.iconst 0, 1) := by decide +kernel
theorem d3_49 : decode prog_8_method_6_code 49 = .ok (.ireturn, 1) := by decide +kernel
theorem ef_3 (m : MethodId) (x0 : Addr) (x1 : Addr) : entryFrame m #[(.ref x0), (.ref x1)] 2 = mkF m 0 #[.val (.ref x0), .val (.ref x1)] [] := by first | (simp [entryFrame, mkF, argsToLocals, Value.category]; done) | rfl
def Q3 (Z : State) (a : Addr) (b : Addr) (va0 : Int32) (va1 : Int32) (va2 : Int32) (va3 : Int32) (vb0 : Int32) (vb1 : Int32) (vb2 : Int32) (vb3 : Int32) (h0 : Heap) (n0 : Nat) (v : Option Value) (h : Heap) (L : List Loc) : Prop := v = some (.int (if (¬ va0 < vb0 ∧ ¬ vb1 < va1 ∧ ¬ va2 < vb2 ∧ ¬ vb3 < va3) then (1 : Int32) else (0 : Int32))) ∧ Fr n0 L ∧ h = h0
set_option maxRecDepth 65536 in
set_option maxHeartbeats 40000000 in
theorem rm3 (l : Launch) (Z : State) (a0 : Array Value) (hw : ∀ d ∈ tables_1, d.before a0 Z = true) (ws : List Jvm.Cond) (a : Addr) (b : Addr) (va0 : Int32) (va1 : Int32) (va2 : Int32) (va3 : Int32) (vb0 : Int32) (vb1 : Int32) (vb2 : Int32) (vb3 : Int32) (h0 : Heap) (n0 : Nat) (Z0 : n0 ≤ h0.size) (F_start_a : Fld Z h0 a "com/example/tracewise/tracewise/Fragment" "start" "I" (.int va0)) (F_end_a : Fld Z h0 a "com/example/tracewise/tracewise/Fragment" "end" "I" (.int va1)) (F_otherStart_a : Fld Z h0 a "com/example/tracewise/tracewise/Fragment" "otherStart" "I" (.int va2)) (F_otherEnd_a : Fld Z h0 a "com/example/tracewise/tracewise/Fragment" "otherEnd" "I" (.int va3)) (F_start_b : Fld Z h0 b "com/example/tracewise/tracewise/Fragment" "start" "I" (.int vb0)) (F_end_b : Fld Z h0 b "com/example/tracewise/tracewise/Fragment" "end" "I" (.int vb1)) (F_otherStart_b : Fld Z h0 b "com/example/tracewise/tracewise/Fragment" "otherStart" "I" (.int vb2)) (F_otherEnd_b : Fld Z h0 b "com/example/tracewise/tracewise/Fragment" "otherEnd" "I" (.int vb3)) :
    MetFree l (⟨"com/example/tracewise/tracewise/Fragment", "within", "(Lcom/example/tracewise/tracewise/Fragment;)Z"⟩ : MethodName) (head1 (Jvm.Cond.code (⟨"com/example/tracewise/tracewise/Fragment", "within", "(Lcom/example/tracewise/tracewise/Fragment;)Z"⟩ : MethodName) prog_8_method_6_code 2 (some .boolean) :: ws) ({ frames := 0, cells := 0, slots := 0, locals := 0 } : Room)) (fun aS U => aS = #[(.ref a), (.ref b)] ∧ Z.Warmed39 U.vm ∧ U.heap = h0) (fun _ _ _ _ _ => True) (fun _ U o U' => ∃ v L, o = .returned v ∧ Q3 Z a b va0 va1 va2 va3 vb0 vb1 vb2 vb3 h0 n0 v U'.heap L ∧ FrameEnd U o U' L ({ frames := 0, cells := 0, slots := 0, locals := 0 } : Room).cells ({ frames := 0, cells := 0, slots := 0, locals := 0 } : Room).slots) := by
  refine MetFree.of_bodySF (plainFor_of_name pn_0) hisR ?_
  intro p e s m args below meth c s₁ Bd hml0 hP hK
  obtain ⟨rfl, hZ, hh⟩ := hP
  have hx := Bd.exec
  have hby := Bd.bytes
  have hml : c.maxLocals = 2 := hml0
  have hown : s.vm.findClass "com/example/tracewise/tracewise/Fragment" = some m.cls := findClass_of_methodNamed Bd.named
  have hnm := (name_of_methodNamed Bd.named Bd.method).1
  have X0 : Stand p l e ({ frames := 0, cells := 0, slots := 0, locals := 0 } : Room) s m #[(.ref a), (.ref b)] below meth c s₁ [] 0 0 := Stand.of_body Bd
  have e0 : s₁.heap = h0 := by rw [← hh, Bd.state]; rfl
  have N0 := Fr.nil n0
  have Kh : Keep h0 h0 [] := Keep.refl _ _
  suffices H : own_R p e below (own_E s below (Q3 Z a b va0 va1 va2 va3 vb0 vb1 vb2 vb3 h0 n0) ({ frames := 0, cells := 0, slots := 0, locals := 0 } : Room).cells ({ frames := 0, cells := 0, slots := 0, locals := 0 } : Room).slots) s₁ (mkF m 0 #[.val (.ref a), .val (.ref b)] []) by
    obtain ⟨t, hst, hrun, v, L, hend, hQ, hF⟩ := H
    exact ⟨t, _, castTop (ef_3 m a b) hst, hrun, hend, v, L, rfl, hQ, hF⟩
  show own_R p e below _ s₁ (mkF m 0 #[.val (.ref a), .val (.ref b)] [])
  refine own_go (fun t k => XS.aloadN X0.here hx rfl (hb hby d3_0) rfl rfl  k) ?_
  show own_R p e below _ s₁ (mkF m 1 #[.val (.ref a), .val (.ref b)] [(.ref b)])
  obtain ⟨T1, X1, e1, st1⟩ := getF X0 hx hZ hown (host := "") (Or.inl (hw _ (List.mem_of_getElem? (i := 9) rfl))) Via.refl e0 F_start_b (g := (mkF m 1 #[.val (.ref a), .val (.ref b)] [(.ref b)])) rfl rfl (hb hby d3_1)
  refine own_go (st1) ?_
  show own_R p e below _ T1 (mkF m 4 #[.val (.ref a), .val (.ref b)] [(.int vb0)])
  refine own_go (fun t k => XS.aloadN X1.here hx rfl (hb hby d3_4) rfl rfl  k) ?_
  show own_R p e below _ T1 (mkF m 5 #[.val (.ref a), .val (.ref b)] [(.ref a), (.int vb0)])
  obtain ⟨T2, X2, e2, st2⟩ := getF X1 hx hZ hown (host := "") (Or.inl (hw _ (List.mem_of_getElem? (i := 9) rfl))) Via.refl e1 F_start_a (g := (mkF m 5 #[.val (.ref a), .val (.ref b)] [(.ref a), (.int vb0)])) rfl rfl (hb hby d3_5)
  refine own_go (st2) ?_
  show own_R p e below _ T2 (mkF m 8 #[.val (.ref a), .val (.ref b)] [(.int va0), (.int vb0)])
  by_cases hc8_3 : va0 < vb0
  · -- pc 8: yes
    refine own_go (fun t k => XS.icmpYes X2.here hx rfl (pc0 := 8) (pc' := 48) rfl (hb hby d3_8) rfl (tlt hc8_3).2.2.1 (by decide) (by decide) k) ?_
    show own_R p e below _ T2 (mkF m 48 #[.val (.ref a), .val (.ref b)] [])
    refine own_go (fun t k => XS.iconst X2.here hx rfl (hb hby d3_48) k) ?_
    show own_R p e below _ T2 (mkF m 49 #[.val (.ref a), .val (.ref b)] [(.int (0 : Int32))])
    refine own_retN X2 hx Bd.returns (by simp) (BodyLoose.notSynchronized Bd) (hb hby d3_49) (by decide) (by decide) ?_
    exact ⟨by rw [if_neg (fun q => q.1 hc8_3)]; rfl, N0, e2⟩
  · -- pc 8: no
    refine own_go (fun t k => XS.icmpNo X2.here hx rfl (hb hby d3_8) rfl (flt hc8_3).2.2.1 k) ?_
    show own_R p e below _ T2 (mkF m 11 #[.val (.ref a), .val (.ref b)] [])
    refine own_go (fun t k => XS.aloadN X2.here hx rfl (hb hby d3_11) rfl rfl  k) ?_
    show own_R p e below _ T2 (mkF m 12 #[.val (.ref a), .val (.ref b)] [(.ref a)])
    obtain ⟨T4, X4, e4, st4⟩ := getF X2 hx hZ hown (host := "") (Or.inl (hw _ (List.mem_of_getElem? (i := 11) rfl))) Via.refl e2 F_end_a (g := (mkF m 12 #[.val (.ref a), .val (.ref b)] [(.ref a)])) rfl rfl (hb hby d3_12)
    refine own_go (st4) ?_
    show own_R p e below _ T4 (mkF m 15 #[.val (.ref a), .val (.ref b)] [(.int va1)])
    refine own_go (fun t k => XS.aloadN X4.here hx rfl (hb hby d3_15) rfl rfl  k) ?_
    show own_R p e below _ T4 (mkF m 16 #[.val (.ref a), .val (.ref b)] [(.ref b), (.int va1)])
    obtain ⟨T5, X5, e5, st5⟩ := getF X4 hx hZ hown (host := "") (Or.inl (hw _ (List.mem_of_getElem? (i := 11) rfl))) Via.refl e4 F_end_b (g := (mkF m 16 #[.val (.ref a), .val (.ref b)] [(.ref b), (.int va1)])) rfl rfl (hb hby d3_16)
    refine own_go (st5) ?_
    show own_R p e below _ T5 (mkF m 19 #[.val (.ref a), .val (.ref b)] [(.int vb1), (.int va1)])
    by_cases hc19_6 : vb1 < va1
    · -- pc 19: yes
      refine own_go (fun t k => XS.icmpYes X5.here hx rfl (pc0 := 19) (pc' := 48) rfl (hb hby d3_19) rfl (tlt hc19_6).2.2.1 (by decide) (by decide) k) ?_
      show own_R p e below _ T5 (mkF m 48 #[.val (.ref a), .val (.ref b)] [])
      refine own_go (fun t k => XS.iconst X5.here hx rfl (hb hby d3_48) k) ?_
      show own_R p e below _ T5 (mkF m 49 #[.val (.ref a), .val (.ref b)] [(.int (0 : Int32))])
      refine own_retN X5 hx Bd.returns (by simp) (BodyLoose.notSynchronized Bd) (hb hby d3_49) (by decide) (by decide) ?_
      exact ⟨by rw [if_neg (fun q => q.2.1 hc19_6)]; rfl, N0, e5⟩
    · -- pc 19: no
      refine own_go (fun t k => XS.icmpNo X5.here hx rfl (hb hby d3_19) rfl (flt hc19_6).2.2.1 k) ?_
      show own_R p e below _ T5 (mkF m 22 #[.val (.ref a), .val (.ref b)] [])
      refine own_go (fun t k => XS.aloadN X5.here hx rfl (hb hby d3_22) rfl rfl  k) ?_
      show own_R p e below _ T5 (mkF m 23 #[.val (.ref a), .val (.ref b)] [(.ref b)])
      obtain ⟨T7, X7, e7, st7⟩ := getF X5 hx hZ hown (host := "") (Or.inl (hw _ (List.mem_of_getElem? (i := 13) rfl))) Via.refl e5 F_otherStart_b (g := (mkF m 23 #[.val (.ref a), .val (.ref b)] [(.ref b)])) rfl rfl (hb hby d3_23)
      refine own_go (st7) ?_
      show own_R p e below _ T7 (mkF m 26 #[.val (.ref a), .val (.ref b)] [(.int vb2)])
      refine own_go (fun t k => XS.aloadN X7.here hx rfl (hb hby d3_26) rfl rfl  k) ?_
      show own_R p e below _ T7 (mkF m 27 #[.val (.ref a), .val (.ref b)] [(.ref a), (.int vb2)])
      obtain ⟨T8, X8, e8, st8⟩ := getF X7 hx hZ hown (host := "") (Or.inl (hw _ (List.mem_of_getElem? (i := 13) rfl))) Via.refl e7 F_otherStart_a (g := (mkF m 27 #[.val (.ref a), .val (.ref b)] [(.ref a), (.int vb2)])) rfl rfl (hb hby d3_27)
      refine own_go (st8) ?_
      show own_R p e below _ T8 (mkF m 30 #[.val (.ref a), .val (.ref b)] [(.int va2), (.int vb2)])
      by_cases hc30_9 : va2 < vb2
      · -- pc 30: yes
        refine own_go (fun t k => XS.icmpYes X8.here hx rfl (pc0 := 30) (pc' := 48) rfl (hb hby d3_30) rfl (tlt hc30_9).2.2.1 (by decide) (by decide) k) ?_
        show own_R p e below _ T8 (mkF m 48 #[.val (.ref a), .val (.ref b)] [])
        refine own_go (fun t k => XS.iconst X8.here hx rfl (hb hby d3_48) k) ?_
        show own_R p e below _ T8 (mkF m 49 #[.val (.ref a), .val (.ref b)] [(.int (0 : Int32))])
        refine own_retN X8 hx Bd.returns (by simp) (BodyLoose.notSynchronized Bd) (hb hby d3_49) (by decide) (by decide) ?_
        exact ⟨by rw [if_neg (fun q => q.2.2.1 hc30_9)]; rfl, N0, e8⟩
      · -- pc 30: no
        refine own_go (fun t k => XS.icmpNo X8.here hx rfl (hb hby d3_30) rfl (flt hc30_9).2.2.1 k) ?_
        show own_R p e below _ T8 (mkF m 33 #[.val (.ref a), .val (.ref b)] [])
        refine own_go (fun t k => XS.aloadN X8.here hx rfl (hb hby d3_33) rfl rfl  k) ?_
        show own_R p e below _ T8 (mkF m 34 #[.val (.ref a), .val (.ref b)] [(.ref a)])
        obtain ⟨T10, X10, e10, st10⟩ := getF X8 hx hZ hown (host := "") (Or.inl (hw _ (List.mem_of_getElem? (i := 15) rfl))) Via.refl e8 F_otherEnd_a (g := (mkF m 34 #[.val (.ref a), .val (.ref b)] [(.ref a)])) rfl rfl (hb hby d3_34)
        refine own_go (st10) ?_
        show own_R p e below _ T10 (mkF m 37 #[.val (.ref a), .val (.ref b)] [(.int va3)])
        refine own_go (fun t k => XS.aloadN X10.here hx rfl (hb hby d3_37) rfl rfl  k) ?_
        show own_R p e below _ T10 (mkF m 38 #[.val (.ref a), .val (.ref b)] [(.ref b), (.int va3)])
        obtain ⟨T11, X11, e11, st11⟩ := getF X10 hx hZ hown (host := "") (Or.inl (hw _ (List.mem_of_getElem? (i := 15) rfl))) Via.refl e10 F_otherEnd_b (g := (mkF m 38 #[.val (.ref a), .val (.ref b)] [(.ref b), (.int va3)])) rfl rfl (hb hby d3_38)
        refine own_go (st11) ?_
        show own_R p e below _ T11 (mkF m 41 #[.val (.ref a), .val (.ref b)] [(.int vb3), (.int va3)])
        by_cases hc41_12 : vb3 < va3
        · -- pc 41: yes
          refine own_go (fun t k => XS.icmpYes X11.here hx rfl (pc0 := 41) (pc' := 48) rfl (hb hby d3_41) rfl (tlt hc41_12).2.2.1 (by decide) (by decide) k) ?_
          show own_R p e below _ T11 (mkF m 48 #[.val (.ref a), .val (.ref b)] [])
          refine own_go (fun t k => XS.iconst X11.here hx rfl (hb hby d3_48) k) ?_
          show own_R p e below _ T11 (mkF m 49 #[.val (.ref a), .val (.ref b)] [(.int (0 : Int32))])
          refine own_retN X11 hx Bd.returns (by simp) (BodyLoose.notSynchronized Bd) (hb hby d3_49) (by decide) (by decide) ?_
          exact ⟨by rw [if_neg (fun q => q.2.2.2 hc41_12)]; rfl, N0, e11⟩
        · -- pc 41: no
          refine own_go (fun t k => XS.icmpNo X11.here hx rfl (hb hby d3_41) rfl (flt hc41_12).2.2.1 k) ?_
          show own_R p e below _ T11 (mkF m 44 #[.val (.ref a), .val (.ref b)] [])
          refine own_go (fun t k => XS.iconst X11.here hx rfl (hb hby d3_44) k) ?_
          show own_R p e below _ T11 (mkF m 45 #[.val (.ref a), .val (.ref b)] [(.int (1 : Int32))])
          refine own_go (fun t k => XS.goto X11.here hx rfl (pc0 := 45) (pc' := 49) rfl (hb hby d3_45) (by decide) (by decide) k) ?_
          show own_R p e below _ T11 (mkF m 49 #[.val (.ref a), .val (.ref b)] [(.int (1 : Int32))])
          refine own_retN X11 hx Bd.returns (by simp) (BodyLoose.notSynchronized Bd) (hb hby d3_49) (by decide) (by decide) ?_
          exact ⟨by rw [if_pos ⟨hc8_3, hc19_6, hc30_9, hc41_12⟩]; rfl, N0, e11⟩
theorem d4_0 : decode prog_8_method_7_code 0 = .ok (.new 8, 3) := by decide +kernel
theorem d4_3 : decode prog_8_method_7_code 3 = .ok (.dup, 1) := by decide +kernel
theorem d4_4 : decode prog_8_method_7_code 4 = .ok (.aload_n 0, 1) := by decide +kernel
theorem d4_5 : decode prog_8_method_7_code 5 = .ok (.getfield 7, 3) := by decide +kernel
theorem d4_8 : decode prog_8_method_7_code 8 = .ok (.aload_n 1, 1) := by decide +kernel
theorem d4_9 : decode prog_8_method_7_code 9 = .ok (.getfield 7, 3) := by decide +kernel
theorem d4_12 : decode prog_8_method_7_code 12 = .ok (.invokestatic 22, 3) := by decide +kernel
theorem d4_15 : decode prog_8_method_7_code 15 = .ok (.aload_n 0, 1) := by decide +kernel
theorem d4_16 : decode prog_8_method_7_code 16 = .ok (.getfield 13, 3) := by decide +kernel
theorem d4_19 : decode prog_8_method_7_code 19 = .ok (.aload_n 1, 1) := by decide +kernel
theorem d4_20 : decode prog_8_method_7_code 20 = .ok (.getfield 13, 3) := by decide +kernel
theorem d4_23 : decode prog_8_method_7_code 23 = .ok (.invokestatic 28, 3) := by decide +kernel
theorem d4_26 : decode prog_8_method_7_code 26 = .ok (.aload_n 0, 1) := by decide +kernel
theorem d4_27 : decode prog_8_method_7_code 27 = .ok (.getfield 16, 3) := by decide +kernel
theorem d4_30 : decode prog_8_method_7_code 30 = .ok (.aload_n 1, 1) := by decide +kernel
theorem d4_31 : decode prog_8_method_7_code 31 = .ok (.getfield 16, 3) := by decide +kernel
theorem d4_34 : decode prog_8_method_7_code 34 = .ok (.invokestatic 22, 3) := by decide +kernel
theorem d4_37 : decode prog_8_method_7_code 37 = .ok (.aload_n 0, 1) := by decide +kernel
theorem d4_38 : decode prog_8_method_7_code 38 = .ok (.getfield 19, 3) := by decide +kernel
theorem d4_41 : decode prog_8_method_7_code 41 = .ok (.aload_n 1, 1) := by decide +kernel
theorem d4_42 : decode prog_8_method_7_code 42 = .ok (.getfield 19, 3) := by decide +kernel
theorem d4_45 : decode prog_8_method_7_code 45 = .ok (.invokestatic 28, 3) := by decide +kernel
theorem d4_48 : decode prog_8_method_7_code 48 = .ok (.invokespecial 31, 3) := by decide +kernel
theorem d4_51 : decode prog_8_method_7_code 51 = .ok (.areturn, 1) := by decide +kernel
theorem ef_4 (m : MethodId) (x0 : Addr) (x1 : Addr) : entryFrame m #[(.ref x0), (.ref x1)] 2 = mkF m 0 #[.val (.ref x0), .val (.ref x1)] [] := by first | (simp [entryFrame, mkF, argsToLocals, Value.category]; done) | rfl
def Q4 (Z : State) (a : Addr) (b : Addr) (va0 : Int32) (va1 : Int32) (va2 : Int32) (va3 : Int32) (vb0 : Int32) (vb1 : Int32) (vb2 : Int32) (vb3 : Int32) (h0 : Heap) (n0 : Nat) (v : Option Value) (h : Heap) (L : List Loc) : Prop := ∃ z : Addr, v = some (.ref z) ∧ Fr n0 L ∧ Keep h0 h [] ∧ h0.size ≤ z ∧ Exa Z h z "com/example/tracewise/tracewise/Fragment" ∧ Fld Z h z "com/example/tracewise/tracewise/Fragment" "start" "I" (.int (if vb0 < va0 then vb0 else va0)) ∧ Fld Z h z "com/example/tracewise/tracewise/Fragment" "end" "I" (.int (if va1 < vb1 then vb1 else va1)) ∧ Fld Z h z "com/example/tracewise/tracewise/Fragment" "otherStart" "I" (.int (if vb2 < va2 then vb2 else va2)) ∧ Fld Z h z "com/example/tracewise/tracewise/Fragment" "otherEnd" "I" (.int (if va3 < vb3 then vb3 else va3))
set_option maxRecDepth 65536 in
set_option maxHeartbeats 40000000 in
theorem rm4 (l : Launch) (Z : State) (a0 : Array Value) (hw : ∀ d ∈ tables_1, d.before a0 Z = true) (ws : List Jvm.Cond) (a : Addr) (b : Addr) (va0 : Int32) (va1 : Int32) (va2 : Int32) (va3 : Int32) (vb0 : Int32) (vb1 : Int32) (vb2 : Int32) (vb3 : Int32) (h0 : Heap) (n0 : Nat) (Z0 : n0 ≤ h0.size) (F_start_a : Fld Z h0 a "com/example/tracewise/tracewise/Fragment" "start" "I" (.int va0)) (F_end_a : Fld Z h0 a "com/example/tracewise/tracewise/Fragment" "end" "I" (.int va1)) (F_otherStart_a : Fld Z h0 a "com/example/tracewise/tracewise/Fragment" "otherStart" "I" (.int va2)) (F_otherEnd_a : Fld Z h0 a "com/example/tracewise/tracewise/Fragment" "otherEnd" "I" (.int va3)) (F_start_b : Fld Z h0 b "com/example/tracewise/tracewise/Fragment" "start" "I" (.int vb0)) (F_end_b : Fld Z h0 b "com/example/tracewise/tracewise/Fragment" "end" "I" (.int vb1)) (F_otherStart_b : Fld Z h0 b "com/example/tracewise/tracewise/Fragment" "otherStart" "I" (.int vb2)) (F_otherEnd_b : Fld Z h0 b "com/example/tracewise/tracewise/Fragment" "otherEnd" "I" (.int vb3)) :
    MetFree l (⟨"com/example/tracewise/tracewise/Fragment", "span", "(Lcom/example/tracewise/tracewise/Fragment;)Lcom/example/tracewise/tracewise/Fragment;"⟩ : MethodName) (head1 (Jvm.Cond.code (⟨"com/example/tracewise/tracewise/Fragment", "span", "(Lcom/example/tracewise/tracewise/Fragment;)Lcom/example/tracewise/tracewise/Fragment;"⟩ : MethodName) prog_8_method_7_code 2 (some (.object "com/example/tracewise/tracewise/Fragment")) :: ws) ({ frames := 2, cells := 1, slots := 4, locals := 29 } : Room)) (fun aS U => aS = #[(.ref a), (.ref b)] ∧ Z.Warmed39 U.vm ∧ U.heap = h0) (fun _ _ _ _ _ => True) (fun _ U o U' => ∃ v L, o = .returned v ∧ Q4 Z a b va0 va1 va2 va3 vb0 vb1 vb2 vb3 h0 n0 v U'.heap L ∧ FrameEnd U o U' L ({ frames := 2, cells := 1, slots := 4, locals := 29 } : Room).cells ({ frames := 2, cells := 1, slots := 4, locals := 29 } : Room).slots) := by
  refine MetFree.of_bodySF (plainFor_of_name pn_0) hisR ?_
  intro p e s m args below meth c s₁ Bd hml0 hP hK
  obtain ⟨rfl, hZ, hh⟩ := hP
  have hx := Bd.exec
  have hby := Bd.bytes
  have hml : c.maxLocals = 2 := hml0
  have hown : s.vm.findClass "com/example/tracewise/tracewise/Fragment" = some m.cls := findClass_of_methodNamed Bd.named
  have hnm := (name_of_methodNamed Bd.named Bd.method).1
  have X0 : Stand p l e ({ frames := 2, cells := 1, slots := 4, locals := 29 } : Room) s m #[(.ref a), (.ref b)] below meth c s₁ [] 0 0 := Stand.of_body Bd
  have e0 : s₁.heap = h0 := by rw [← hh, Bd.state]; rfl
  have N0 := Fr.nil n0
  have Kh : Keep h0 h0 [] := Keep.refl _ _
  suffices H : own_R p e below (own_E s below (Q4 Z a b va0 va1 va2 va3 vb0 vb1 vb2 vb3 h0 n0) ({ frames := 2, cells := 1, slots := 4, locals := 29 } : Room).cells ({ frames := 2, cells := 1, slots := 4, locals := 29 } : Room).slots) s₁ (mkF m 0 #[.val (.ref a), .val (.ref b)] []) by
    obtain ⟨t, hst, hrun, v, L, hend, hQ, hF⟩ := H
    exact ⟨t, _, castTop (ef_4 m a b) hst, hrun, hend, v, L, rfl, hQ, hF⟩
  show own_R p e below _ s₁ (mkF m 0 #[.val (.ref a), .val (.ref b)] [])
  obtain ⟨T1, h1, X1, e1, E1, A1, D1, -, st1⟩ := newO X0 hx hZ hown (hw _ (List.mem_of_getElem? (i := 27) rfl)) (hw _ (List.mem_of_getElem? (i := 1) rfl)) (hw _ (List.mem_of_getElem? (i := 2) rfl)) e0 (g := (mkF m 0 #[.val (.ref a), .val (.ref b)] [])) rfl (hb hby d4_0) (by decide) (by decide)
  obtain ⟨b1, g1⟩ : ∃ z, z = h0.size := ⟨_, rfl⟩
  rw [← g1] at A1 D1 st1
  have g_b1 : n0 ≤ b1 := Nat.le_trans (Nat.le_trans Z0 Kh.1) (Nat.le_of_eq g1.symm)
  have sz_b1 : h0.size ≤ b1 := Nat.le_trans Kh.1 (Nat.le_of_eq g1.symm)
  have ne_a_b1 : a ≠ b1 := Nat.ne_of_lt (Nat.lt_of_lt_of_le F_start_a.lt (Nat.le_of_eq g1.symm))
  have ne_b_b1 : b ≠ b1 := Nat.ne_of_lt (Nat.lt_of_lt_of_le F_start_b.lt (Nat.le_of_eq g1.symm))
  replace F_start_a := Fld.ext E1 F_start_a
  replace F_end_a := Fld.ext E1 F_end_a
  replace F_otherStart_a := Fld.ext E1 F_otherStart_a
  replace F_otherEnd_a := Fld.ext E1 F_otherEnd_a
  replace F_start_b := Fld.ext E1 F_start_b
  replace F_end_b := Fld.ext E1 F_end_b
  replace F_otherStart_b := Fld.ext E1 F_otherStart_b
  replace F_otherEnd_b := Fld.ext E1 F_otherEnd_b
  replace Kh := Kh.ext E1
  have F_start_b1 : Fld Z h1 b1 "com/example/tracewise/tracewise/Fragment" "start" "I" (.int (0 : Int32)) := D1 (Or.inr (hw _ (List.mem_of_getElem? (i := 10) rfl))) (ty := .int) (by decide)
  have F_end_b1 : Fld Z h1 b1 "com/example/tracewise/tracewise/Fragment" "end" "I" (.int (0 : Int32)) := D1 (Or.inr (hw _ (List.mem_of_getElem? (i := 12) rfl))) (ty := .int) (by decide)
  have F_otherStart_b1 : Fld Z h1 b1 "com/example/tracewise/tracewise/Fragment" "otherStart" "I" (.int (0 : Int32)) := D1 (Or.inr (hw _ (List.mem_of_getElem? (i := 14) rfl))) (ty := .int) (by decide)
  have F_otherEnd_b1 : Fld Z h1 b1 "com/example/tracewise/tracewise/Fragment" "otherEnd" "I" (.int (0 : Int32)) := D1 (Or.inr (hw _ (List.mem_of_getElem? (i := 16) rfl))) (ty := .int) (by decide)
  refine own_go (st1) ?_
  show own_R p e below _ T1 (mkF m 3 #[.val (.ref a), .val (.ref b)] [(.ref b1)])
  refine own_go (fun t k => XS.dup X1.here hx rfl (hb hby d4_3) rfl rfl k) ?_
  show own_R p e below _ T1 (mkF m 4 #[.val (.ref a), .val (.ref b)] [(.ref b1), (.ref b1)])
  refine own_go (fun t k => XS.aloadN X1.here hx rfl (hb hby d4_4) rfl rfl  k) ?_
  show own_R p e below _ T1 (mkF m 5 #[.val (.ref a), .val (.ref b)] [(.ref a), (.ref b1), (.ref b1)])
  obtain ⟨T2, X2, e2, st2⟩ := getF X1 hx hZ hown (host := "") (Or.inl (hw _ (List.mem_of_getElem? (i := 9) rfl))) Via.refl e1 F_start_a (g := (mkF m 5 #[.val (.ref a), .val (.ref b)] [(.ref a), (.ref b1), (.ref b1)])) rfl rfl (hb hby d4_5)
  refine own_go (st2) ?_
  show own_R p e below _ T2 (mkF m 8 #[.val (.ref a), .val (.ref b)] [(.int va0), (.ref b1), (.ref b1)])
  refine own_go (fun t k => XS.aloadN X2.here hx rfl (hb hby d4_8) rfl rfl  k) ?_
  show own_R p e below _ T2 (mkF m 9 #[.val (.ref a), .val (.ref b)] [(.ref b), (.int va0), (.ref b1), (.ref b1)])
  obtain ⟨T3, X3, e3, st3⟩ := getF X2 hx hZ hown (host := "") (Or.inl (hw _ (List.mem_of_getElem? (i := 9) rfl))) Via.refl e2 F_start_b (g := (mkF m 9 #[.val (.ref a), .val (.ref b)] [(.ref b), (.int va0), (.ref b1), (.ref b1)])) rfl rfl (hb hby d4_9)
  refine own_go (st3) ?_
  show own_R p e below _ T3 (mkF m 12 #[.val (.ref a), .val (.ref b)] [(.int vb0), (.int va0), (.ref b1), (.ref b1)])
  obtain ⟨_, _, ⟨T4, L4, k4, n4⟩, -, X4, ⟨Lc4, hQ4, l4, y4, z4⟩, st4⟩ := Jvm.LawKit.callS X3 hx (y := (⟨"java/lang/Math", "min", "(II)I"⟩ : MethodName)) hown (mvT hZ (hw _ (List.mem_of_getElem? (i := 28) rfl))) (mvT hZ (hw _ (List.mem_of_getElem? (i := 29) rfl))) (mvT hZ (hw _ (List.mem_of_getElem? (i := 30) rfl))) (mvT hZ (hw _ (List.mem_of_getElem? (i := 31) rfl))) (by decide) (backOf (W := 2) (rm5 l Z a0 hw [] va0 vb0 h1 n0 (Nat.le_trans Z0 Kh.1)) hZ (hw _ (List.mem_of_getElem? (i := 31) rfl)) (hw _ (List.mem_of_getElem? (i := 30) rfl)) (by decide) (by decide)) (g := (mkF m 12 #[.val (.ref a), .val (.ref b)] [(.int vb0), (.int va0), (.ref b1), (.ref b1)])) rfl (by rw [hml]; rfl) (argsL := [(.int va0), (.int vb0)]) (rest := [(.ref b1), (.ref b1)]) (lenOf pd_4 rfl) rfl (by show 2 * 0 + _ ≤ _; exact Nat.le_of_eq rfl) (hb hby d4_12) (fun _ _ => ⟨rfl, e3, (by decide : 1 + 0 ≤ _), (by decide : 4 + 0 ≤ _)⟩)
  dsimp only [Pt.U, Pt.locs, Pt.cells, Pt.slots] at X4 l4 y4 z4 st4 hQ4
  subst l4 y4 z4
  obtain ⟨rfl, Nq4, e4⟩ := hQ4
  have N4 := Fr.app N0 Nq4
  refine own_go (st4) ?_
  show own_R p e below _ T4 (mkF m 15 #[.val (.ref a), .val (.ref b)] [(.int (if vb0 < va0 then vb0 else va0)), (.ref b1), (.ref b1)])
  refine own_go (fun t k => XS.aloadN X4.here hx rfl (hb hby d4_15) rfl rfl  k) ?_
  show own_R p e below _ T4 (mkF m 16 #[.val (.ref a), .val (.ref b)] [(.ref a), (.int (if vb0 < va0 then vb0 else va0)), (.ref b1), (.ref b1)])
  obtain ⟨T5, X5, e5, st5⟩ := getF X4 hx hZ hown (host := "") (Or.inl (hw _ (List.mem_of_getElem? (i := 11) rfl))) Via.refl e4 F_end_a (g := (mkF m 16 #[.val (.ref a), .val (.ref b)] [(.ref a), (.int (if vb0 < va0 then vb0 else va0)), (.ref b1), (.ref b1)])) rfl rfl (hb hby d4_16)
  refine own_go (st5) ?_
  show own_R p e below _ T5 (mkF m 19 #[.val (.ref a), .val (.ref b)] [(.int va1), (.int (if vb0 < va0 then vb0 else va0)), (.ref b1), (.ref b1)])
  refine own_go (fun t k => XS.aloadN X5.here hx rfl (hb hby d4_19) rfl rfl  k) ?_
  show own_R p e below _ T5 (mkF m 20 #[.val (.ref a), .val (.ref b)] [(.ref b), (.int va1), (.int (if vb0 < va0 then vb0 else va0)), (.ref b1), (.ref b1)])
  obtain ⟨T6, X6, e6, st6⟩ := getF X5 hx hZ hown (host := "") (Or.inl (hw _ (List.mem_of_getElem? (i := 11) rfl))) Via.refl e5 F_end_b (g := (mkF m 20 #[.val (.ref a), .val (.ref b)] [(.ref b), (.int va1), (.int (if vb0 < va0 then vb0 else va0)), (.ref b1), (.ref b1)])) rfl rfl (hb hby d4_20)
  refine own_go (st6) ?_
  show own_R p e below _ T6 (mkF m 23 #[.val (.ref a), .val (.ref b)] [(.int vb1), (.int va1), (.int (if vb0 < va0 then vb0 else va0)), (.ref b1), (.ref b1)])
  obtain ⟨_, _, ⟨T7, L7, k7, n7⟩, -, X7, ⟨Lc7, hQ7, l7, y7, z7⟩, st7⟩ := Jvm.LawKit.callS X6 hx (y := (⟨"java/lang/Math", "max", "(II)I"⟩ : MethodName)) hown (mvT hZ (hw _ (List.mem_of_getElem? (i := 32) rfl))) (mvT hZ (hw _ (List.mem_of_getElem? (i := 33) rfl))) (mvT hZ (hw _ (List.mem_of_getElem? (i := 30) rfl))) (mvT hZ (hw _ (List.mem_of_getElem? (i := 34) rfl))) (by decide) (backOf (W := 3) (rm6 l Z a0 hw [] va1 vb1 h1 n0 (Nat.le_trans Z0 Kh.1)) hZ (hw _ (List.mem_of_getElem? (i := 34) rfl)) (hw _ (List.mem_of_getElem? (i := 30) rfl)) (by decide) (by decide)) (g := (mkF m 23 #[.val (.ref a), .val (.ref b)] [(.int vb1), (.int va1), (.int (if vb0 < va0 then vb0 else va0)), (.ref b1), (.ref b1)])) rfl (by rw [hml]; rfl) (argsL := [(.int va1), (.int vb1)]) (rest := [(.int (if vb0 < va0 then vb0 else va0)), (.ref b1), (.ref b1)]) (lenOf pd_4 rfl) rfl (by show 2 * 0 + _ ≤ _; exact Nat.le_of_eq rfl) (hb hby d4_23) (fun _ _ => ⟨rfl, e6, (by decide : 1 + 0 ≤ _), (by decide : 4 + 0 ≤ _)⟩)
  dsimp only [Pt.U, Pt.locs, Pt.cells, Pt.slots] at X7 l7 y7 z7 st7 hQ7
  subst l7 y7 z7
  obtain ⟨rfl, Nq7, e7⟩ := hQ7
  have N7 := Fr.app N4 Nq7
  refine own_go (st7) ?_
  show own_R p e below _ T7 (mkF m 26 #[.val (.ref a), .val (.ref b)] [(.int (if va1 < vb1 then vb1 else va1)), (.int (if vb0 < va0 then vb0 else va0)), (.ref b1), (.ref b1)])
  refine own_go (fun t k => XS.aloadN X7.here hx rfl (hb hby d4_26) rfl rfl  k) ?_
  show own_R p e below _ T7 (mkF m 27 #[.val (.ref a), .val (.ref b)] [(.ref a), (.int (if va1 < vb1 then vb1 else va1)), (.int (if vb0 < va0 then vb0 else va0)), (.ref b1), (.ref b1)])
  obtain ⟨T8, X8, e8, st8⟩ := getF X7 hx hZ hown (host := "") (Or.inl (hw _ (List.mem_of_getElem? (i := 13) rfl))) Via.refl e7 F_otherStart_a (g := (mkF m 27 #[.val (.ref a), .val (.ref b)] [(.ref a), (.int (if va1 < vb1 then vb1 else va1)), (.int (if vb0 < va0 then vb0 else va0)), (.ref b1), (.ref b1)])) rfl rfl (hb hby d4_27)
  refine own_go (st8) ?_
  show own_R p e below _ T8 (mkF m 30 #[.val (.ref a), .val (.ref b)] [(.int va2), (.int (if va1 < vb1 then vb1 else va1)), (.int (if vb0 < va0 then vb0 else va0)), (.ref b1), (.ref b1)])
  refine own_go (fun t k => XS.aloadN X8.here hx rfl (hb hby d4_30) rfl rfl  k) ?_
  show own_R p e below _ T8 (mkF m 31 #[.val (.ref a), .val (.ref b)] [(.ref b), (.int va2), (.int (if va1 < vb1 then vb1 else va1)), (.int (if vb0 < va0 then vb0 else va0)), (.ref b1), (.ref b1)])
  obtain ⟨T9, X9, e9, st9⟩ := getF X8 hx hZ hown (host := "") (Or.inl (hw _ (List.mem_of_getElem? (i := 13) rfl))) Via.refl e8 F_otherStart_b (g := (mkF m 31 #[.val (.ref a), .val (.ref b)] [(.ref b), (.int va2), (.int (if va1 < vb1 then vb1 else va1)), (.int (if vb0 < va0 then vb0 else va0)), (.ref b1), (.ref b1)])) rfl rfl (hb hby d4_31)
  refine own_go (st9) ?_
  show own_R p e below _ T9 (mkF m 34 #[.val (.ref a), .val (.ref b)] [(.int vb2), (.int va2), (.int (if va1 < vb1 then vb1 else va1)), (.int (if vb0 < va0 then vb0 else va0)), (.ref b1), (.ref b1)])
  obtain ⟨_, _, ⟨T10, L10, k10, n10⟩, -, X10, ⟨Lc10, hQ10, l10, y10, z10⟩, st10⟩ := Jvm.LawKit.callS X9 hx (y := (⟨"java/lang/Math", "min", "(II)I"⟩ : MethodName)) hown (mvT hZ (hw _ (List.mem_of_getElem? (i := 28) rfl))) (mvT hZ (hw _ (List.mem_of_getElem? (i := 29) rfl))) (mvT hZ (hw _ (List.mem_of_getElem? (i := 30) rfl))) (mvT hZ (hw _ (List.mem_of_getElem? (i := 31) rfl))) (by decide) (backOf (W := 4) (rm5 l Z a0 hw [] va2 vb2 h1 n0 (Nat.le_trans Z0 Kh.1)) hZ (hw _ (List.mem_of_getElem? (i := 31) rfl)) (hw _ (List.mem_of_getElem? (i := 30) rfl)) (by decide) (by decide)) (g := (mkF m 34 #[.val (.ref a), .val (.ref b)] [(.int vb2), (.int va2), (.int (if va1 < vb1 then vb1 else va1)), (.int (if vb0 < va0 then vb0 else va0)), (.ref b1), (.ref b1)])) rfl (by rw [hml]; rfl) (argsL := [(.int va2), (.int vb2)]) (rest := [(.int (if va1 < vb1 then vb1 else va1)), (.int (if vb0 < va0 then vb0 else va0)), (.ref b1), (.ref b1)]) (lenOf pd_4 rfl) rfl (by show 2 * 0 + _ ≤ _; exact Nat.le_of_eq rfl) (hb hby d4_34) (fun _ _ => ⟨rfl, e9, (by decide : 1 + 0 ≤ _), (by decide : 4 + 0 ≤ _)⟩)
  dsimp only [Pt.U, Pt.locs, Pt.cells, Pt.slots] at X10 l10 y10 z10 st10 hQ10
  subst l10 y10 z10
  obtain ⟨rfl, Nq10, e10⟩ := hQ10
  have N10 := Fr.app N7 Nq10
  refine own_go (st10) ?_
  show own_R p e below _ T10 (mkF m 37 #[.val (.ref a), .val (.ref b)] [(.int (if vb2 < va2 then vb2 else va2)), (.int (if va1 < vb1 then vb1 else va1)), (.int (if vb0 < va0 then vb0 else va0)), (.ref b1), (.ref b1)])
  refine own_go (fun t k => XS.aloadN X10.here hx rfl (hb hby d4_37) rfl rfl  k) ?_
  show own_R p e below _ T10 (mkF m 38 #[.val (.ref a), .val (.ref b)] [(.ref a), (.int (if vb2 < va2 then vb2 else va2)), (.int (if va1 < vb1 then vb1 else va1)), (.int (if vb0 < va0 then vb0 else va0)), (.ref b1), (.ref b1)])
  obtain ⟨T11, X11, e11, st11⟩ := getF X10 hx hZ hown (host := "") (Or.inl (hw _ (List.mem_of_getElem? (i := 15) rfl))) Via.refl e10 F_otherEnd_a (g := (mkF m 38 #[.val (.ref a), .val (.ref b)] [(.ref a), (.int (if vb2 < va2 then vb2 else va2)), (.int (if va1 < vb1 then vb1 else va1)), (.int (if vb0 < va0 then vb0 else va0)), (.ref b1), (.ref b1)])) rfl rfl (hb hby d4_38)
  refine own_go (st11) ?_
  show own_R p e below _ T11 (mkF m 41 #[.val (.ref a), .val (.ref b)] [(.int va3), (.int (if vb2 < va2 then vb2 else va2)), (.int (if va1 < vb1 then vb1 else va1)), (.int (if vb0 < va0 then vb0 else va0)), (.ref b1), (.ref b1)])
  refine own_go (fun t k => XS.aloadN X11.here hx rfl (hb hby d4_41) rfl rfl  k) ?_
  show own_R p e below _ T11 (mkF m 42 #[.val (.ref a), .val (.ref b)] [(.ref b), (.int va3), (.int (if vb2 < va2 then vb2 else va2)), (.int (if va1 < vb1 then vb1 else va1)), (.int (if vb0 < va0 then vb0 else va0)), (.ref b1), (.ref b1)])
  obtain ⟨T12, X12, e12, st12⟩ := getF X11 hx hZ hown (host := "") (Or.inl (hw _ (List.mem_of_getElem? (i := 15) rfl))) Via.refl e11 F_otherEnd_b (g := (mkF m 42 #[.val (.ref a), .val (.ref b)] [(.ref b), (.int va3), (.int (if vb2 < va2 then vb2 else va2)), (.int (if va1 < vb1 then vb1 else va1)), (.int (if vb0 < va0 then vb0 else va0)), (.ref b1), (.ref b1)])) rfl rfl (hb hby d4_42)
  refine own_go (st12) ?_
  show own_R p e below _ T12 (mkF m 45 #[.val (.ref a), .val (.ref b)] [(.int vb3), (.int va3), (.int (if vb2 < va2 then vb2 else va2)), (.int (if va1 < vb1 then vb1 else va1)), (.int (if vb0 < va0 then vb0 else va0)), (.ref b1), (.ref b1)])
  obtain ⟨_, _, ⟨T13, L13, k13, n13⟩, -, X13, ⟨Lc13, hQ13, l13, y13, z13⟩, st13⟩ := Jvm.LawKit.callS X12 hx (y := (⟨"java/lang/Math", "max", "(II)I"⟩ : MethodName)) hown (mvT hZ (hw _ (List.mem_of_getElem? (i := 32) rfl))) (mvT hZ (hw _ (List.mem_of_getElem? (i := 33) rfl))) (mvT hZ (hw _ (List.mem_of_getElem? (i := 30) rfl))) (mvT hZ (hw _ (List.mem_of_getElem? (i := 34) rfl))) (by decide) (backOf (W := 5) (rm6 l Z a0 hw [] va3 vb3 h1 n0 (Nat.le_trans Z0 Kh.1)) hZ (hw _ (List.mem_of_getElem? (i := 34) rfl)) (hw _ (List.mem_of_getElem? (i := 30) rfl)) (by decide) (by decide)) (g := (mkF m 45 #[.val (.ref a), .val (.ref b)] [(.int vb3), (.int va3), (.int (if vb2 < va2 then vb2 else va2)), (.int (if va1 < vb1 then vb1 else va1)), (.int (if vb0 < va0 then vb0 else va0)), (.ref b1), (.ref b1)])) rfl (by rw [hml]; rfl) (argsL := [(.int va3), (.int vb3)]) (rest := [(.int (if vb2 < va2 then vb2 else va2)), (.int (if va1 < vb1 then vb1 else va1)), (.int (if vb0 < va0 then vb0 else va0)), (.ref b1), (.ref b1)]) (lenOf pd_4 rfl) rfl (by show 2 * 0 + _ ≤ _; exact Nat.le_of_eq rfl) (hb hby d4_45) (fun _ _ => ⟨rfl, e12, (by decide : 1 + 0 ≤ _), (by decide : 4 + 0 ≤ _)⟩)
  dsimp only [Pt.U, Pt.locs, Pt.cells, Pt.slots] at X13 l13 y13 z13 st13 hQ13
  subst l13 y13 z13
  obtain ⟨rfl, Nq13, e13⟩ := hQ13
  have N13 := Fr.app N10 Nq13
  refine own_go (st13) ?_
  show own_R p e below _ T13 (mkF m 48 #[.val (.ref a), .val (.ref b)] [(.int (if va3 < vb3 then vb3 else va3)), (.int (if vb2 < va2 then vb2 else va2)), (.int (if va1 < vb1 then vb1 else va1)), (.int (if vb0 < va0 then vb0 else va0)), (.ref b1), (.ref b1)])
  obtain ⟨_, _, ⟨T14, L14, k14, n14⟩, -, X14, ⟨Lc14, hQ14, l14, y14, z14⟩, st14⟩ := X13.specialBack hx (y := (⟨"com/example/tracewise/tracewise/Fragment", "<init>", "(IIII)V"⟩ : MethodName)) rfl hown (mvT hZ (hw _ (List.mem_of_getElem? (i := 35) rfl))) (mvT hZ (hw _ (List.mem_of_getElem? (i := 4) rfl))) (mvT hZ (hw _ (List.mem_of_getElem? (i := 5) rfl))) (by decide) (backOf (W := 1) (rm1 l Z a0 hw [] b1 (if vb0 < va0 then vb0 else va0) (if va1 < vb1 then vb1 else va1) (if vb2 < va2 then vb2 else va2) (if va3 < vb3 then vb3 else va3) h1 n0 (Nat.le_trans Z0 Kh.1) F_start_b1 F_end_b1 F_otherStart_b1 F_otherEnd_b1 A1 g_b1) hZ (hw _ (List.mem_of_getElem? (i := 5) rfl)) (hw _ (List.mem_of_getElem? (i := 2) rfl)) (by decide) (by decide)) (g := (mkF m 48 #[.val (.ref a), .val (.ref b)] [(.int (if va3 < vb3 then vb3 else va3)), (.int (if vb2 < va2 then vb2 else va2)), (.int (if va1 < vb1 then vb1 else va1)), (.int (if vb0 < va0 then vb0 else va0)), (.ref b1), (.ref b1)])) rfl (by rw [hml]; rfl) (Steps.refl _) (a := b1) (argsL := [(.int (if vb0 < va0 then vb0 else va0)), (.int (if va1 < vb1 then vb1 else va1)), (.int (if vb2 < va2 then vb2 else va2)), (.int (if va3 < vb3 then vb3 else va3))]) (rest := [(.ref b1)]) (lenOf pd_0 rfl) rfl (by show 2 * 0 + _ ≤ _; exact Nat.le_of_eq rfl) (hb hby d4_48) (fun _ _ => ⟨rfl, e13, (by decide : 1 + 0 ≤ _), (by decide : 4 + 0 ≤ _)⟩)
  dsimp only [Pt.U, Pt.locs, Pt.cells, Pt.slots] at X14 l14 y14 z14 st14 hQ14
  subst l14 y14 z14
  obtain ⟨rfl, Nq14, K14, Ew14, Fw14_0, Fw14_1, Fw14_2, Fw14_3⟩ := hQ14
  have N14 := Fr.app N13 Nq14
  obtain ⟨h14, e14⟩ : ∃ z, T14.heap = z := ⟨_, rfl⟩
  rw [e14] at K14 Ew14 Fw14_0 Fw14_1 Fw14_2 Fw14_3
  replace F_start_a := F_start_a.keep K14 (ninS ne_a_b1 nin0)
  replace F_end_a := F_end_a.keep K14 (ninS ne_a_b1 nin0)
  replace F_otherStart_a := F_otherStart_a.keep K14 (ninS ne_a_b1 nin0)
  replace F_otherEnd_a := F_otherEnd_a.keep K14 (ninS ne_a_b1 nin0)
  replace F_start_b := F_start_b.keep K14 (ninS ne_b_b1 nin0)
  replace F_end_b := F_end_b.keep K14 (ninS ne_b_b1 nin0)
  replace F_otherStart_b := F_otherStart_b.keep K14 (ninS ne_b_b1 nin0)
  replace F_otherEnd_b := F_otherEnd_b.keep K14 (ninS ne_b_b1 nin0)
  replace Kh := Kh.trans K14 (allS (Or.inr sz_b1) all0)
  refine own_go (fun t k => st14.trans k) ?_
  show own_R p e below _ T14 (mkF m 51 #[.val (.ref a), .val (.ref b)] [(.ref b1)])
  refine own_retW X14 hx Bd.returns rfl (Or.inr (Or.inr (Or.inr (Or.inr ⟨rfl, rfl, rfl⟩)))) (BodyLoose.notSynchronized Bd) (hb hby d4_51) (by decide) (by decide) ?_
  rw [e14]
  exact ⟨b1, rfl, N14, Kh, sz_b1, Ew14, Fw14_0, Fw14_1, Fw14_2, Fw14_3⟩
theorem pn_1 : plainName "com/example/tracewise/tracewise/FragmentWithinPinLaw" = true := by first | (simp [plainName, overriddenIn]; done) | decide +kernel
theorem ef_0 (m : MethodId) (x0 : Int64) (x1 : Int64) (x2 : Int64) (x3 : Int64) : entryFrame m #[(.long x0), (.long x1), (.long x2), (.long x3)] maxLocals = mkF m 0 #[.val (.long x0), .second, .val (.long x1), .second, .val (.long x2), .second, .val (.long x3), .second, .unset, .unset, .unset, .unset, .unset, .unset, .unset, .unset, .unset, .unset, .unset, .unset, .unset] [] := by first | (simp [entryFrame, mkF, argsToLocals, Value.category, maxLocals]; done) | rfl
def Q0 (Z : State) (q1 : Int64) (q2 : Int64) (q3 : Int64) (q4 : Int64) (h0 : Heap) (n0 : Nat) (v : Option Value) (h : Heap) (L : List Loc) : Prop := v = some (.int (1 : Int32)) ∧ Fr n0 L
set_option maxRecDepth 65536 in
set_option maxHeartbeats 40000000 in
theorem rm0 (l : Launch) (Z : State) (a0 : Array Value) (hw : ∀ d ∈ tables_1, d.before a0 Z = true) (ws : List Jvm.Cond) (q1 : Int64) (q2 : Int64) (q3 : Int64) (q4 : Int64) (h0 : Heap) (n0 : Nat) (Z0 : n0 ≤ h0.size) :
    MetFree l x (head1 (Jvm.Cond.code x code maxLocals ret :: ws) room_1) (fun aS U => aS = #[(.long q1), (.long q2), (.long q3), (.long q4)] ∧ Z.Warmed39 U.vm ∧ U.heap = h0) (fun _ _ _ _ _ => True) (fun _ U o U' => ∃ v L, o = .returned v ∧ Q0 Z q1 q2 q3 q4 h0 n0 v U'.heap L ∧ FrameEnd U o U' L room_1.cells room_1.slots) := by
  refine MetFree.of_bodySF (plainFor_of_name pn_1) hisR ?_
  intro p e s m args below meth c s₁ Bd hml0 hP hK
  obtain ⟨rfl, hZ, hh⟩ := hP
  have hx := Bd.exec
  have hby := Bd.bytes
  have hml : c.maxLocals = 21 := hml0
  have hown : s.vm.findClass "com/example/tracewise/tracewise/FragmentWithinPinLaw" = some m.cls := findClass_of_methodNamed Bd.named
  have hnm := (name_of_methodNamed Bd.named Bd.method).1
  have X0 : Stand p l e room_1 s m #[(.long q1), (.long q2), (.long q3), (.long q4)] below meth c s₁ [] 0 0 := Stand.of_body Bd
  have e0 : s₁.heap = h0 := by rw [← hh, Bd.state]; rfl
  have N0 := Fr.nil n0
  have Kh : Keep h0 h0 [] := Keep.refl _ _
  suffices H : own_R p e below (own_E s below (Q0 Z q1 q2 q3 q4 h0 n0) room_1.cells room_1.slots) s₁ (mkF m 0 #[.val (.long q1), .second, .val (.long q2), .second, .val (.long q3), .second, .val (.long q4), .second, .unset, .unset, .unset, .unset, .unset, .unset, .unset, .unset, .unset, .unset, .unset, .unset, .unset] []) by
    obtain ⟨t, hst, hrun, v, L, hend, hQ, hF⟩ := H
    exact ⟨t, _, castTop (ef_0 m q1 q2 q3 q4) hst, hrun, hend, v, L, rfl, hQ, hF⟩
  show own_R p e below _ s₁ (mkF m 0 #[.val (.long q1), .second, .val (.long q2), .second, .val (.long q3), .second, .val (.long q4), .second, .unset, .unset, .unset, .unset, .unset, .unset, .unset, .unset, .unset, .unset, .unset, .unset, .unset] [])
  refine own_go (fun t k => XS.lloadN X0.here hx rfl (hb hby at_0) rfl  k) ?_
  show own_R p e below _ s₁ (mkF m 1 #[.val (.long q1), .second, .val (.long q2), .second, .val (.long q3), .second, .val (.long q4), .second, .unset, .unset, .unset, .unset, .unset, .unset, .unset, .unset, .unset, .unset, .unset, .unset, .unset] [(.long q1)])
  refine own_go (fun t k => XS.l2i X0.here hx rfl (hb hby at_1) rfl k) ?_
  show own_R p e below _ s₁ (mkF m 2 #[.val (.long q1), .second, .val (.long q2), .second, .val (.long q3), .second, .val (.long q4), .second, .unset, .unset, .unset, .unset, .unset, .unset, .unset, .unset, .unset, .unset, .unset, .unset, .unset] [(.int (q1.toInt32))])
  refine own_go (fun t k => XS.istore X0.here hx rfl (hb hby at_2) rfl (l' := #[.val (.long q1), .second, .val (.long q2), .second, .val (.long q3), .second, .val (.long q4), .second, .val (.int (q1.toInt32)), .unset, .unset, .unset, .unset, .unset, .unset, .unset, .unset, .unset, .unset, .unset, .unset]) rfl k) ?_
  show own_R p e below _ s₁ (mkF m 4 #[.val (.long q1), .second, .val (.long q2), .second, .val (.long q3), .second, .val (.long q4), .second, .val (.int (q1.toInt32)), .unset, .unset, .unset, .unset, .unset, .unset, .unset, .unset, .unset, .unset, .unset, .unset] [])
  obtain ⟨fs, hfs⟩ : ∃ z, z = (q1.toInt32) := ⟨_, rfl⟩
  rw [← hfs]
  show own_R p e below _ s₁ (mkF m 4 #[.val (.long q1), .second, .val (.long q2), .second, .val (.long q3), .second, .val (.long q4), .second, .val (.int fs), .unset, .unset, .unset, .unset, .unset, .unset, .unset, .unset, .unset, .unset, .unset, .unset] [])
  refine own_go (fun t k => XS.lloadN X0.here hx rfl (hb hby at_4) rfl  k) ?_
  show own_R p e below _ s₁ (mkF m 5 #[.val (.long q1), .second, .val (.long q2), .second, .val (.long q3), .second, .val (.long q4), .second, .val (.int fs), .unset, .unset, .unset, .unset, .unset, .unset, .unset, .unset, .unset, .unset, .unset, .unset] [(.long q2)])
  refine own_go (fun t k => XS.l2i X0.here hx rfl (hb hby at_5) rfl k) ?_
  show own_R p e below _ s₁ (mkF m 6 #[.val (.long q1), .second, .val (.long q2), .second, .val (.long q3), .second, .val (.long q4), .second, .val (.int fs), .unset, .unset, .unset, .unset, .unset, .unset, .unset, .unset, .unset, .unset, .unset, .unset] [(.int (q2.toInt32))])
  refine own_go (fun t k => XS.istore X0.here hx rfl (hb hby at_6) rfl (l' := #[.val (.long q1), .second, .val (.long q2), .second, .val (.long q3), .second, .val (.long q4), .second, .val (.int fs), .val (.int (q2.toInt32)), .unset, .unset, .unset, .unset, .unset, .unset, .unset, .unset, .unset, .unset, .unset]) rfl k) ?_
  show own_R p e below _ s₁ (mkF m 8 #[.val (.long q1), .second, .val (.long q2), .second, .val (.long q3), .second, .val (.long q4), .second, .val (.int fs), .val (.int (q2.toInt32)), .unset, .unset, .unset, .unset, .unset, .unset, .unset, .unset, .unset, .unset, .unset] [])
  obtain ⟨fe, hfe⟩ : ∃ z, z = (q2.toInt32) := ⟨_, rfl⟩
  rw [← hfe]
  show own_R p e below _ s₁ (mkF m 8 #[.val (.long q1), .second, .val (.long q2), .second, .val (.long q3), .second, .val (.long q4), .second, .val (.int fs), .val (.int fe), .unset, .unset, .unset, .unset, .unset, .unset, .unset, .unset, .unset, .unset, .unset] [])
  refine own_go (fun t k => XS.lload X0.here hx rfl (hb hby at_8) rfl  k) ?_
  show own_R p e below _ s₁ (mkF m 10 #[.val (.long q1), .second, .val (.long q2), .second, .val (.long q3), .second, .val (.long q4), .second, .val (.int fs), .val (.int fe), .unset, .unset, .unset, .unset, .unset, .unset, .unset, .unset, .unset, .unset, .unset] [(.long q3)])
  refine own_go (fun t k => XS.l2i X0.here hx rfl (hb hby at_10) rfl k) ?_
  show own_R p e below _ s₁ (mkF m 11 #[.val (.long q1), .second, .val (.long q2), .second, .val (.long q3), .second, .val (.long q4), .second, .val (.int fs), .val (.int fe), .unset, .unset, .unset, .unset, .unset, .unset, .unset, .unset, .unset, .unset, .unset] [(.int (q3.toInt32))])
  refine own_go (fun t k => XS.istore X0.here hx rfl (hb hby at_11) rfl (l' := #[.val (.long q1), .second, .val (.long q2), .second, .val (.long q3), .second, .val (.long q4), .second, .val (.int fs), .val (.int fe), .val (.int (q3.toInt32)), .unset, .unset, .unset, .unset, .unset, .unset, .unset, .unset, .unset, .unset]) rfl k) ?_
  show own_R p e below _ s₁ (mkF m 13 #[.val (.long q1), .second, .val (.long q2), .second, .val (.long q3), .second, .val (.long q4), .second, .val (.int fs), .val (.int fe), .val (.int (q3.toInt32)), .unset, .unset, .unset, .unset, .unset, .unset, .unset, .unset, .unset, .unset] [])
  obtain ⟨fos, hfos⟩ : ∃ z, z = (q3.toInt32) := ⟨_, rfl⟩
  rw [← hfos]
  show own_R p e below _ s₁ (mkF m 13 #[.val (.long q1), .second, .val (.long q2), .second, .val (.long q3), .second, .val (.long q4), .second, .val (.int fs), .val (.int fe), .val (.int fos), .unset, .unset, .unset, .unset, .unset, .unset, .unset, .unset, .unset, .unset] [])
  refine own_go (fun t k => XS.lload X0.here hx rfl (hb hby at_13) rfl  k) ?_
  show own_R p e below _ s₁ (mkF m 15 #[.val (.long q1), .second, .val (.long q2), .second, .val (.long q3), .second, .val (.long q4), .second, .val (.int fs), .val (.int fe), .val (.int fos), .unset, .unset, .unset, .unset, .unset, .unset, .unset, .unset, .unset, .unset] [(.long q4)])
  refine own_go (fun t k => XS.l2i X0.here hx rfl (hb hby at_15) rfl k) ?_
  show own_R p e below _ s₁ (mkF m 16 #[.val (.long q1), .second, .val (.long q2), .second, .val (.long q3), .second, .val (.long q4), .second, .val (.int fs), .val (.int fe), .val (.int fos), .unset, .unset, .unset, .unset, .unset, .unset, .unset, .unset, .unset, .unset] [(.int (q4.toInt32))])
  refine own_go (fun t k => XS.istore X0.here hx rfl (hb hby at_16) rfl (l' := #[.val (.long q1), .second, .val (.long q2), .second, .val (.long q3), .second, .val (.long q4), .second, .val (.int fs), .val (.int fe), .val (.int fos), .val (.int (q4.toInt32)), .unset, .unset, .unset, .unset, .unset, .unset, .unset, .unset, .unset]) rfl k) ?_
  show own_R p e below _ s₁ (mkF m 18 #[.val (.long q1), .second, .val (.long q2), .second, .val (.long q3), .second, .val (.long q4), .second, .val (.int fs), .val (.int fe), .val (.int fos), .val (.int (q4.toInt32)), .unset, .unset, .unset, .unset, .unset, .unset, .unset, .unset, .unset] [])
  obtain ⟨foe, hfoe⟩ : ∃ z, z = (q4.toInt32) := ⟨_, rfl⟩
  rw [← hfoe]
  show own_R p e below _ s₁ (mkF m 18 #[.val (.long q1), .second, .val (.long q2), .second, .val (.long q3), .second, .val (.long q4), .second, .val (.int fs), .val (.int fe), .val (.int fos), .val (.int foe), .unset, .unset, .unset, .unset, .unset, .unset, .unset, .unset, .unset] [])
  refine own_go (fun t k => XS.lloadN X0.here hx rfl (hb hby at_18) rfl  k) ?_
  show own_R p e below _ s₁ (mkF m 19 #[.val (.long q1), .second, .val (.long q2), .second, .val (.long q3), .second, .val (.long q4), .second, .val (.int fs), .val (.int fe), .val (.int fos), .val (.int foe), .unset, .unset, .unset, .unset, .unset, .unset, .unset, .unset, .unset] [(.long q1)])
  refine own_go (fun t k => XS.bipush X0.here hx rfl (hb hby at_19) k) ?_
  show own_R p e below _ s₁ (mkF m 21 #[.val (.long q1), .second, .val (.long q2), .second, .val (.long q3), .second, .val (.long q4), .second, .val (.int fs), .val (.int fe), .val (.int fos), .val (.int foe), .unset, .unset, .unset, .unset, .unset, .unset, .unset, .unset, .unset] [(.int (32 : Int32)), (.long q1)])
  refine own_go (fun t k => XS.lshr X0.here hx rfl (hb hby at_21) rfl k) ?_
  show own_R p e below _ s₁ (mkF m 22 #[.val (.long q1), .second, .val (.long q2), .second, .val (.long q3), .second, .val (.long q4), .second, .val (.int fs), .val (.int fe), .val (.int fos), .val (.int foe), .unset, .unset, .unset, .unset, .unset, .unset, .unset, .unset, .unset] [(.long (q1 >>> ((32 : Int32) &&& 0x3f).toInt64))])
  refine own_go (fun t k => XS.l2i X0.here hx rfl (hb hby at_22) rfl k) ?_
  show own_R p e below _ s₁ (mkF m 23 #[.val (.long q1), .second, .val (.long q2), .second, .val (.long q3), .second, .val (.long q4), .second, .val (.int fs), .val (.int fe), .val (.int fos), .val (.int foe), .unset, .unset, .unset, .unset, .unset, .unset, .unset, .unset, .unset] [(.int ((q1 >>> ((32 : Int32) &&& 0x3f).toInt64).toInt32))])
  refine own_go (fun t k => XS.istore X0.here hx rfl (hb hby at_23) rfl (l' := #[.val (.long q1), .second, .val (.long q2), .second, .val (.long q3), .second, .val (.long q4), .second, .val (.int fs), .val (.int fe), .val (.int fos), .val (.int foe), .val (.int ((q1 >>> ((32 : Int32) &&& 0x3f).toInt64).toInt32)), .unset, .unset, .unset, .unset, .unset, .unset, .unset, .unset]) rfl k) ?_
  show own_R p e below _ s₁ (mkF m 25 #[.val (.long q1), .second, .val (.long q2), .second, .val (.long q3), .second, .val (.long q4), .second, .val (.int fs), .val (.int fe), .val (.int fos), .val (.int foe), .val (.int ((q1 >>> ((32 : Int32) &&& 0x3f).toInt64).toInt32)), .unset, .unset, .unset, .unset, .unset, .unset, .unset, .unset] [])
  obtain ⟨gs, hgs⟩ : ∃ z, z = ((q1 >>> ((32 : Int32) &&& 0x3f).toInt64).toInt32) := ⟨_, rfl⟩
  rw [← hgs]
  show own_R p e below _ s₁ (mkF m 25 #[.val (.long q1), .second, .val (.long q2), .second, .val (.long q3), .second, .val (.long q4), .second, .val (.int fs), .val (.int fe), .val (.int fos), .val (.int foe), .val (.int gs), .unset, .unset, .unset, .unset, .unset, .unset, .unset, .unset] [])
  refine own_go (fun t k => XS.lloadN X0.here hx rfl (hb hby at_25) rfl  k) ?_
  show own_R p e below _ s₁ (mkF m 26 #[.val (.long q1), .second, .val (.long q2), .second, .val (.long q3), .second, .val (.long q4), .second, .val (.int fs), .val (.int fe), .val (.int fos), .val (.int foe), .val (.int gs), .unset, .unset, .unset, .unset, .unset, .unset, .unset, .unset] [(.long q2)])
  refine own_go (fun t k => XS.bipush X0.here hx rfl (hb hby at_26) k) ?_
  show own_R p e below _ s₁ (mkF m 28 #[.val (.long q1), .second, .val (.long q2), .second, .val (.long q3), .second, .val (.long q4), .second, .val (.int fs), .val (.int fe), .val (.int fos), .val (.int foe), .val (.int gs), .unset, .unset, .unset, .unset, .unset, .unset, .unset, .unset] [(.int (32 : Int32)), (.long q2)])
  refine own_go (fun t k => XS.lshr X0.here hx rfl (hb hby at_28) rfl k) ?_
  show own_R p e below _ s₁ (mkF m 29 #[.val (.long q1), .second, .val (.long q2), .second, .val (.long q3), .second, .val (.long q4), .second, .val (.int fs), .val (.int fe), .val (.int fos), .val (.int foe), .val (.int gs), .unset, .unset, .unset, .unset, .unset, .unset, .unset, .unset] [(.long (q2 >>> ((32 : Int32) &&& 0x3f).toInt64))])
  refine own_go (fun t k => XS.l2i X0.here hx rfl (hb hby at_29) rfl k) ?_
  show own_R p e below _ s₁ (mkF m 30 #[.val (.long q1), .second, .val (.long q2), .second, .val (.long q3), .second, .val (.long q4), .second, .val (.int fs), .val (.int fe), .val (.int fos), .val (.int foe), .val (.int gs), .unset, .unset, .unset, .unset, .unset, .unset, .unset, .unset] [(.int ((q2 >>> ((32 : Int32) &&& 0x3f).toInt64).toInt32))])
  refine own_go (fun t k => XS.istore X0.here hx rfl (hb hby at_30) rfl (l' := #[.val (.long q1), .second, .val (.long q2), .second, .val (.long q3), .second, .val (.long q4), .second, .val (.int fs), .val (.int fe), .val (.int fos), .val (.int foe), .val (.int gs), .val (.int ((q2 >>> ((32 : Int32) &&& 0x3f).toInt64).toInt32)), .unset, .unset, .unset, .unset, .unset, .unset, .unset]) rfl k) ?_
  show own_R p e below _ s₁ (mkF m 32 #[.val (.long q1), .second, .val (.long q2), .second, .val (.long q3), .second, .val (.long q4), .second, .val (.int fs), .val (.int fe), .val (.int fos), .val (.int foe), .val (.int gs), .val (.int ((q2 >>> ((32 : Int32) &&& 0x3f).toInt64).toInt32)), .unset, .unset, .unset, .unset, .unset, .unset, .unset] [])
  obtain ⟨ge, hge⟩ : ∃ z, z = ((q2 >>> ((32 : Int32) &&& 0x3f).toInt64).toInt32) := ⟨_, rfl⟩
  rw [← hge]
  show own_R p e below _ s₁ (mkF m 32 #[.val (.long q1), .second, .val (.long q2), .second, .val (.long q3), .second, .val (.long q4), .second, .val (.int fs), .val (.int fe), .val (.int fos), .val (.int foe), .val (.int gs), .val (.int ge), .unset, .unset, .unset, .unset, .unset, .unset, .unset] [])
  refine own_go (fun t k => XS.lload X0.here hx rfl (hb hby at_32) rfl  k) ?_
  show own_R p e below _ s₁ (mkF m 34 #[.val (.long q1), .second, .val (.long q2), .second, .val (.long q3), .second, .val (.long q4), .second, .val (.int fs), .val (.int fe), .val (.int fos), .val (.int foe), .val (.int gs), .val (.int ge), .unset, .unset, .unset, .unset, .unset, .unset, .unset] [(.long q3)])
  refine own_go (fun t k => XS.bipush X0.here hx rfl (hb hby at_34) k) ?_
  show own_R p e below _ s₁ (mkF m 36 #[.val (.long q1), .second, .val (.long q2), .second, .val (.long q3), .second, .val (.long q4), .second, .val (.int fs), .val (.int fe), .val (.int fos), .val (.int foe), .val (.int gs), .val (.int ge), .unset, .unset, .unset, .unset, .unset, .unset, .unset] [(.int (32 : Int32)), (.long q3)])
  refine own_go (fun t k => XS.lshr X0.here hx rfl (hb hby at_36) rfl k) ?_
  show own_R p e below _ s₁ (mkF m 37 #[.val (.long q1), .second, .val (.long q2), .second, .val (.long q3), .second, .val (.long q4), .second, .val (.int fs), .val (.int fe), .val (.int fos), .val (.int foe), .val (.int gs), .val (.int ge), .unset, .unset, .unset, .unset, .unset, .unset, .unset] [(.long (q3 >>> ((32 : Int32) &&& 0x3f).toInt64))])
  refine own_go (fun t k => XS.l2i X0.here hx rfl (hb hby at_37) rfl k) ?_
  show own_R p e below _ s₁ (mkF m 38 #[.val (.long q1), .second, .val (.long q2), .second, .val (.long q3), .second, .val (.long q4), .second, .val (.int fs), .val (.int fe), .val (.int fos), .val (.int foe), .val (.int gs), .val (.int ge), .unset, .unset, .unset, .unset, .unset, .unset, .unset] [(.int ((q3 >>> ((32 : Int32) &&& 0x3f).toInt64).toInt32))])
  refine own_go (fun t k => XS.istore X0.here hx rfl (hb hby at_38) rfl (l' := #[.val (.long q1), .second, .val (.long q2), .second, .val (.long q3), .second, .val (.long q4), .second, .val (.int fs), .val (.int fe), .val (.int fos), .val (.int foe), .val (.int gs), .val (.int ge), .val (.int ((q3 >>> ((32 : Int32) &&& 0x3f).toInt64).toInt32)), .unset, .unset, .unset, .unset, .unset, .unset]) rfl k) ?_
  show own_R p e below _ s₁ (mkF m 40 #[.val (.long q1), .second, .val (.long q2), .second, .val (.long q3), .second, .val (.long q4), .second, .val (.int fs), .val (.int fe), .val (.int fos), .val (.int foe), .val (.int gs), .val (.int ge), .val (.int ((q3 >>> ((32 : Int32) &&& 0x3f).toInt64).toInt32)), .unset, .unset, .unset, .unset, .unset, .unset] [])
  obtain ⟨gos, hgos⟩ : ∃ z, z = ((q3 >>> ((32 : Int32) &&& 0x3f).toInt64).toInt32) := ⟨_, rfl⟩
  rw [← hgos]
  show own_R p e below _ s₁ (mkF m 40 #[.val (.long q1), .second, .val (.long q2), .second, .val (.long q3), .second, .val (.long q4), .second, .val (.int fs), .val (.int fe), .val (.int fos), .val (.int foe), .val (.int gs), .val (.int ge), .val (.int gos), .unset, .unset, .unset, .unset, .unset, .unset] [])
  refine own_go (fun t k => XS.lload X0.here hx rfl (hb hby at_40) rfl  k) ?_
  show own_R p e below _ s₁ (mkF m 42 #[.val (.long q1), .second, .val (.long q2), .second, .val (.long q3), .second, .val (.long q4), .second, .val (.int fs), .val (.int fe), .val (.int fos), .val (.int foe), .val (.int gs), .val (.int ge), .val (.int gos), .unset, .unset, .unset, .unset, .unset, .unset] [(.long q4)])
  refine own_go (fun t k => XS.bipush X0.here hx rfl (hb hby at_42) k) ?_
  show own_R p e below _ s₁ (mkF m 44 #[.val (.long q1), .second, .val (.long q2), .second, .val (.long q3), .second, .val (.long q4), .second, .val (.int fs), .val (.int fe), .val (.int fos), .val (.int foe), .val (.int gs), .val (.int ge), .val (.int gos), .unset, .unset, .unset, .unset, .unset, .unset] [(.int (32 : Int32)), (.long q4)])
  refine own_go (fun t k => XS.lshr X0.here hx rfl (hb hby at_44) rfl k) ?_
  show own_R p e below _ s₁ (mkF m 45 #[.val (.long q1), .second, .val (.long q2), .second, .val (.long q3), .second, .val (.long q4), .second, .val (.int fs), .val (.int fe), .val (.int fos), .val (.int foe), .val (.int gs), .val (.int ge), .val (.int gos), .unset, .unset, .unset, .unset, .unset, .unset] [(.long (q4 >>> ((32 : Int32) &&& 0x3f).toInt64))])
  refine own_go (fun t k => XS.l2i X0.here hx rfl (hb hby at_45) rfl k) ?_
  show own_R p e below _ s₁ (mkF m 46 #[.val (.long q1), .second, .val (.long q2), .second, .val (.long q3), .second, .val (.long q4), .second, .val (.int fs), .val (.int fe), .val (.int fos), .val (.int foe), .val (.int gs), .val (.int ge), .val (.int gos), .unset, .unset, .unset, .unset, .unset, .unset] [(.int ((q4 >>> ((32 : Int32) &&& 0x3f).toInt64).toInt32))])
  refine own_go (fun t k => XS.istore X0.here hx rfl (hb hby at_46) rfl (l' := #[.val (.long q1), .second, .val (.long q2), .second, .val (.long q3), .second, .val (.long q4), .second, .val (.int fs), .val (.int fe), .val (.int fos), .val (.int foe), .val (.int gs), .val (.int ge), .val (.int gos), .val (.int ((q4 >>> ((32 : Int32) &&& 0x3f).toInt64).toInt32)), .unset, .unset, .unset, .unset, .unset]) rfl k) ?_
  show own_R p e below _ s₁ (mkF m 48 #[.val (.long q1), .second, .val (.long q2), .second, .val (.long q3), .second, .val (.long q4), .second, .val (.int fs), .val (.int fe), .val (.int fos), .val (.int foe), .val (.int gs), .val (.int ge), .val (.int gos), .val (.int ((q4 >>> ((32 : Int32) &&& 0x3f).toInt64).toInt32)), .unset, .unset, .unset, .unset, .unset] [])
  obtain ⟨goe, hgoe⟩ : ∃ z, z = ((q4 >>> ((32 : Int32) &&& 0x3f).toInt64).toInt32) := ⟨_, rfl⟩
  rw [← hgoe]
  show own_R p e below _ s₁ (mkF m 48 #[.val (.long q1), .second, .val (.long q2), .second, .val (.long q3), .second, .val (.long q4), .second, .val (.int fs), .val (.int fe), .val (.int fos), .val (.int foe), .val (.int gs), .val (.int ge), .val (.int gos), .val (.int goe), .unset, .unset, .unset, .unset, .unset] [])
  obtain ⟨T1, h1, X1, e1, E1, A1, D1, -, st1⟩ := newO X0 hx hZ hown (hw _ (List.mem_of_getElem? (i := 0) rfl)) (hw _ (List.mem_of_getElem? (i := 1) rfl)) (hw _ (List.mem_of_getElem? (i := 2) rfl)) e0 (g := (mkF m 48 #[.val (.long q1), .second, .val (.long q2), .second, .val (.long q3), .second, .val (.long q4), .second, .val (.int fs), .val (.int fe), .val (.int fos), .val (.int foe), .val (.int gs), .val (.int ge), .val (.int gos), .val (.int goe), .unset, .unset, .unset, .unset, .unset] [])) rfl (hb hby at_48) (by decide) (by decide)
  obtain ⟨b1, g1⟩ : ∃ z, z = h0.size := ⟨_, rfl⟩
  rw [← g1] at A1 D1 st1
  have g_b1 : n0 ≤ b1 := Nat.le_trans (Nat.le_trans Z0 Kh.1) (Nat.le_of_eq g1.symm)
  have sz_b1 : h0.size ≤ b1 := Nat.le_trans Kh.1 (Nat.le_of_eq g1.symm)
  replace Kh := Kh.ext E1
  have F_start_b1 : Fld Z h1 b1 "com/example/tracewise/tracewise/Fragment" "start" "I" (.int (0 : Int32)) := D1 (Or.inr (hw _ (List.mem_of_getElem? (i := 10) rfl))) (ty := .int) (by decide)
  have F_end_b1 : Fld Z h1 b1 "com/example/tracewise/tracewise/Fragment" "end" "I" (.int (0 : Int32)) := D1 (Or.inr (hw _ (List.mem_of_getElem? (i := 12) rfl))) (ty := .int) (by decide)
  have F_otherStart_b1 : Fld Z h1 b1 "com/example/tracewise/tracewise/Fragment" "otherStart" "I" (.int (0 : Int32)) := D1 (Or.inr (hw _ (List.mem_of_getElem? (i := 14) rfl))) (ty := .int) (by decide)
  have F_otherEnd_b1 : Fld Z h1 b1 "com/example/tracewise/tracewise/Fragment" "otherEnd" "I" (.int (0 : Int32)) := D1 (Or.inr (hw _ (List.mem_of_getElem? (i := 16) rfl))) (ty := .int) (by decide)
  refine own_go (st1) ?_
  show own_R p e below _ T1 (mkF m 51 #[.val (.long q1), .second, .val (.long q2), .second, .val (.long q3), .second, .val (.long q4), .second, .val (.int fs), .val (.int fe), .val (.int fos), .val (.int foe), .val (.int gs), .val (.int ge), .val (.int gos), .val (.int goe), .unset, .unset, .unset, .unset, .unset] [(.ref b1)])
  refine own_go (fun t k => XS.dup X1.here hx rfl (hb hby at_51) rfl rfl k) ?_
  show own_R p e below _ T1 (mkF m 52 #[.val (.long q1), .second, .val (.long q2), .second, .val (.long q3), .second, .val (.long q4), .second, .val (.int fs), .val (.int fe), .val (.int fos), .val (.int foe), .val (.int gs), .val (.int ge), .val (.int gos), .val (.int goe), .unset, .unset, .unset, .unset, .unset] [(.ref b1), (.ref b1)])
  refine own_go (fun t k => XS.iload X1.here hx rfl (hb hby at_52) rfl  k) ?_
  show own_R p e below _ T1 (mkF m 54 #[.val (.long q1), .second, .val (.long q2), .second, .val (.long q3), .second, .val (.long q4), .second, .val (.int fs), .val (.int fe), .val (.int fos), .val (.int foe), .val (.int gs), .val (.int ge), .val (.int gos), .val (.int goe), .unset, .unset, .unset, .unset, .unset] [(.int fs), (.ref b1), (.ref b1)])
  refine own_go (fun t k => XS.iload X1.here hx rfl (hb hby at_54) rfl  k) ?_
  show own_R p e below _ T1 (mkF m 56 #[.val (.long q1), .second, .val (.long q2), .second, .val (.long q3), .second, .val (.long q4), .second, .val (.int fs), .val (.int fe), .val (.int fos), .val (.int foe), .val (.int gs), .val (.int ge), .val (.int gos), .val (.int goe), .unset, .unset, .unset, .unset, .unset] [(.int fe), (.int fs), (.ref b1), (.ref b1)])
  refine own_go (fun t k => XS.iload X1.here hx rfl (hb hby at_56) rfl  k) ?_
  show own_R p e below _ T1 (mkF m 58 #[.val (.long q1), .second, .val (.long q2), .second, .val (.long q3), .second, .val (.long q4), .second, .val (.int fs), .val (.int fe), .val (.int fos), .val (.int foe), .val (.int gs), .val (.int ge), .val (.int gos), .val (.int goe), .unset, .unset, .unset, .unset, .unset] [(.int fos), (.int fe), (.int fs), (.ref b1), (.ref b1)])
  refine own_go (fun t k => XS.iload X1.here hx rfl (hb hby at_58) rfl  k) ?_
  show own_R p e below _ T1 (mkF m 60 #[.val (.long q1), .second, .val (.long q2), .second, .val (.long q3), .second, .val (.long q4), .second, .val (.int fs), .val (.int fe), .val (.int fos), .val (.int foe), .val (.int gs), .val (.int ge), .val (.int gos), .val (.int goe), .unset, .unset, .unset, .unset, .unset] [(.int foe), (.int fos), (.int fe), (.int fs), (.ref b1), (.ref b1)])
  obtain ⟨_, _, ⟨T2, L2, k2, n2⟩, -, X2, ⟨Lc2, hQ2, l2, y2, z2⟩, st2⟩ := X1.specialBack hx (y := (⟨"com/example/tracewise/tracewise/Fragment", "<init>", "(IIII)V"⟩ : MethodName)) rfl hown (mvT hZ (hw _ (List.mem_of_getElem? (i := 3) rfl))) (mvT hZ (hw _ (List.mem_of_getElem? (i := 4) rfl))) (mvT hZ (hw _ (List.mem_of_getElem? (i := 5) rfl))) (by decide) (backOf (W := 1) (rm1 l Z a0 hw [] b1 fs fe fos foe h1 n0 (Nat.le_trans Z0 Kh.1) F_start_b1 F_end_b1 F_otherStart_b1 F_otherEnd_b1 A1 g_b1) hZ (hw _ (List.mem_of_getElem? (i := 5) rfl)) (hw _ (List.mem_of_getElem? (i := 2) rfl)) (by decide) (by decide)) (g := (mkF m 60 #[.val (.long q1), .second, .val (.long q2), .second, .val (.long q3), .second, .val (.long q4), .second, .val (.int fs), .val (.int fe), .val (.int fos), .val (.int foe), .val (.int gs), .val (.int ge), .val (.int gos), .val (.int goe), .unset, .unset, .unset, .unset, .unset] [(.int foe), (.int fos), (.int fe), (.int fs), (.ref b1), (.ref b1)])) rfl (by rw [hml]; rfl) (Steps.refl _) (a := b1) (argsL := [(.int fs), (.int fe), (.int fos), (.int foe)]) (rest := [(.ref b1)]) (lenOf pd_0 rfl) rfl (by show 2 * 0 + _ ≤ _; exact Nat.le_of_eq rfl) (hb hby at_60) (fun _ _ => ⟨rfl, e1, (by decide : 1 + 0 ≤ _), (by decide : 4 + 0 ≤ _)⟩)
  dsimp only [Pt.U, Pt.locs, Pt.cells, Pt.slots] at X2 l2 y2 z2 st2 hQ2
  subst l2 y2 z2
  obtain ⟨rfl, Nq2, K2, Ew2, Fw2_0, Fw2_1, Fw2_2, Fw2_3⟩ := hQ2
  have N2 := Fr.app N0 Nq2
  obtain ⟨h2, e2⟩ : ∃ z, T2.heap = z := ⟨_, rfl⟩
  rw [e2] at K2 Ew2 Fw2_0 Fw2_1 Fw2_2 Fw2_3
  replace Kh := Kh.trans K2 (allS (Or.inr sz_b1) all0)
  refine own_go (fun t k => st2.trans k) ?_
  show own_R p e below _ T2 (mkF m 63 #[.val (.long q1), .second, .val (.long q2), .second, .val (.long q3), .second, .val (.long q4), .second, .val (.int fs), .val (.int fe), .val (.int fos), .val (.int foe), .val (.int gs), .val (.int ge), .val (.int gos), .val (.int goe), .unset, .unset, .unset, .unset, .unset] [(.ref b1)])
  refine own_go (fun t k => XS.astore X2.here hx rfl (hb hby at_63) rfl rfl (l' := #[.val (.long q1), .second, .val (.long q2), .second, .val (.long q3), .second, .val (.long q4), .second, .val (.int fs), .val (.int fe), .val (.int fos), .val (.int foe), .val (.int gs), .val (.int ge), .val (.int gos), .val (.int goe), .val (.ref b1), .unset, .unset, .unset, .unset]) rfl k) ?_
  show own_R p e below _ T2 (mkF m 65 #[.val (.long q1), .second, .val (.long q2), .second, .val (.long q3), .second, .val (.long q4), .second, .val (.int fs), .val (.int fe), .val (.int fos), .val (.int foe), .val (.int gs), .val (.int ge), .val (.int gos), .val (.int goe), .val (.ref b1), .unset, .unset, .unset, .unset] [])
  obtain ⟨T3, h3, X3, e3, E3, A3, D3, -, st3⟩ := newO X2 hx hZ hown (hw _ (List.mem_of_getElem? (i := 0) rfl)) (hw _ (List.mem_of_getElem? (i := 1) rfl)) (hw _ (List.mem_of_getElem? (i := 2) rfl)) e2 (g := (mkF m 65 #[.val (.long q1), .second, .val (.long q2), .second, .val (.long q3), .second, .val (.long q4), .second, .val (.int fs), .val (.int fe), .val (.int fos), .val (.int foe), .val (.int gs), .val (.int ge), .val (.int gos), .val (.int goe), .val (.ref b1), .unset, .unset, .unset, .unset] [])) rfl (hb hby at_65) (by decide) (by decide)
  obtain ⟨b3, g3⟩ : ∃ z, z = h2.size := ⟨_, rfl⟩
  rw [← g3] at A3 D3 st3
  have g_b3 : n0 ≤ b3 := Nat.le_trans (Nat.le_trans Z0 Kh.1) (Nat.le_of_eq g3.symm)
  have sz_b3 : h0.size ≤ b3 := Nat.le_trans Kh.1 (Nat.le_of_eq g3.symm)
  have ne_b1_b3 : b1 ≠ b3 := Nat.ne_of_lt (Nat.lt_of_lt_of_le Ew2.lt (Nat.le_of_eq g3.symm))
  replace Ew2 := Exa.ext E3 Ew2
  replace Fw2_0 := Fld.ext E3 Fw2_0
  replace Fw2_1 := Fld.ext E3 Fw2_1
  replace Fw2_2 := Fld.ext E3 Fw2_2
  replace Fw2_3 := Fld.ext E3 Fw2_3
  replace Kh := Kh.ext E3
  have F_start_b3 : Fld Z h3 b3 "com/example/tracewise/tracewise/Fragment" "start" "I" (.int (0 : Int32)) := D3 (Or.inr (hw _ (List.mem_of_getElem? (i := 10) rfl))) (ty := .int) (by decide)
  have F_end_b3 : Fld Z h3 b3 "com/example/tracewise/tracewise/Fragment" "end" "I" (.int (0 : Int32)) := D3 (Or.inr (hw _ (List.mem_of_getElem? (i := 12) rfl))) (ty := .int) (by decide)
  have F_otherStart_b3 : Fld Z h3 b3 "com/example/tracewise/tracewise/Fragment" "otherStart" "I" (.int (0 : Int32)) := D3 (Or.inr (hw _ (List.mem_of_getElem? (i := 14) rfl))) (ty := .int) (by decide)
  have F_otherEnd_b3 : Fld Z h3 b3 "com/example/tracewise/tracewise/Fragment" "otherEnd" "I" (.int (0 : Int32)) := D3 (Or.inr (hw _ (List.mem_of_getElem? (i := 16) rfl))) (ty := .int) (by decide)
  refine own_go (st3) ?_
  show own_R p e below _ T3 (mkF m 68 #[.val (.long q1), .second, .val (.long q2), .second, .val (.long q3), .second, .val (.long q4), .second, .val (.int fs), .val (.int fe), .val (.int fos), .val (.int foe), .val (.int gs), .val (.int ge), .val (.int gos), .val (.int goe), .val (.ref b1), .unset, .unset, .unset, .unset] [(.ref b3)])
  refine own_go (fun t k => XS.dup X3.here hx rfl (hb hby at_68) rfl rfl k) ?_
  show own_R p e below _ T3 (mkF m 69 #[.val (.long q1), .second, .val (.long q2), .second, .val (.long q3), .second, .val (.long q4), .second, .val (.int fs), .val (.int fe), .val (.int fos), .val (.int foe), .val (.int gs), .val (.int ge), .val (.int gos), .val (.int goe), .val (.ref b1), .unset, .unset, .unset, .unset] [(.ref b3), (.ref b3)])
  refine own_go (fun t k => XS.iload X3.here hx rfl (hb hby at_69) rfl  k) ?_
  show own_R p e below _ T3 (mkF m 71 #[.val (.long q1), .second, .val (.long q2), .second, .val (.long q3), .second, .val (.long q4), .second, .val (.int fs), .val (.int fe), .val (.int fos), .val (.int foe), .val (.int gs), .val (.int ge), .val (.int gos), .val (.int goe), .val (.ref b1), .unset, .unset, .unset, .unset] [(.int gs), (.ref b3), (.ref b3)])
  refine own_go (fun t k => XS.iload X3.here hx rfl (hb hby at_71) rfl  k) ?_
  show own_R p e below _ T3 (mkF m 73 #[.val (.long q1), .second, .val (.long q2), .second, .val (.long q3), .second, .val (.long q4), .second, .val (.int fs), .val (.int fe), .val (.int fos), .val (.int foe), .val (.int gs), .val (.int ge), .val (.int gos), .val (.int goe), .val (.ref b1), .unset, .unset, .unset, .unset] [(.int ge), (.int gs), (.ref b3), (.ref b3)])
  refine own_go (fun t k => XS.iload X3.here hx rfl (hb hby at_73) rfl  k) ?_
  show own_R p e below _ T3 (mkF m 75 #[.val (.long q1), .second, .val (.long q2), .second, .val (.long q3), .second, .val (.long q4), .second, .val (.int fs), .val (.int fe), .val (.int fos), .val (.int foe), .val (.int gs), .val (.int ge), .val (.int gos), .val (.int goe), .val (.ref b1), .unset, .unset, .unset, .unset] [(.int gos), (.int ge), (.int gs), (.ref b3), (.ref b3)])
  refine own_go (fun t k => XS.iload X3.here hx rfl (hb hby at_75) rfl  k) ?_
  show own_R p e below _ T3 (mkF m 77 #[.val (.long q1), .second, .val (.long q2), .second, .val (.long q3), .second, .val (.long q4), .second, .val (.int fs), .val (.int fe), .val (.int fos), .val (.int foe), .val (.int gs), .val (.int ge), .val (.int gos), .val (.int goe), .val (.ref b1), .unset, .unset, .unset, .unset] [(.int goe), (.int gos), (.int ge), (.int gs), (.ref b3), (.ref b3)])
  obtain ⟨_, _, ⟨T4, L4, k4, n4⟩, -, X4, ⟨Lc4, hQ4, l4, y4, z4⟩, st4⟩ := X3.specialBack hx (y := (⟨"com/example/tracewise/tracewise/Fragment", "<init>", "(IIII)V"⟩ : MethodName)) rfl hown (mvT hZ (hw _ (List.mem_of_getElem? (i := 3) rfl))) (mvT hZ (hw _ (List.mem_of_getElem? (i := 4) rfl))) (mvT hZ (hw _ (List.mem_of_getElem? (i := 5) rfl))) (by decide) (backOf (W := 1) (rm1 l Z a0 hw [] b3 gs ge gos goe h3 n0 (Nat.le_trans Z0 Kh.1) F_start_b3 F_end_b3 F_otherStart_b3 F_otherEnd_b3 A3 g_b3) hZ (hw _ (List.mem_of_getElem? (i := 5) rfl)) (hw _ (List.mem_of_getElem? (i := 2) rfl)) (by decide) (by decide)) (g := (mkF m 77 #[.val (.long q1), .second, .val (.long q2), .second, .val (.long q3), .second, .val (.long q4), .second, .val (.int fs), .val (.int fe), .val (.int fos), .val (.int foe), .val (.int gs), .val (.int ge), .val (.int gos), .val (.int goe), .val (.ref b1), .unset, .unset, .unset, .unset] [(.int goe), (.int gos), (.int ge), (.int gs), (.ref b3), (.ref b3)])) rfl (by rw [hml]; rfl) (Steps.refl _) (a := b3) (argsL := [(.int gs), (.int ge), (.int gos), (.int goe)]) (rest := [(.ref b3)]) (lenOf pd_0 rfl) rfl (by show 2 * 0 + _ ≤ _; exact Nat.le_of_eq rfl) (hb hby at_77) (fun _ _ => ⟨rfl, e3, (by decide : 2 + 0 ≤ _), (by decide : 8 + 0 ≤ _)⟩)
  dsimp only [Pt.U, Pt.locs, Pt.cells, Pt.slots] at X4 l4 y4 z4 st4 hQ4
  subst l4 y4 z4
  obtain ⟨rfl, Nq4, K4, Ew4, Fw4_0, Fw4_1, Fw4_2, Fw4_3⟩ := hQ4
  have N4 := Fr.app N2 Nq4
  obtain ⟨h4, e4⟩ : ∃ z, T4.heap = z := ⟨_, rfl⟩
  rw [e4] at K4 Ew4 Fw4_0 Fw4_1 Fw4_2 Fw4_3
  replace Ew2 := Exa.keep Ew2 K4
  replace Fw2_0 := Fw2_0.keep K4 (ninS ne_b1_b3 nin0)
  replace Fw2_1 := Fw2_1.keep K4 (ninS ne_b1_b3 nin0)
  replace Fw2_2 := Fw2_2.keep K4 (ninS ne_b1_b3 nin0)
  replace Fw2_3 := Fw2_3.keep K4 (ninS ne_b1_b3 nin0)
  replace Kh := Kh.trans K4 (allS (Or.inr sz_b3) all0)
  refine own_go (fun t k => st4.trans k) ?_
  show own_R p e below _ T4 (mkF m 80 #[.val (.long q1), .second, .val (.long q2), .second, .val (.long q3), .second, .val (.long q4), .second, .val (.int fs), .val (.int fe), .val (.int fos), .val (.int foe), .val (.int gs), .val (.int ge), .val (.int gos), .val (.int goe), .val (.ref b1), .unset, .unset, .unset, .unset] [(.ref b3)])
  refine own_go (fun t k => XS.astore X4.here hx rfl (hb hby at_80) rfl rfl (l' := #[.val (.long q1), .second, .val (.long q2), .second, .val (.long q3), .second, .val (.long q4), .second, .val (.int fs), .val (.int fe), .val (.int fos), .val (.int foe), .val (.int gs), .val (.int ge), .val (.int gos), .val (.int goe), .val (.ref b1), .val (.ref b3), .unset, .unset, .unset]) rfl k) ?_
  show own_R p e below _ T4 (mkF m 82 #[.val (.long q1), .second, .val (.long q2), .second, .val (.long q3), .second, .val (.long q4), .second, .val (.int fs), .val (.int fe), .val (.int fos), .val (.int foe), .val (.int gs), .val (.int ge), .val (.int gos), .val (.int goe), .val (.ref b1), .val (.ref b3), .unset, .unset, .unset] [])
  refine own_go (fun t k => XS.aload X4.here hx rfl (hb hby at_82) rfl rfl  k) ?_
  show own_R p e below _ T4 (mkF m 84 #[.val (.long q1), .second, .val (.long q2), .second, .val (.long q3), .second, .val (.long q4), .second, .val (.int fs), .val (.int fe), .val (.int fos), .val (.int foe), .val (.int gs), .val (.int ge), .val (.int gos), .val (.int goe), .val (.ref b1), .val (.ref b3), .unset, .unset, .unset] [(.ref b1)])
  refine own_go (fun t k => XS.aload X4.here hx rfl (hb hby at_84) rfl rfl  k) ?_
  show own_R p e below _ T4 (mkF m 86 #[.val (.long q1), .second, .val (.long q2), .second, .val (.long q3), .second, .val (.long q4), .second, .val (.int fs), .val (.int fe), .val (.int fos), .val (.int foe), .val (.int gs), .val (.int ge), .val (.int gos), .val (.int goe), .val (.ref b1), .val (.ref b3), .unset, .unset, .unset] [(.ref b3), (.ref b1)])
  obtain ⟨cq5, kq5, q5a, q5b, q5c⟩ := isOf hZ e4 Ew2
  obtain ⟨_, _, ⟨T5, L5, k5, n5⟩, -, X5, ⟨Lc5, hQ5, l5, y5, z5⟩, st5⟩ := X4.virtualBack hx (y := (⟨"com/example/tracewise/tracewise/Fragment", "within", "(Lcom/example/tracewise/tracewise/Fragment;)Z"⟩ : MethodName)) (z := (⟨"com/example/tracewise/tracewise/Fragment", "within", "(Lcom/example/tracewise/tracewise/Fragment;)Z"⟩ : MethodName)) hown (mvT hZ (hw _ (List.mem_of_getElem? (i := 17) rfl))) (mvT hZ (hw _ (List.mem_of_getElem? (i := 18) rfl))) (notFace_of_selects (args := #[]) (mvT hZ (hw _ (List.mem_of_getElem? (i := 20) rfl)))) (mvT hZ (hw _ (List.mem_of_getElem? (i := 20) rfl))) (mvT hZ (hw _ (List.mem_of_getElem? (i := 19) rfl))) (by decide) (backOf (W := 0) (rm3 l Z a0 hw [] b1 b3 fs fe fos foe gs ge gos goe h4 n0 (Nat.le_trans Z0 Kh.1) Fw2_0 Fw2_1 Fw2_2 Fw2_3 Fw4_0 Fw4_1 Fw4_2 Fw4_3) hZ (hw _ (List.mem_of_getElem? (i := 21) rfl)) (hw _ (List.mem_of_getElem? (i := 2) rfl)) (by decide) (by decide)) q5a q5c (g := (mkF m 86 #[.val (.long q1), .second, .val (.long q2), .second, .val (.long q3), .second, .val (.long q4), .second, .val (.int fs), .val (.int fe), .val (.int fos), .val (.int foe), .val (.int gs), .val (.int ge), .val (.int gos), .val (.int goe), .val (.ref b1), .val (.ref b3), .unset, .unset, .unset] [(.ref b3), (.ref b1)])) rfl (by rw [hml]; rfl) (Steps.refl _) (argsL := [(.ref b3)]) (rest := []) (lenOf pd_2 rfl) rfl (by show 2 * 0 + _ ≤ _; exact Nat.le_of_eq rfl) (hb hby at_86) (fun _ _ => ⟨rfl, e4, (by decide : 2 + 0 ≤ _), (by decide : 8 + 0 ≤ _)⟩)
  dsimp only [Pt.U, Pt.locs, Pt.cells, Pt.slots] at X5 l5 y5 z5 st5 hQ5
  subst l5 y5 z5
  obtain ⟨rfl, Nq5, e5⟩ := hQ5
  have N5 := Fr.app N4 Nq5
  refine own_go (fun t k => st5.trans k) ?_
  show own_R p e below _ T5 (mkF m 89 #[.val (.long q1), .second, .val (.long q2), .second, .val (.long q3), .second, .val (.long q4), .second, .val (.int fs), .val (.int fe), .val (.int fos), .val (.int foe), .val (.int gs), .val (.int ge), .val (.int gos), .val (.int goe), .val (.ref b1), .val (.ref b3), .unset, .unset, .unset] [(.int (if (¬ fs < gs ∧ ¬ ge < fe ∧ ¬ fos < gos ∧ ¬ goe < foe) then (1 : Int32) else (0 : Int32)))])
  refine own_go (fun t k => XS.istore X5.here hx rfl (hb hby at_89) rfl (l' := #[.val (.long q1), .second, .val (.long q2), .second, .val (.long q3), .second, .val (.long q4), .second, .val (.int fs), .val (.int fe), .val (.int fos), .val (.int foe), .val (.int gs), .val (.int ge), .val (.int gos), .val (.int goe), .val (.ref b1), .val (.ref b3), .val (.int (if (¬ fs < gs ∧ ¬ ge < fe ∧ ¬ fos < gos ∧ ¬ goe < foe) then (1 : Int32) else (0 : Int32))), .unset, .unset]) rfl k) ?_
  show own_R p e below _ T5 (mkF m 91 #[.val (.long q1), .second, .val (.long q2), .second, .val (.long q3), .second, .val (.long q4), .second, .val (.int fs), .val (.int fe), .val (.int fos), .val (.int foe), .val (.int gs), .val (.int ge), .val (.int gos), .val (.int goe), .val (.ref b1), .val (.ref b3), .val (.int (if (¬ fs < gs ∧ ¬ ge < fe ∧ ¬ fos < gos ∧ ¬ goe < foe) then (1 : Int32) else (0 : Int32))), .unset, .unset] [])
  refine own_go (fun t k => XS.aload X5.here hx rfl (hb hby at_91) rfl rfl  k) ?_
  show own_R p e below _ T5 (mkF m 93 #[.val (.long q1), .second, .val (.long q2), .second, .val (.long q3), .second, .val (.long q4), .second, .val (.int fs), .val (.int fe), .val (.int fos), .val (.int foe), .val (.int gs), .val (.int ge), .val (.int gos), .val (.int goe), .val (.ref b1), .val (.ref b3), .val (.int (if (¬ fs < gs ∧ ¬ ge < fe ∧ ¬ fos < gos ∧ ¬ goe < foe) then (1 : Int32) else (0 : Int32))), .unset, .unset] [(.ref b1)])
  refine own_go (fun t k => XS.aload X5.here hx rfl (hb hby at_93) rfl rfl  k) ?_
  show own_R p e below _ T5 (mkF m 95 #[.val (.long q1), .second, .val (.long q2), .second, .val (.long q3), .second, .val (.long q4), .second, .val (.int fs), .val (.int fe), .val (.int fos), .val (.int foe), .val (.int gs), .val (.int ge), .val (.int gos), .val (.int goe), .val (.ref b1), .val (.ref b3), .val (.int (if (¬ fs < gs ∧ ¬ ge < fe ∧ ¬ fos < gos ∧ ¬ goe < foe) then (1 : Int32) else (0 : Int32))), .unset, .unset] [(.ref b3), (.ref b1)])
  obtain ⟨cq6, kq6, q6a, q6b, q6c⟩ := isOf hZ e5 Ew2
  obtain ⟨_, _, ⟨T6, L6, k6, n6⟩, -, X6, ⟨Lc6, hQ6, l6, y6, z6⟩, st6⟩ := X5.virtualBack hx (y := (⟨"com/example/tracewise/tracewise/Fragment", "span", "(Lcom/example/tracewise/tracewise/Fragment;)Lcom/example/tracewise/tracewise/Fragment;"⟩ : MethodName)) (z := (⟨"com/example/tracewise/tracewise/Fragment", "span", "(Lcom/example/tracewise/tracewise/Fragment;)Lcom/example/tracewise/tracewise/Fragment;"⟩ : MethodName)) hown (mvT hZ (hw _ (List.mem_of_getElem? (i := 22) rfl))) (mvT hZ (hw _ (List.mem_of_getElem? (i := 23) rfl))) (notFace_of_selects (args := #[]) (mvT hZ (hw _ (List.mem_of_getElem? (i := 25) rfl)))) (mvT hZ (hw _ (List.mem_of_getElem? (i := 25) rfl))) (mvT hZ (hw _ (List.mem_of_getElem? (i := 24) rfl))) (by decide) (backOf (W := 0) (rm4 l Z a0 hw [] b1 b3 fs fe fos foe gs ge gos goe h4 n0 (Nat.le_trans Z0 Kh.1) Fw2_0 Fw2_1 Fw2_2 Fw2_3 Fw4_0 Fw4_1 Fw4_2 Fw4_3) hZ (hw _ (List.mem_of_getElem? (i := 26) rfl)) (hw _ (List.mem_of_getElem? (i := 2) rfl)) (by decide) (by decide)) q6a q6c (g := (mkF m 95 #[.val (.long q1), .second, .val (.long q2), .second, .val (.long q3), .second, .val (.long q4), .second, .val (.int fs), .val (.int fe), .val (.int fos), .val (.int foe), .val (.int gs), .val (.int ge), .val (.int gos), .val (.int goe), .val (.ref b1), .val (.ref b3), .val (.int (if (¬ fs < gs ∧ ¬ ge < fe ∧ ¬ fos < gos ∧ ¬ goe < foe) then (1 : Int32) else (0 : Int32))), .unset, .unset] [(.ref b3), (.ref b1)])) rfl (by rw [hml]; rfl) (Steps.refl _) (argsL := [(.ref b3)]) (rest := []) (lenOf pd_3 rfl) rfl (by show 2 * 0 + _ ≤ _; exact Nat.le_of_eq rfl) (hb hby at_95) (fun _ _ => ⟨rfl, e5, (by decide : 2 + 1 ≤ _), (by decide : 8 + 4 ≤ _)⟩)
  dsimp only [Pt.U, Pt.locs, Pt.cells, Pt.slots] at X6 l6 y6 z6 st6 hQ6
  subst l6 y6 z6
  obtain ⟨b6, rfl, Nq6, K6, gz6, Ew6, Fw6_0, Fw6_1, Fw6_2, Fw6_3⟩ := hQ6
  have N6 := Fr.app N5 Nq6
  obtain ⟨h6, e6⟩ : ∃ z, T6.heap = z := ⟨_, rfl⟩
  rw [e6] at K6 Ew6 Fw6_0 Fw6_1 Fw6_2 Fw6_3
  replace Ew2 := Exa.keep Ew2 K6
  replace Fw2_0 := Fw2_0.keep K6 nin0
  replace Fw2_1 := Fw2_1.keep K6 nin0
  replace Fw2_2 := Fw2_2.keep K6 nin0
  replace Fw2_3 := Fw2_3.keep K6 nin0
  replace Ew4 := Exa.keep Ew4 K6
  replace Fw4_0 := Fw4_0.keep K6 nin0
  replace Fw4_1 := Fw4_1.keep K6 nin0
  replace Fw4_2 := Fw4_2.keep K6 nin0
  replace Fw4_3 := Fw4_3.keep K6 nin0
  replace Kh := Kh.trans K6 all0
  refine own_go (fun t k => st6.trans k) ?_
  show own_R p e below _ T6 (mkF m 98 #[.val (.long q1), .second, .val (.long q2), .second, .val (.long q3), .second, .val (.long q4), .second, .val (.int fs), .val (.int fe), .val (.int fos), .val (.int foe), .val (.int gs), .val (.int ge), .val (.int gos), .val (.int goe), .val (.ref b1), .val (.ref b3), .val (.int (if (¬ fs < gs ∧ ¬ ge < fe ∧ ¬ fos < gos ∧ ¬ goe < foe) then (1 : Int32) else (0 : Int32))), .unset, .unset] [(.ref b6)])
  refine own_go (fun t k => XS.astore X6.here hx rfl (hb hby at_98) rfl rfl (l' := #[.val (.long q1), .second, .val (.long q2), .second, .val (.long q3), .second, .val (.long q4), .second, .val (.int fs), .val (.int fe), .val (.int fos), .val (.int foe), .val (.int gs), .val (.int ge), .val (.int gos), .val (.int goe), .val (.ref b1), .val (.ref b3), .val (.int (if (¬ fs < gs ∧ ¬ ge < fe ∧ ¬ fos < gos ∧ ¬ goe < foe) then (1 : Int32) else (0 : Int32))), .val (.ref b6), .unset]) rfl k) ?_
  show own_R p e below _ T6 (mkF m 100 #[.val (.long q1), .second, .val (.long q2), .second, .val (.long q3), .second, .val (.long q4), .second, .val (.int fs), .val (.int fe), .val (.int fos), .val (.int foe), .val (.int gs), .val (.int ge), .val (.int gos), .val (.int goe), .val (.ref b1), .val (.ref b3), .val (.int (if (¬ fs < gs ∧ ¬ ge < fe ∧ ¬ fos < gos ∧ ¬ goe < foe) then (1 : Int32) else (0 : Int32))), .val (.ref b6), .unset] [])
  refine own_go (fun t k => XS.aload X6.here hx rfl (hb hby at_100) rfl rfl  k) ?_
  show own_R p e below _ T6 (mkF m 102 #[.val (.long q1), .second, .val (.long q2), .second, .val (.long q3), .second, .val (.long q4), .second, .val (.int fs), .val (.int fe), .val (.int fos), .val (.int foe), .val (.int gs), .val (.int ge), .val (.int gos), .val (.int goe), .val (.ref b1), .val (.ref b3), .val (.int (if (¬ fs < gs ∧ ¬ ge < fe ∧ ¬ fos < gos ∧ ¬ goe < foe) then (1 : Int32) else (0 : Int32))), .val (.ref b6), .unset] [(.ref b6)])
  obtain ⟨cq7, kq7, q7a, q7b, q7c⟩ := isOf hZ e6 Ew6
  obtain ⟨_, _, ⟨T7, L7, k7, n7⟩, -, X7, ⟨Lc7, hQ7, l7, y7, z7⟩, st7⟩ := X6.virtualBack hx (y := (⟨"com/example/tracewise/tracewise/Fragment", "start", "()I"⟩ : MethodName)) (z := (⟨"com/example/tracewise/tracewise/Fragment", "start", "()I"⟩ : MethodName)) hown (mvT hZ (hw _ (List.mem_of_getElem? (i := 36) rfl))) (mvT hZ (hw _ (List.mem_of_getElem? (i := 37) rfl))) (notFace_of_selects (args := #[]) (mvT hZ (hw _ (List.mem_of_getElem? (i := 39) rfl)))) (mvT hZ (hw _ (List.mem_of_getElem? (i := 39) rfl))) (mvT hZ (hw _ (List.mem_of_getElem? (i := 38) rfl))) (by decide) (backOf (W := 0) (rm7 l Z a0 hw [] b6 (if gs < fs then gs else fs) h6 n0 (Nat.le_trans Z0 Kh.1) Fw6_0) hZ (hw _ (List.mem_of_getElem? (i := 40) rfl)) (hw _ (List.mem_of_getElem? (i := 2) rfl)) (by decide) (by decide)) q7a q7c (g := (mkF m 102 #[.val (.long q1), .second, .val (.long q2), .second, .val (.long q3), .second, .val (.long q4), .second, .val (.int fs), .val (.int fe), .val (.int fos), .val (.int foe), .val (.int gs), .val (.int ge), .val (.int gos), .val (.int goe), .val (.ref b1), .val (.ref b3), .val (.int (if (¬ fs < gs ∧ ¬ ge < fe ∧ ¬ fos < gos ∧ ¬ goe < foe) then (1 : Int32) else (0 : Int32))), .val (.ref b6), .unset] [(.ref b6)])) rfl (by rw [hml]; rfl) (Steps.refl _) (argsL := []) (rest := []) (lenOf pd_5 rfl) rfl (by show 2 * 0 + _ ≤ _; exact Nat.le_of_eq rfl) (hb hby at_102) (fun _ _ => ⟨rfl, e6, (by decide : 3 + 0 ≤ _), (by decide : 12 + 0 ≤ _)⟩)
  dsimp only [Pt.U, Pt.locs, Pt.cells, Pt.slots] at X7 l7 y7 z7 st7 hQ7
  subst l7 y7 z7
  obtain ⟨rfl, Nq7, e7⟩ := hQ7
  have N7 := Fr.app N6 Nq7
  refine own_go (fun t k => st7.trans k) ?_
  show own_R p e below _ T7 (mkF m 105 #[.val (.long q1), .second, .val (.long q2), .second, .val (.long q3), .second, .val (.long q4), .second, .val (.int fs), .val (.int fe), .val (.int fos), .val (.int foe), .val (.int gs), .val (.int ge), .val (.int gos), .val (.int goe), .val (.ref b1), .val (.ref b3), .val (.int (if (¬ fs < gs ∧ ¬ ge < fe ∧ ¬ fos < gos ∧ ¬ goe < foe) then (1 : Int32) else (0 : Int32))), .val (.ref b6), .unset] [(.int (if gs < fs then gs else fs))])
  refine own_go (fun t k => XS.iload X7.here hx rfl (hb hby at_105) rfl  k) ?_
  show own_R p e below _ T7 (mkF m 107 #[.val (.long q1), .second, .val (.long q2), .second, .val (.long q3), .second, .val (.long q4), .second, .val (.int fs), .val (.int fe), .val (.int fos), .val (.int foe), .val (.int gs), .val (.int ge), .val (.int gos), .val (.int goe), .val (.ref b1), .val (.ref b3), .val (.int (if (¬ fs < gs ∧ ¬ ge < fe ∧ ¬ fos < gos ∧ ¬ goe < foe) then (1 : Int32) else (0 : Int32))), .val (.ref b6), .unset] [(.int gs), (.int (if gs < fs then gs else fs))])
  by_cases hc107_8 : (if gs < fs then gs else fs) = gs
  · -- pc 107: yes
    refine own_go (fun t k => XS.icmpNo X7.here hx rfl (hb hby at_107) rfl (teq hc107_8).2 k) ?_
    show own_R p e below _ T7 (mkF m 110 #[.val (.long q1), .second, .val (.long q2), .second, .val (.long q3), .second, .val (.long q4), .second, .val (.int fs), .val (.int fe), .val (.int fos), .val (.int foe), .val (.int gs), .val (.int ge), .val (.int gos), .val (.int goe), .val (.ref b1), .val (.ref b3), .val (.int (if (¬ fs < gs ∧ ¬ ge < fe ∧ ¬ fos < gos ∧ ¬ goe < foe) then (1 : Int32) else (0 : Int32))), .val (.ref b6), .unset] [])
    refine own_go (fun t k => XS.aload X7.here hx rfl (hb hby at_110) rfl rfl  k) ?_
    show own_R p e below _ T7 (mkF m 112 #[.val (.long q1), .second, .val (.long q2), .second, .val (.long q3), .second, .val (.long q4), .second, .val (.int fs), .val (.int fe), .val (.int fos), .val (.int foe), .val (.int gs), .val (.int ge), .val (.int gos), .val (.int goe), .val (.ref b1), .val (.ref b3), .val (.int (if (¬ fs < gs ∧ ¬ ge < fe ∧ ¬ fos < gos ∧ ¬ goe < foe) then (1 : Int32) else (0 : Int32))), .val (.ref b6), .unset] [(.ref b6)])
    obtain ⟨cq9, kq9, q9a, q9b, q9c⟩ := isOf hZ e7 Ew6
    obtain ⟨_, _, ⟨T9, L9, k9, n9⟩, -, X9, ⟨Lc9, hQ9, l9, y9, z9⟩, st9⟩ := X7.virtualBack hx (y := (⟨"com/example/tracewise/tracewise/Fragment", "end", "()I"⟩ : MethodName)) (z := (⟨"com/example/tracewise/tracewise/Fragment", "end", "()I"⟩ : MethodName)) hown (mvT hZ (hw _ (List.mem_of_getElem? (i := 41) rfl))) (mvT hZ (hw _ (List.mem_of_getElem? (i := 42) rfl))) (notFace_of_selects (args := #[]) (mvT hZ (hw _ (List.mem_of_getElem? (i := 44) rfl)))) (mvT hZ (hw _ (List.mem_of_getElem? (i := 44) rfl))) (mvT hZ (hw _ (List.mem_of_getElem? (i := 43) rfl))) (by decide) (backOf (W := 0) (rm8 l Z a0 hw [] b6 (if fe < ge then ge else fe) h6 n0 (Nat.le_trans Z0 Kh.1) Fw6_1) hZ (hw _ (List.mem_of_getElem? (i := 45) rfl)) (hw _ (List.mem_of_getElem? (i := 2) rfl)) (by decide) (by decide)) q9a q9c (g := (mkF m 112 #[.val (.long q1), .second, .val (.long q2), .second, .val (.long q3), .second, .val (.long q4), .second, .val (.int fs), .val (.int fe), .val (.int fos), .val (.int foe), .val (.int gs), .val (.int ge), .val (.int gos), .val (.int goe), .val (.ref b1), .val (.ref b3), .val (.int (if (¬ fs < gs ∧ ¬ ge < fe ∧ ¬ fos < gos ∧ ¬ goe < foe) then (1 : Int32) else (0 : Int32))), .val (.ref b6), .unset] [(.ref b6)])) rfl (by rw [hml]; rfl) (Steps.refl _) (argsL := []) (rest := []) (lenOf pd_5 rfl) rfl (by show 2 * 0 + _ ≤ _; exact Nat.le_of_eq rfl) (hb hby at_112) (fun _ _ => ⟨rfl, e7, (by decide : 3 + 0 ≤ _), (by decide : 12 + 0 ≤ _)⟩)
    dsimp only [Pt.U, Pt.locs, Pt.cells, Pt.slots] at X9 l9 y9 z9 st9 hQ9
    subst l9 y9 z9
    obtain ⟨rfl, Nq9, e9⟩ := hQ9
    have N9 := Fr.app N7 Nq9
    refine own_go (fun t k => st9.trans k) ?_
    show own_R p e below _ T9 (mkF m 115 #[.val (.long q1), .second, .val (.long q2), .second, .val (.long q3), .second, .val (.long q4), .second, .val (.int fs), .val (.int fe), .val (.int fos), .val (.int foe), .val (.int gs), .val (.int ge), .val (.int gos), .val (.int goe), .val (.ref b1), .val (.ref b3), .val (.int (if (¬ fs < gs ∧ ¬ ge < fe ∧ ¬ fos < gos ∧ ¬ goe < foe) then (1 : Int32) else (0 : Int32))), .val (.ref b6), .unset] [(.int (if fe < ge then ge else fe))])
    refine own_go (fun t k => XS.iload X9.here hx rfl (hb hby at_115) rfl  k) ?_
    show own_R p e below _ T9 (mkF m 117 #[.val (.long q1), .second, .val (.long q2), .second, .val (.long q3), .second, .val (.long q4), .second, .val (.int fs), .val (.int fe), .val (.int fos), .val (.int foe), .val (.int gs), .val (.int ge), .val (.int gos), .val (.int goe), .val (.ref b1), .val (.ref b3), .val (.int (if (¬ fs < gs ∧ ¬ ge < fe ∧ ¬ fos < gos ∧ ¬ goe < foe) then (1 : Int32) else (0 : Int32))), .val (.ref b6), .unset] [(.int ge), (.int (if fe < ge then ge else fe))])
    by_cases hc117_10 : (if fe < ge then ge else fe) = ge
    · -- pc 117: yes
      refine own_go (fun t k => XS.icmpNo X9.here hx rfl (hb hby at_117) rfl (teq hc117_10).2 k) ?_
      show own_R p e below _ T9 (mkF m 120 #[.val (.long q1), .second, .val (.long q2), .second, .val (.long q3), .second, .val (.long q4), .second, .val (.int fs), .val (.int fe), .val (.int fos), .val (.int foe), .val (.int gs), .val (.int ge), .val (.int gos), .val (.int goe), .val (.ref b1), .val (.ref b3), .val (.int (if (¬ fs < gs ∧ ¬ ge < fe ∧ ¬ fos < gos ∧ ¬ goe < foe) then (1 : Int32) else (0 : Int32))), .val (.ref b6), .unset] [])
      refine own_go (fun t k => XS.aload X9.here hx rfl (hb hby at_120) rfl rfl  k) ?_
      show own_R p e below _ T9 (mkF m 122 #[.val (.long q1), .second, .val (.long q2), .second, .val (.long q3), .second, .val (.long q4), .second, .val (.int fs), .val (.int fe), .val (.int fos), .val (.int foe), .val (.int gs), .val (.int ge), .val (.int gos), .val (.int goe), .val (.ref b1), .val (.ref b3), .val (.int (if (¬ fs < gs ∧ ¬ ge < fe ∧ ¬ fos < gos ∧ ¬ goe < foe) then (1 : Int32) else (0 : Int32))), .val (.ref b6), .unset] [(.ref b6)])
      obtain ⟨cq11, kq11, q11a, q11b, q11c⟩ := isOf hZ e9 Ew6
      obtain ⟨_, _, ⟨T11, L11, k11, n11⟩, -, X11, ⟨Lc11, hQ11, l11, y11, z11⟩, st11⟩ := X9.virtualBack hx (y := (⟨"com/example/tracewise/tracewise/Fragment", "otherStart", "()I"⟩ : MethodName)) (z := (⟨"com/example/tracewise/tracewise/Fragment", "otherStart", "()I"⟩ : MethodName)) hown (mvT hZ (hw _ (List.mem_of_getElem? (i := 46) rfl))) (mvT hZ (hw _ (List.mem_of_getElem? (i := 47) rfl))) (notFace_of_selects (args := #[]) (mvT hZ (hw _ (List.mem_of_getElem? (i := 49) rfl)))) (mvT hZ (hw _ (List.mem_of_getElem? (i := 49) rfl))) (mvT hZ (hw _ (List.mem_of_getElem? (i := 48) rfl))) (by decide) (backOf (W := 0) (rm9 l Z a0 hw [] b6 (if gos < fos then gos else fos) h6 n0 (Nat.le_trans Z0 Kh.1) Fw6_2) hZ (hw _ (List.mem_of_getElem? (i := 50) rfl)) (hw _ (List.mem_of_getElem? (i := 2) rfl)) (by decide) (by decide)) q11a q11c (g := (mkF m 122 #[.val (.long q1), .second, .val (.long q2), .second, .val (.long q3), .second, .val (.long q4), .second, .val (.int fs), .val (.int fe), .val (.int fos), .val (.int foe), .val (.int gs), .val (.int ge), .val (.int gos), .val (.int goe), .val (.ref b1), .val (.ref b3), .val (.int (if (¬ fs < gs ∧ ¬ ge < fe ∧ ¬ fos < gos ∧ ¬ goe < foe) then (1 : Int32) else (0 : Int32))), .val (.ref b6), .unset] [(.ref b6)])) rfl (by rw [hml]; rfl) (Steps.refl _) (argsL := []) (rest := []) (lenOf pd_5 rfl) rfl (by show 2 * 0 + _ ≤ _; exact Nat.le_of_eq rfl) (hb hby at_122) (fun _ _ => ⟨rfl, e9, (by decide : 3 + 0 ≤ _), (by decide : 12 + 0 ≤ _)⟩)
      dsimp only [Pt.U, Pt.locs, Pt.cells, Pt.slots] at X11 l11 y11 z11 st11 hQ11
      subst l11 y11 z11
      obtain ⟨rfl, Nq11, e11⟩ := hQ11
      have N11 := Fr.app N9 Nq11
      refine own_go (fun t k => st11.trans k) ?_
      show own_R p e below _ T11 (mkF m 125 #[.val (.long q1), .second, .val (.long q2), .second, .val (.long q3), .second, .val (.long q4), .second, .val (.int fs), .val (.int fe), .val (.int fos), .val (.int foe), .val (.int gs), .val (.int ge), .val (.int gos), .val (.int goe), .val (.ref b1), .val (.ref b3), .val (.int (if (¬ fs < gs ∧ ¬ ge < fe ∧ ¬ fos < gos ∧ ¬ goe < foe) then (1 : Int32) else (0 : Int32))), .val (.ref b6), .unset] [(.int (if gos < fos then gos else fos))])
      refine own_go (fun t k => XS.iload X11.here hx rfl (hb hby at_125) rfl  k) ?_
      show own_R p e below _ T11 (mkF m 127 #[.val (.long q1), .second, .val (.long q2), .second, .val (.long q3), .second, .val (.long q4), .second, .val (.int fs), .val (.int fe), .val (.int fos), .val (.int foe), .val (.int gs), .val (.int ge), .val (.int gos), .val (.int goe), .val (.ref b1), .val (.ref b3), .val (.int (if (¬ fs < gs ∧ ¬ ge < fe ∧ ¬ fos < gos ∧ ¬ goe < foe) then (1 : Int32) else (0 : Int32))), .val (.ref b6), .unset] [(.int gos), (.int (if gos < fos then gos else fos))])
      by_cases hc127_12 : (if gos < fos then gos else fos) = gos
      · -- pc 127: yes
        refine own_go (fun t k => XS.icmpNo X11.here hx rfl (hb hby at_127) rfl (teq hc127_12).2 k) ?_
        show own_R p e below _ T11 (mkF m 130 #[.val (.long q1), .second, .val (.long q2), .second, .val (.long q3), .second, .val (.long q4), .second, .val (.int fs), .val (.int fe), .val (.int fos), .val (.int foe), .val (.int gs), .val (.int ge), .val (.int gos), .val (.int goe), .val (.ref b1), .val (.ref b3), .val (.int (if (¬ fs < gs ∧ ¬ ge < fe ∧ ¬ fos < gos ∧ ¬ goe < foe) then (1 : Int32) else (0 : Int32))), .val (.ref b6), .unset] [])
        refine own_go (fun t k => XS.aload X11.here hx rfl (hb hby at_130) rfl rfl  k) ?_
        show own_R p e below _ T11 (mkF m 132 #[.val (.long q1), .second, .val (.long q2), .second, .val (.long q3), .second, .val (.long q4), .second, .val (.int fs), .val (.int fe), .val (.int fos), .val (.int foe), .val (.int gs), .val (.int ge), .val (.int gos), .val (.int goe), .val (.ref b1), .val (.ref b3), .val (.int (if (¬ fs < gs ∧ ¬ ge < fe ∧ ¬ fos < gos ∧ ¬ goe < foe) then (1 : Int32) else (0 : Int32))), .val (.ref b6), .unset] [(.ref b6)])
        obtain ⟨cq13, kq13, q13a, q13b, q13c⟩ := isOf hZ e11 Ew6
        obtain ⟨_, _, ⟨T13, L13, k13, n13⟩, -, X13, ⟨Lc13, hQ13, l13, y13, z13⟩, st13⟩ := X11.virtualBack hx (y := (⟨"com/example/tracewise/tracewise/Fragment", "otherEnd", "()I"⟩ : MethodName)) (z := (⟨"com/example/tracewise/tracewise/Fragment", "otherEnd", "()I"⟩ : MethodName)) hown (mvT hZ (hw _ (List.mem_of_getElem? (i := 51) rfl))) (mvT hZ (hw _ (List.mem_of_getElem? (i := 52) rfl))) (notFace_of_selects (args := #[]) (mvT hZ (hw _ (List.mem_of_getElem? (i := 54) rfl)))) (mvT hZ (hw _ (List.mem_of_getElem? (i := 54) rfl))) (mvT hZ (hw _ (List.mem_of_getElem? (i := 53) rfl))) (by decide) (backOf (W := 0) (rm10 l Z a0 hw [] b6 (if foe < goe then goe else foe) h6 n0 (Nat.le_trans Z0 Kh.1) Fw6_3) hZ (hw _ (List.mem_of_getElem? (i := 55) rfl)) (hw _ (List.mem_of_getElem? (i := 2) rfl)) (by decide) (by decide)) q13a q13c (g := (mkF m 132 #[.val (.long q1), .second, .val (.long q2), .second, .val (.long q3), .second, .val (.long q4), .second, .val (.int fs), .val (.int fe), .val (.int fos), .val (.int foe), .val (.int gs), .val (.int ge), .val (.int gos), .val (.int goe), .val (.ref b1), .val (.ref b3), .val (.int (if (¬ fs < gs ∧ ¬ ge < fe ∧ ¬ fos < gos ∧ ¬ goe < foe) then (1 : Int32) else (0 : Int32))), .val (.ref b6), .unset] [(.ref b6)])) rfl (by rw [hml]; rfl) (Steps.refl _) (argsL := []) (rest := []) (lenOf pd_5 rfl) rfl (by show 2 * 0 + _ ≤ _; exact Nat.le_of_eq rfl) (hb hby at_132) (fun _ _ => ⟨rfl, e11, (by decide : 3 + 0 ≤ _), (by decide : 12 + 0 ≤ _)⟩)
        dsimp only [Pt.U, Pt.locs, Pt.cells, Pt.slots] at X13 l13 y13 z13 st13 hQ13
        subst l13 y13 z13
        obtain ⟨rfl, Nq13, e13⟩ := hQ13
        have N13 := Fr.app N11 Nq13
        refine own_go (fun t k => st13.trans k) ?_
        show own_R p e below _ T13 (mkF m 135 #[.val (.long q1), .second, .val (.long q2), .second, .val (.long q3), .second, .val (.long q4), .second, .val (.int fs), .val (.int fe), .val (.int fos), .val (.int foe), .val (.int gs), .val (.int ge), .val (.int gos), .val (.int goe), .val (.ref b1), .val (.ref b3), .val (.int (if (¬ fs < gs ∧ ¬ ge < fe ∧ ¬ fos < gos ∧ ¬ goe < foe) then (1 : Int32) else (0 : Int32))), .val (.ref b6), .unset] [(.int (if foe < goe then goe else foe))])
        refine own_go (fun t k => XS.iload X13.here hx rfl (hb hby at_135) rfl  k) ?_
        show own_R p e below _ T13 (mkF m 137 #[.val (.long q1), .second, .val (.long q2), .second, .val (.long q3), .second, .val (.long q4), .second, .val (.int fs), .val (.int fe), .val (.int fos), .val (.int foe), .val (.int gs), .val (.int ge), .val (.int gos), .val (.int goe), .val (.ref b1), .val (.ref b3), .val (.int (if (¬ fs < gs ∧ ¬ ge < fe ∧ ¬ fos < gos ∧ ¬ goe < foe) then (1 : Int32) else (0 : Int32))), .val (.ref b6), .unset] [(.int goe), (.int (if foe < goe then goe else foe))])
        by_cases hc137_14 : (if foe < goe then goe else foe) = goe
        · -- pc 137: yes
          refine own_go (fun t k => XS.icmpNo X13.here hx rfl (hb hby at_137) rfl (teq hc137_14).2 k) ?_
          show own_R p e below _ T13 (mkF m 140 #[.val (.long q1), .second, .val (.long q2), .second, .val (.long q3), .second, .val (.long q4), .second, .val (.int fs), .val (.int fe), .val (.int fos), .val (.int foe), .val (.int gs), .val (.int ge), .val (.int gos), .val (.int goe), .val (.ref b1), .val (.ref b3), .val (.int (if (¬ fs < gs ∧ ¬ ge < fe ∧ ¬ fos < gos ∧ ¬ goe < foe) then (1 : Int32) else (0 : Int32))), .val (.ref b6), .unset] [])
          refine own_go (fun t k => XS.iconst X13.here hx rfl (hb hby at_140) k) ?_
          show own_R p e below _ T13 (mkF m 141 #[.val (.long q1), .second, .val (.long q2), .second, .val (.long q3), .second, .val (.long q4), .second, .val (.int fs), .val (.int fe), .val (.int fos), .val (.int foe), .val (.int gs), .val (.int ge), .val (.int gos), .val (.int goe), .val (.ref b1), .val (.ref b3), .val (.int (if (¬ fs < gs ∧ ¬ ge < fe ∧ ¬ fos < gos ∧ ¬ goe < foe) then (1 : Int32) else (0 : Int32))), .val (.ref b6), .unset] [(.int (1 : Int32))])
          refine own_go (fun t k => XS.goto X13.here hx rfl (pc0 := 141) (pc' := 145) rfl (hb hby at_141) (by decide) (by decide) k) ?_
          show own_R p e below _ T13 (mkF m 145 #[.val (.long q1), .second, .val (.long q2), .second, .val (.long q3), .second, .val (.long q4), .second, .val (.int fs), .val (.int fe), .val (.int fos), .val (.int foe), .val (.int gs), .val (.int ge), .val (.int gos), .val (.int goe), .val (.ref b1), .val (.ref b3), .val (.int (if (¬ fs < gs ∧ ¬ ge < fe ∧ ¬ fos < gos ∧ ¬ goe < foe) then (1 : Int32) else (0 : Int32))), .val (.ref b6), .unset] [(.int (1 : Int32))])
          refine own_go (fun t k => XS.istore X13.here hx rfl (hb hby at_145) rfl (l' := #[.val (.long q1), .second, .val (.long q2), .second, .val (.long q3), .second, .val (.long q4), .second, .val (.int fs), .val (.int fe), .val (.int fos), .val (.int foe), .val (.int gs), .val (.int ge), .val (.int gos), .val (.int goe), .val (.ref b1), .val (.ref b3), .val (.int (if (¬ fs < gs ∧ ¬ ge < fe ∧ ¬ fos < gos ∧ ¬ goe < foe) then (1 : Int32) else (0 : Int32))), .val (.ref b6), .val (.int (1 : Int32))]) rfl k) ?_
          show own_R p e below _ T13 (mkF m 147 #[.val (.long q1), .second, .val (.long q2), .second, .val (.long q3), .second, .val (.long q4), .second, .val (.int fs), .val (.int fe), .val (.int fos), .val (.int foe), .val (.int gs), .val (.int ge), .val (.int gos), .val (.int goe), .val (.ref b1), .val (.ref b3), .val (.int (if (¬ fs < gs ∧ ¬ ge < fe ∧ ¬ fos < gos ∧ ¬ goe < foe) then (1 : Int32) else (0 : Int32))), .val (.ref b6), .val (.int (1 : Int32))] [])
          refine own_go (fun t k => XS.iload X13.here hx rfl (hb hby at_147) rfl  k) ?_
          show own_R p e below _ T13 (mkF m 149 #[.val (.long q1), .second, .val (.long q2), .second, .val (.long q3), .second, .val (.long q4), .second, .val (.int fs), .val (.int fe), .val (.int fos), .val (.int foe), .val (.int gs), .val (.int ge), .val (.int gos), .val (.int goe), .val (.ref b1), .val (.ref b3), .val (.int (if (¬ fs < gs ∧ ¬ ge < fe ∧ ¬ fos < gos ∧ ¬ goe < foe) then (1 : Int32) else (0 : Int32))), .val (.ref b6), .val (.int (1 : Int32))] [(.int (if (¬ fs < gs ∧ ¬ ge < fe ∧ ¬ fos < gos ∧ ¬ goe < foe) then (1 : Int32) else (0 : Int32)))])
          refine own_go (fun t k => XS.iload X13.here hx rfl (hb hby at_149) rfl  k) ?_
          show own_R p e below _ T13 (mkF m 151 #[.val (.long q1), .second, .val (.long q2), .second, .val (.long q3), .second, .val (.long q4), .second, .val (.int fs), .val (.int fe), .val (.int fos), .val (.int foe), .val (.int gs), .val (.int ge), .val (.int gos), .val (.int goe), .val (.ref b1), .val (.ref b3), .val (.int (if (¬ fs < gs ∧ ¬ ge < fe ∧ ¬ fos < gos ∧ ¬ goe < foe) then (1 : Int32) else (0 : Int32))), .val (.ref b6), .val (.int (1 : Int32))] [(.int (1 : Int32)), (.int (if (¬ fs < gs ∧ ¬ ge < fe ∧ ¬ fos < gos ∧ ¬ goe < foe) then (1 : Int32) else (0 : Int32)))])
          refine own_go (fun t k => XS.icmpNo X13.here hx rfl (hb hby at_151) rfl (teq (if_pos ⟨(own_min fs gs).mp hc107_8, (own_max fe ge).mp hc117_10, (own_min fos gos).mp hc127_12, (own_max foe goe).mp hc137_14⟩)).2 k) ?_
          show own_R p e below _ T13 (mkF m 154 #[.val (.long q1), .second, .val (.long q2), .second, .val (.long q3), .second, .val (.long q4), .second, .val (.int fs), .val (.int fe), .val (.int fos), .val (.int foe), .val (.int gs), .val (.int ge), .val (.int gos), .val (.int goe), .val (.ref b1), .val (.ref b3), .val (.int (if (¬ fs < gs ∧ ¬ ge < fe ∧ ¬ fos < gos ∧ ¬ goe < foe) then (1 : Int32) else (0 : Int32))), .val (.ref b6), .val (.int (1 : Int32))] [])
          refine own_go (fun t k => XS.iconst X13.here hx rfl (hb hby at_154) k) ?_
          show own_R p e below _ T13 (mkF m 155 #[.val (.long q1), .second, .val (.long q2), .second, .val (.long q3), .second, .val (.long q4), .second, .val (.int fs), .val (.int fe), .val (.int fos), .val (.int foe), .val (.int gs), .val (.int ge), .val (.int gos), .val (.int goe), .val (.ref b1), .val (.ref b3), .val (.int (if (¬ fs < gs ∧ ¬ ge < fe ∧ ¬ fos < gos ∧ ¬ goe < foe) then (1 : Int32) else (0 : Int32))), .val (.ref b6), .val (.int (1 : Int32))] [(.int (1 : Int32))])
          refine own_go (fun t k => XS.goto X13.here hx rfl (pc0 := 155) (pc' := 159) rfl (hb hby at_155) (by decide) (by decide) k) ?_
          show own_R p e below _ T13 (mkF m 159 #[.val (.long q1), .second, .val (.long q2), .second, .val (.long q3), .second, .val (.long q4), .second, .val (.int fs), .val (.int fe), .val (.int fos), .val (.int foe), .val (.int gs), .val (.int ge), .val (.int gos), .val (.int goe), .val (.ref b1), .val (.ref b3), .val (.int (if (¬ fs < gs ∧ ¬ ge < fe ∧ ¬ fos < gos ∧ ¬ goe < foe) then (1 : Int32) else (0 : Int32))), .val (.ref b6), .val (.int (1 : Int32))] [(.int (1 : Int32))])
          refine own_retN X13 hx Bd.returns (by simp) (BodyLoose.notSynchronized Bd) (hb hby at_159) (by decide) (by decide) ?_
          exact ⟨rfl, N13⟩
        · -- pc 137: no
          refine own_go (fun t k => XS.icmpYes X13.here hx rfl (pc0 := 137) (pc' := 144) rfl (hb hby at_137) rfl (feq hc137_14).2 (by decide) (by decide) k) ?_
          show own_R p e below _ T13 (mkF m 144 #[.val (.long q1), .second, .val (.long q2), .second, .val (.long q3), .second, .val (.long q4), .second, .val (.int fs), .val (.int fe), .val (.int fos), .val (.int foe), .val (.int gs), .val (.int ge), .val (.int gos), .val (.int goe), .val (.ref b1), .val (.ref b3), .val (.int (if (¬ fs < gs ∧ ¬ ge < fe ∧ ¬ fos < gos ∧ ¬ goe < foe) then (1 : Int32) else (0 : Int32))), .val (.ref b6), .unset] [])
          refine own_go (fun t k => XS.iconst X13.here hx rfl (hb hby at_144) k) ?_
          show own_R p e below _ T13 (mkF m 145 #[.val (.long q1), .second, .val (.long q2), .second, .val (.long q3), .second, .val (.long q4), .second, .val (.int fs), .val (.int fe), .val (.int fos), .val (.int foe), .val (.int gs), .val (.int ge), .val (.int gos), .val (.int goe), .val (.ref b1), .val (.ref b3), .val (.int (if (¬ fs < gs ∧ ¬ ge < fe ∧ ¬ fos < gos ∧ ¬ goe < foe) then (1 : Int32) else (0 : Int32))), .val (.ref b6), .unset] [(.int (0 : Int32))])
          refine own_go (fun t k => XS.istore X13.here hx rfl (hb hby at_145) rfl (l' := #[.val (.long q1), .second, .val (.long q2), .second, .val (.long q3), .second, .val (.long q4), .second, .val (.int fs), .val (.int fe), .val (.int fos), .val (.int foe), .val (.int gs), .val (.int ge), .val (.int gos), .val (.int goe), .val (.ref b1), .val (.ref b3), .val (.int (if (¬ fs < gs ∧ ¬ ge < fe ∧ ¬ fos < gos ∧ ¬ goe < foe) then (1 : Int32) else (0 : Int32))), .val (.ref b6), .val (.int (0 : Int32))]) rfl k) ?_
          show own_R p e below _ T13 (mkF m 147 #[.val (.long q1), .second, .val (.long q2), .second, .val (.long q3), .second, .val (.long q4), .second, .val (.int fs), .val (.int fe), .val (.int fos), .val (.int foe), .val (.int gs), .val (.int ge), .val (.int gos), .val (.int goe), .val (.ref b1), .val (.ref b3), .val (.int (if (¬ fs < gs ∧ ¬ ge < fe ∧ ¬ fos < gos ∧ ¬ goe < foe) then (1 : Int32) else (0 : Int32))), .val (.ref b6), .val (.int (0 : Int32))] [])
          refine own_go (fun t k => XS.iload X13.here hx rfl (hb hby at_147) rfl  k) ?_
          show own_R p e below _ T13 (mkF m 149 #[.val (.long q1), .second, .val (.long q2), .second, .val (.long q3), .second, .val (.long q4), .second, .val (.int fs), .val (.int fe), .val (.int fos), .val (.int foe), .val (.int gs), .val (.int ge), .val (.int gos), .val (.int goe), .val (.ref b1), .val (.ref b3), .val (.int (if (¬ fs < gs ∧ ¬ ge < fe ∧ ¬ fos < gos ∧ ¬ goe < foe) then (1 : Int32) else (0 : Int32))), .val (.ref b6), .val (.int (0 : Int32))] [(.int (if (¬ fs < gs ∧ ¬ ge < fe ∧ ¬ fos < gos ∧ ¬ goe < foe) then (1 : Int32) else (0 : Int32)))])
          refine own_go (fun t k => XS.iload X13.here hx rfl (hb hby at_149) rfl  k) ?_
          show own_R p e below _ T13 (mkF m 151 #[.val (.long q1), .second, .val (.long q2), .second, .val (.long q3), .second, .val (.long q4), .second, .val (.int fs), .val (.int fe), .val (.int fos), .val (.int foe), .val (.int gs), .val (.int ge), .val (.int gos), .val (.int goe), .val (.ref b1), .val (.ref b3), .val (.int (if (¬ fs < gs ∧ ¬ ge < fe ∧ ¬ fos < gos ∧ ¬ goe < foe) then (1 : Int32) else (0 : Int32))), .val (.ref b6), .val (.int (0 : Int32))] [(.int (0 : Int32)), (.int (if (¬ fs < gs ∧ ¬ ge < fe ∧ ¬ fos < gos ∧ ¬ goe < foe) then (1 : Int32) else (0 : Int32)))])
          refine own_go (fun t k => XS.icmpNo X13.here hx rfl (hb hby at_151) rfl (teq (if_neg (fun q => hc137_14 ((own_max foe goe).mpr (q.2.2.2))))).2 k) ?_
          show own_R p e below _ T13 (mkF m 154 #[.val (.long q1), .second, .val (.long q2), .second, .val (.long q3), .second, .val (.long q4), .second, .val (.int fs), .val (.int fe), .val (.int fos), .val (.int foe), .val (.int gs), .val (.int ge), .val (.int gos), .val (.int goe), .val (.ref b1), .val (.ref b3), .val (.int (if (¬ fs < gs ∧ ¬ ge < fe ∧ ¬ fos < gos ∧ ¬ goe < foe) then (1 : Int32) else (0 : Int32))), .val (.ref b6), .val (.int (0 : Int32))] [])
          refine own_go (fun t k => XS.iconst X13.here hx rfl (hb hby at_154) k) ?_
          show own_R p e below _ T13 (mkF m 155 #[.val (.long q1), .second, .val (.long q2), .second, .val (.long q3), .second, .val (.long q4), .second, .val (.int fs), .val (.int fe), .val (.int fos), .val (.int foe), .val (.int gs), .val (.int ge), .val (.int gos), .val (.int goe), .val (.ref b1), .val (.ref b3), .val (.int (if (¬ fs < gs ∧ ¬ ge < fe ∧ ¬ fos < gos ∧ ¬ goe < foe) then (1 : Int32) else (0 : Int32))), .val (.ref b6), .val (.int (0 : Int32))] [(.int (1 : Int32))])
          refine own_go (fun t k => XS.goto X13.here hx rfl (pc0 := 155) (pc' := 159) rfl (hb hby at_155) (by decide) (by decide) k) ?_
          show own_R p e below _ T13 (mkF m 159 #[.val (.long q1), .second, .val (.long q2), .second, .val (.long q3), .second, .val (.long q4), .second, .val (.int fs), .val (.int fe), .val (.int fos), .val (.int foe), .val (.int gs), .val (.int ge), .val (.int gos), .val (.int goe), .val (.ref b1), .val (.ref b3), .val (.int (if (¬ fs < gs ∧ ¬ ge < fe ∧ ¬ fos < gos ∧ ¬ goe < foe) then (1 : Int32) else (0 : Int32))), .val (.ref b6), .val (.int (0 : Int32))] [(.int (1 : Int32))])
          refine own_retN X13 hx Bd.returns (by simp) (BodyLoose.notSynchronized Bd) (hb hby at_159) (by decide) (by decide) ?_
          exact ⟨rfl, N13⟩
      · -- pc 127: no
        refine own_go (fun t k => XS.icmpYes X11.here hx rfl (pc0 := 127) (pc' := 144) rfl (hb hby at_127) rfl (feq hc127_12).2 (by decide) (by decide) k) ?_
        show own_R p e below _ T11 (mkF m 144 #[.val (.long q1), .second, .val (.long q2), .second, .val (.long q3), .second, .val (.long q4), .second, .val (.int fs), .val (.int fe), .val (.int fos), .val (.int foe), .val (.int gs), .val (.int ge), .val (.int gos), .val (.int goe), .val (.ref b1), .val (.ref b3), .val (.int (if (¬ fs < gs ∧ ¬ ge < fe ∧ ¬ fos < gos ∧ ¬ goe < foe) then (1 : Int32) else (0 : Int32))), .val (.ref b6), .unset] [])
        refine own_go (fun t k => XS.iconst X11.here hx rfl (hb hby at_144) k) ?_
        show own_R p e below _ T11 (mkF m 145 #[.val (.long q1), .second, .val (.long q2), .second, .val (.long q3), .second, .val (.long q4), .second, .val (.int fs), .val (.int fe), .val (.int fos), .val (.int foe), .val (.int gs), .val (.int ge), .val (.int gos), .val (.int goe), .val (.ref b1), .val (.ref b3), .val (.int (if (¬ fs < gs ∧ ¬ ge < fe ∧ ¬ fos < gos ∧ ¬ goe < foe) then (1 : Int32) else (0 : Int32))), .val (.ref b6), .unset] [(.int (0 : Int32))])
        refine own_go (fun t k => XS.istore X11.here hx rfl (hb hby at_145) rfl (l' := #[.val (.long q1), .second, .val (.long q2), .second, .val (.long q3), .second, .val (.long q4), .second, .val (.int fs), .val (.int fe), .val (.int fos), .val (.int foe), .val (.int gs), .val (.int ge), .val (.int gos), .val (.int goe), .val (.ref b1), .val (.ref b3), .val (.int (if (¬ fs < gs ∧ ¬ ge < fe ∧ ¬ fos < gos ∧ ¬ goe < foe) then (1 : Int32) else (0 : Int32))), .val (.ref b6), .val (.int (0 : Int32))]) rfl k) ?_
        show own_R p e below _ T11 (mkF m 147 #[.val (.long q1), .second, .val (.long q2), .second, .val (.long q3), .second, .val (.long q4), .second, .val (.int fs), .val (.int fe), .val (.int fos), .val (.int foe), .val (.int gs), .val (.int ge), .val (.int gos), .val (.int goe), .val (.ref b1), .val (.ref b3), .val (.int (if (¬ fs < gs ∧ ¬ ge < fe ∧ ¬ fos < gos ∧ ¬ goe < foe) then (1 : Int32) else (0 : Int32))), .val (.ref b6), .val (.int (0 : Int32))] [])
        refine own_go (fun t k => XS.iload X11.here hx rfl (hb hby at_147) rfl  k) ?_
        show own_R p e below _ T11 (mkF m 149 #[.val (.long q1), .second, .val (.long q2), .second, .val (.long q3), .second, .val (.long q4), .second, .val (.int fs), .val (.int fe), .val (.int fos), .val (.int foe), .val (.int gs), .val (.int ge), .val (.int gos), .val (.int goe), .val (.ref b1), .val (.ref b3), .val (.int (if (¬ fs < gs ∧ ¬ ge < fe ∧ ¬ fos < gos ∧ ¬ goe < foe) then (1 : Int32) else (0 : Int32))), .val (.ref b6), .val (.int (0 : Int32))] [(.int (if (¬ fs < gs ∧ ¬ ge < fe ∧ ¬ fos < gos ∧ ¬ goe < foe) then (1 : Int32) else (0 : Int32)))])
        refine own_go (fun t k => XS.iload X11.here hx rfl (hb hby at_149) rfl  k) ?_
        show own_R p e below _ T11 (mkF m 151 #[.val (.long q1), .second, .val (.long q2), .second, .val (.long q3), .second, .val (.long q4), .second, .val (.int fs), .val (.int fe), .val (.int fos), .val (.int foe), .val (.int gs), .val (.int ge), .val (.int gos), .val (.int goe), .val (.ref b1), .val (.ref b3), .val (.int (if (¬ fs < gs ∧ ¬ ge < fe ∧ ¬ fos < gos ∧ ¬ goe < foe) then (1 : Int32) else (0 : Int32))), .val (.ref b6), .val (.int (0 : Int32))] [(.int (0 : Int32)), (.int (if (¬ fs < gs ∧ ¬ ge < fe ∧ ¬ fos < gos ∧ ¬ goe < foe) then (1 : Int32) else (0 : Int32)))])
        refine own_go (fun t k => XS.icmpNo X11.here hx rfl (hb hby at_151) rfl (teq (if_neg (fun q => hc127_12 ((own_min fos gos).mpr (q.2.2.1))))).2 k) ?_
        show own_R p e below _ T11 (mkF m 154 #[.val (.long q1), .second, .val (.long q2), .second, .val (.long q3), .second, .val (.long q4), .second, .val (.int fs), .val (.int fe), .val (.int fos), .val (.int foe), .val (.int gs), .val (.int ge), .val (.int gos), .val (.int goe), .val (.ref b1), .val (.ref b3), .val (.int (if (¬ fs < gs ∧ ¬ ge < fe ∧ ¬ fos < gos ∧ ¬ goe < foe) then (1 : Int32) else (0 : Int32))), .val (.ref b6), .val (.int (0 : Int32))] [])
        refine own_go (fun t k => XS.iconst X11.here hx rfl (hb hby at_154) k) ?_
        show own_R p e below _ T11 (mkF m 155 #[.val (.long q1), .second, .val (.long q2), .second, .val (.long q3), .second, .val (.long q4), .second, .val (.int fs), .val (.int fe), .val (.int fos), .val (.int foe), .val (.int gs), .val (.int ge), .val (.int gos), .val (.int goe), .val (.ref b1), .val (.ref b3), .val (.int (if (¬ fs < gs ∧ ¬ ge < fe ∧ ¬ fos < gos ∧ ¬ goe < foe) then (1 : Int32) else (0 : Int32))), .val (.ref b6), .val (.int (0 : Int32))] [(.int (1 : Int32))])
        refine own_go (fun t k => XS.goto X11.here hx rfl (pc0 := 155) (pc' := 159) rfl (hb hby at_155) (by decide) (by decide) k) ?_
        show own_R p e below _ T11 (mkF m 159 #[.val (.long q1), .second, .val (.long q2), .second, .val (.long q3), .second, .val (.long q4), .second, .val (.int fs), .val (.int fe), .val (.int fos), .val (.int foe), .val (.int gs), .val (.int ge), .val (.int gos), .val (.int goe), .val (.ref b1), .val (.ref b3), .val (.int (if (¬ fs < gs ∧ ¬ ge < fe ∧ ¬ fos < gos ∧ ¬ goe < foe) then (1 : Int32) else (0 : Int32))), .val (.ref b6), .val (.int (0 : Int32))] [(.int (1 : Int32))])
        refine own_retN X11 hx Bd.returns (by simp) (BodyLoose.notSynchronized Bd) (hb hby at_159) (by decide) (by decide) ?_
        exact ⟨rfl, N11⟩
    · -- pc 117: no
      refine own_go (fun t k => XS.icmpYes X9.here hx rfl (pc0 := 117) (pc' := 144) rfl (hb hby at_117) rfl (feq hc117_10).2 (by decide) (by decide) k) ?_
      show own_R p e below _ T9 (mkF m 144 #[.val (.long q1), .second, .val (.long q2), .second, .val (.long q3), .second, .val (.long q4), .second, .val (.int fs), .val (.int fe), .val (.int fos), .val (.int foe), .val (.int gs), .val (.int ge), .val (.int gos), .val (.int goe), .val (.ref b1), .val (.ref b3), .val (.int (if (¬ fs < gs ∧ ¬ ge < fe ∧ ¬ fos < gos ∧ ¬ goe < foe) then (1 : Int32) else (0 : Int32))), .val (.ref b6), .unset] [])
      refine own_go (fun t k => XS.iconst X9.here hx rfl (hb hby at_144) k) ?_
      show own_R p e below _ T9 (mkF m 145 #[.val (.long q1), .second, .val (.long q2), .second, .val (.long q3), .second, .val (.long q4), .second, .val (.int fs), .val (.int fe), .val (.int fos), .val (.int foe), .val (.int gs), .val (.int ge), .val (.int gos), .val (.int goe), .val (.ref b1), .val (.ref b3), .val (.int (if (¬ fs < gs ∧ ¬ ge < fe ∧ ¬ fos < gos ∧ ¬ goe < foe) then (1 : Int32) else (0 : Int32))), .val (.ref b6), .unset] [(.int (0 : Int32))])
      refine own_go (fun t k => XS.istore X9.here hx rfl (hb hby at_145) rfl (l' := #[.val (.long q1), .second, .val (.long q2), .second, .val (.long q3), .second, .val (.long q4), .second, .val (.int fs), .val (.int fe), .val (.int fos), .val (.int foe), .val (.int gs), .val (.int ge), .val (.int gos), .val (.int goe), .val (.ref b1), .val (.ref b3), .val (.int (if (¬ fs < gs ∧ ¬ ge < fe ∧ ¬ fos < gos ∧ ¬ goe < foe) then (1 : Int32) else (0 : Int32))), .val (.ref b6), .val (.int (0 : Int32))]) rfl k) ?_
      show own_R p e below _ T9 (mkF m 147 #[.val (.long q1), .second, .val (.long q2), .second, .val (.long q3), .second, .val (.long q4), .second, .val (.int fs), .val (.int fe), .val (.int fos), .val (.int foe), .val (.int gs), .val (.int ge), .val (.int gos), .val (.int goe), .val (.ref b1), .val (.ref b3), .val (.int (if (¬ fs < gs ∧ ¬ ge < fe ∧ ¬ fos < gos ∧ ¬ goe < foe) then (1 : Int32) else (0 : Int32))), .val (.ref b6), .val (.int (0 : Int32))] [])
      refine own_go (fun t k => XS.iload X9.here hx rfl (hb hby at_147) rfl  k) ?_
      show own_R p e below _ T9 (mkF m 149 #[.val (.long q1), .second, .val (.long q2), .second, .val (.long q3), .second, .val (.long q4), .second, .val (.int fs), .val (.int fe), .val (.int fos), .val (.int foe), .val (.int gs), .val (.int ge), .val (.int gos), .val (.int goe), .val (.ref b1), .val (.ref b3), .val (.int (if (¬ fs < gs ∧ ¬ ge < fe ∧ ¬ fos < gos ∧ ¬ goe < foe) then (1 : Int32) else (0 : Int32))), .val (.ref b6), .val (.int (0 : Int32))] [(.int (if (¬ fs < gs ∧ ¬ ge < fe ∧ ¬ fos < gos ∧ ¬ goe < foe) then (1 : Int32) else (0 : Int32)))])
      refine own_go (fun t k => XS.iload X9.here hx rfl (hb hby at_149) rfl  k) ?_
      show own_R p e below _ T9 (mkF m 151 #[.val (.long q1), .second, .val (.long q2), .second, .val (.long q3), .second, .val (.long q4), .second, .val (.int fs), .val (.int fe), .val (.int fos), .val (.int foe), .val (.int gs), .val (.int ge), .val (.int gos), .val (.int goe), .val (.ref b1), .val (.ref b3), .val (.int (if (¬ fs < gs ∧ ¬ ge < fe ∧ ¬ fos < gos ∧ ¬ goe < foe) then (1 : Int32) else (0 : Int32))), .val (.ref b6), .val (.int (0 : Int32))] [(.int (0 : Int32)), (.int (if (¬ fs < gs ∧ ¬ ge < fe ∧ ¬ fos < gos ∧ ¬ goe < foe) then (1 : Int32) else (0 : Int32)))])
      refine own_go (fun t k => XS.icmpNo X9.here hx rfl (hb hby at_151) rfl (teq (if_neg (fun q => hc117_10 ((own_max fe ge).mpr (q.2.1))))).2 k) ?_
      show own_R p e below _ T9 (mkF m 154 #[.val (.long q1), .second, .val (.long q2), .second, .val (.long q3), .second, .val (.long q4), .second, .val (.int fs), .val (.int fe), .val (.int fos), .val (.int foe), .val (.int gs), .val (.int ge), .val (.int gos), .val (.int goe), .val (.ref b1), .val (.ref b3), .val (.int (if (¬ fs < gs ∧ ¬ ge < fe ∧ ¬ fos < gos ∧ ¬ goe < foe) then (1 : Int32) else (0 : Int32))), .val (.ref b6), .val (.int (0 : Int32))] [])
      refine own_go (fun t k => XS.iconst X9.here hx rfl (hb hby at_154) k) ?_
      show own_R p e below _ T9 (mkF m 155 #[.val (.long q1), .second, .val (.long q2), .second, .val (.long q3), .second, .val (.long q4), .second, .val (.int fs), .val (.int fe), .val (.int fos), .val (.int foe), .val (.int gs), .val (.int ge), .val (.int gos), .val (.int goe), .val (.ref b1), .val (.ref b3), .val (.int (if (¬ fs < gs ∧ ¬ ge < fe ∧ ¬ fos < gos ∧ ¬ goe < foe) then (1 : Int32) else (0 : Int32))), .val (.ref b6), .val (.int (0 : Int32))] [(.int (1 : Int32))])
      refine own_go (fun t k => XS.goto X9.here hx rfl (pc0 := 155) (pc' := 159) rfl (hb hby at_155) (by decide) (by decide) k) ?_
      show own_R p e below _ T9 (mkF m 159 #[.val (.long q1), .second, .val (.long q2), .second, .val (.long q3), .second, .val (.long q4), .second, .val (.int fs), .val (.int fe), .val (.int fos), .val (.int foe), .val (.int gs), .val (.int ge), .val (.int gos), .val (.int goe), .val (.ref b1), .val (.ref b3), .val (.int (if (¬ fs < gs ∧ ¬ ge < fe ∧ ¬ fos < gos ∧ ¬ goe < foe) then (1 : Int32) else (0 : Int32))), .val (.ref b6), .val (.int (0 : Int32))] [(.int (1 : Int32))])
      refine own_retN X9 hx Bd.returns (by simp) (BodyLoose.notSynchronized Bd) (hb hby at_159) (by decide) (by decide) ?_
      exact ⟨rfl, N9⟩
  · -- pc 107: no
    refine own_go (fun t k => XS.icmpYes X7.here hx rfl (pc0 := 107) (pc' := 144) rfl (hb hby at_107) rfl (feq hc107_8).2 (by decide) (by decide) k) ?_
    show own_R p e below _ T7 (mkF m 144 #[.val (.long q1), .second, .val (.long q2), .second, .val (.long q3), .second, .val (.long q4), .second, .val (.int fs), .val (.int fe), .val (.int fos), .val (.int foe), .val (.int gs), .val (.int ge), .val (.int gos), .val (.int goe), .val (.ref b1), .val (.ref b3), .val (.int (if (¬ fs < gs ∧ ¬ ge < fe ∧ ¬ fos < gos ∧ ¬ goe < foe) then (1 : Int32) else (0 : Int32))), .val (.ref b6), .unset] [])
    refine own_go (fun t k => XS.iconst X7.here hx rfl (hb hby at_144) k) ?_
    show own_R p e below _ T7 (mkF m 145 #[.val (.long q1), .second, .val (.long q2), .second, .val (.long q3), .second, .val (.long q4), .second, .val (.int fs), .val (.int fe), .val (.int fos), .val (.int foe), .val (.int gs), .val (.int ge), .val (.int gos), .val (.int goe), .val (.ref b1), .val (.ref b3), .val (.int (if (¬ fs < gs ∧ ¬ ge < fe ∧ ¬ fos < gos ∧ ¬ goe < foe) then (1 : Int32) else (0 : Int32))), .val (.ref b6), .unset] [(.int (0 : Int32))])
    refine own_go (fun t k => XS.istore X7.here hx rfl (hb hby at_145) rfl (l' := #[.val (.long q1), .second, .val (.long q2), .second, .val (.long q3), .second, .val (.long q4), .second, .val (.int fs), .val (.int fe), .val (.int fos), .val (.int foe), .val (.int gs), .val (.int ge), .val (.int gos), .val (.int goe), .val (.ref b1), .val (.ref b3), .val (.int (if (¬ fs < gs ∧ ¬ ge < fe ∧ ¬ fos < gos ∧ ¬ goe < foe) then (1 : Int32) else (0 : Int32))), .val (.ref b6), .val (.int (0 : Int32))]) rfl k) ?_
    show own_R p e below _ T7 (mkF m 147 #[.val (.long q1), .second, .val (.long q2), .second, .val (.long q3), .second, .val (.long q4), .second, .val (.int fs), .val (.int fe), .val (.int fos), .val (.int foe), .val (.int gs), .val (.int ge), .val (.int gos), .val (.int goe), .val (.ref b1), .val (.ref b3), .val (.int (if (¬ fs < gs ∧ ¬ ge < fe ∧ ¬ fos < gos ∧ ¬ goe < foe) then (1 : Int32) else (0 : Int32))), .val (.ref b6), .val (.int (0 : Int32))] [])
    refine own_go (fun t k => XS.iload X7.here hx rfl (hb hby at_147) rfl  k) ?_
    show own_R p e below _ T7 (mkF m 149 #[.val (.long q1), .second, .val (.long q2), .second, .val (.long q3), .second, .val (.long q4), .second, .val (.int fs), .val (.int fe), .val (.int fos), .val (.int foe), .val (.int gs), .val (.int ge), .val (.int gos), .val (.int goe), .val (.ref b1), .val (.ref b3), .val (.int (if (¬ fs < gs ∧ ¬ ge < fe ∧ ¬ fos < gos ∧ ¬ goe < foe) then (1 : Int32) else (0 : Int32))), .val (.ref b6), .val (.int (0 : Int32))] [(.int (if (¬ fs < gs ∧ ¬ ge < fe ∧ ¬ fos < gos ∧ ¬ goe < foe) then (1 : Int32) else (0 : Int32)))])
    refine own_go (fun t k => XS.iload X7.here hx rfl (hb hby at_149) rfl  k) ?_
    show own_R p e below _ T7 (mkF m 151 #[.val (.long q1), .second, .val (.long q2), .second, .val (.long q3), .second, .val (.long q4), .second, .val (.int fs), .val (.int fe), .val (.int fos), .val (.int foe), .val (.int gs), .val (.int ge), .val (.int gos), .val (.int goe), .val (.ref b1), .val (.ref b3), .val (.int (if (¬ fs < gs ∧ ¬ ge < fe ∧ ¬ fos < gos ∧ ¬ goe < foe) then (1 : Int32) else (0 : Int32))), .val (.ref b6), .val (.int (0 : Int32))] [(.int (0 : Int32)), (.int (if (¬ fs < gs ∧ ¬ ge < fe ∧ ¬ fos < gos ∧ ¬ goe < foe) then (1 : Int32) else (0 : Int32)))])
    refine own_go (fun t k => XS.icmpNo X7.here hx rfl (hb hby at_151) rfl (teq (if_neg (fun q => hc107_8 ((own_min fs gs).mpr (q.1))))).2 k) ?_
    show own_R p e below _ T7 (mkF m 154 #[.val (.long q1), .second, .val (.long q2), .second, .val (.long q3), .second, .val (.long q4), .second, .val (.int fs), .val (.int fe), .val (.int fos), .val (.int foe), .val (.int gs), .val (.int ge), .val (.int gos), .val (.int goe), .val (.ref b1), .val (.ref b3), .val (.int (if (¬ fs < gs ∧ ¬ ge < fe ∧ ¬ fos < gos ∧ ¬ goe < foe) then (1 : Int32) else (0 : Int32))), .val (.ref b6), .val (.int (0 : Int32))] [])
    refine own_go (fun t k => XS.iconst X7.here hx rfl (hb hby at_154) k) ?_
    show own_R p e below _ T7 (mkF m 155 #[.val (.long q1), .second, .val (.long q2), .second, .val (.long q3), .second, .val (.long q4), .second, .val (.int fs), .val (.int fe), .val (.int fos), .val (.int foe), .val (.int gs), .val (.int ge), .val (.int gos), .val (.int goe), .val (.ref b1), .val (.ref b3), .val (.int (if (¬ fs < gs ∧ ¬ ge < fe ∧ ¬ fos < gos ∧ ¬ goe < foe) then (1 : Int32) else (0 : Int32))), .val (.ref b6), .val (.int (0 : Int32))] [(.int (1 : Int32))])
    refine own_go (fun t k => XS.goto X7.here hx rfl (pc0 := 155) (pc' := 159) rfl (hb hby at_155) (by decide) (by decide) k) ?_
    show own_R p e below _ T7 (mkF m 159 #[.val (.long q1), .second, .val (.long q2), .second, .val (.long q3), .second, .val (.long q4), .second, .val (.int fs), .val (.int fe), .val (.int fos), .val (.int foe), .val (.int gs), .val (.int ge), .val (.int gos), .val (.int goe), .val (.ref b1), .val (.ref b3), .val (.int (if (¬ fs < gs ∧ ¬ ge < fe ∧ ¬ fos < gos ∧ ¬ goe < foe) then (1 : Int32) else (0 : Int32))), .val (.ref b6), .val (.int (0 : Int32))] [(.int (1 : Int32))])
    refine own_retN X7 hx Bd.returns (by simp) (BodyLoose.notSynchronized Bd) (hb hby at_159) (by decide) (by decide) ?_
    exact ⟨rfl, N7⟩
set_option maxRecDepth 65536 in
set_option maxHeartbeats 40000000 in
theorem comes_1 {Post : Tables → Env → Array Value → State → Outcome → State → Prop} (hpost : ∀ tb e args s v u, (limb_1_1.after args s (.returned v) u = true ∧ limb_1_2.after args s (.returned v) u = true ∧ True) → FrameEnd s (.returned v) u (Jvm.fieldLocs frame_1_writes args s ++ Jvm.arrayLocs frame_1_arrays args s ++ Jvm.staticLocs frame_1_statics s) 16 128 → Post tb e args s (.returned v) u) :
    ArmFor flags0 classFile x code maxLocals ret World_1 tables_1 room_1 Calls_1 rest_1 Pre_1 Post := by
  intro l hfl _ _ p e ha hc hk s m args below hf hA hF happ hP
  obtain ⟨hcalls, hrest, hpre⟩ := hP
  obtain ⟨-, -, -, hnamed, -, -, -, hat⟩ := (Spec.applies_iff hf).mp happ
  obtain ⟨hg, hn⟩ := and_e (Cond.before_iff.mp (show (Jvm.Cond.and given_1 narrow_1).before args s = true from hpre))
  obtain ⟨g0, gr0⟩ := and_e hg
  obtain ⟨ga0, gr1⟩ := and_e gr0
  obtain ⟨ga1, gr2⟩ := and_e gr1
  obtain ⟨ga2, gr3⟩ := and_e gr2
  have ga3 := gr3
  obtain ⟨w0, w1, w2, w3, rfl⟩ : ∃ w0 w1 w2 w3 : Value, args = #[w0, w1, w2, w3] := by
    have hs : args.size = 4 := by simpa [Cond.value, given_1] using g0
    obtain ⟨L⟩ := args
    match L, hs with
    | [w0, w1, w2, w3], _ => exact ⟨w0, w1, w2, w3, rfl⟩
  have hw := fun d (hd : d ∈ tables_1) => atoms_spec (ws := Jvm.Cond.code x code maxLocals ret :: tables_1) hat d (List.mem_cons_of_mem _ hd)
  have hfit : Fit s := fun {y c} hc i hi => by
    obtain ⟨ha, rfl⟩ := Array.getElem?_eq_some_iff.mp hc
    have q := List.all_eq_true.mp ((Array.all_eq_true_iff_forall_mem.mp hF) _ (Array.getElem_mem ha)) i (List.mem_range.mpr hi)
    simpa [Array.getElem?_eq_getElem hi] using q
  obtain ⟨i0, ei0⟩ := isL_v ga0
  obtain rfl : w0 = (.long i0) := Option.some.inj ei0
  obtain ⟨i1, ei1⟩ := isL_v ga1
  obtain rfl : w1 = (.long i1) := Option.some.inj ei1
  obtain ⟨i2, ei2⟩ := isL_v ga2
  obtain rfl : w2 = (.long i2) := Option.some.inj ei2
  obtain ⟨i3, ei3⟩ := isL_v ga3
  obtain rfl : w3 = (.long i3) := Option.some.inj ei3
  obtain ⟨n, o, h1, h2, h3, _, L, rfl, ⟨rfl, N⟩, hq⟩ := rm0 l s _ hw tables_1 i0 i1 i2 i3  s.heap s.heap.size (Nat.le_refl _) p e ha hc hk s m _ below hf ((Spec.applies_iff_loose hf).mp happ).1 ⟨rfl, State.Warmed39.refl s, rfl⟩ trivial
  refine ⟨n, _, h1, h2, h3, hpost _ _ _ _ _ _ ⟨Cond.after_iff.mpr rfl, Cond.after_iff.mpr (eq_i res_at (Term.int_eval (1)) rfl), trivial⟩ ⟨hq.1, hq.2.1, (hq.2.2.sift fun y hy => Or.inr (N y hy)).mono (by decide) (by decide)⟩⟩
theorem main_1_1 : Claimed_1_1 := comes_1 fun _ _ _ _ _ _ h hF => ⟨h.1, hF⟩
theorem main_1_2 : Claimed_1_2 := comes_1 fun _ _ _ _ _ _ h hF => ⟨h.2.1, hF⟩
end Jvm.Pilot.@@N@@
namespace Jvm.Pilot.@@N@@
open Jvm Jvm.ClassFile Sem Op Lib Jvm.Free Jvm.Stand Jvm.Pilot.@@N@@.Jvm.D
/-! MADE BY PROGRAM (witnessworld.py) out of the Statement's table words and the real class files: 10 classes; the members and pool entries that the words name. The judged class is class 1, her method 1. -/
namespace start1
open Jvm.ClassFile
def u (s : String) : CpInfo := .utf8 (stringToUtf16 s)
/-- a pool by its gaps: so many unusable entries, then the entry; so many at the end -/
def gap : Nat → List CpInfo → List CpInfo
  | 0, r => r
  | n + 1, r => .unusable :: gap n r
def poolList (es : List (Nat × CpInfo)) (last : Nat) : List CpInfo := es.foldr (fun e r => gap e.1 (e.2 :: r)) (gap last [])
def pool (es : List (Nat × CpInfo)) (last : Nat) : Array CpInfo := ⟨poolList es last⟩
def fileOf (pool : Array CpInfo) (this : Nat) (attrs : Array Attribute := #[]) (ms : Array MethodInfo := #[]) (fl : Nat := 33) (sup : Nat := 0) (ifs : Array Nat := #[]) (fds : Array FieldInfo := #[]) : ClassFile where
  minorVersion := 0
  majorVersion := 65
  constantPool := pool
  accessFlags := fl
  thisClass := this
  superClass := sup
  interfaces := ifs
  fields := fds
  methods := ms
  attributes := attrs
def plain (name : String) (sup : Option ClassId) : Class where
  name := name
  kind := .ordinary
  loader := none
  accessFlags := 33
  super := sup
  interfaces := #[]
  cf := none
  fields := #[]
  methods := #[]
  instanceTypes := #[]
  staticTypes := #[]
  resolved := #[]
  callSites := []
  init := .initialized
  statics := none
  mirror := none

def pool0 : Array CpInfo := pool [(5, u "<init>"), (0, u "()V"), (1, .class_ 10), (1, u "java/lang/Object")] 113

def k0c0 : Code := { maxStack := 0, maxLocals := 1, code := object_method_1_code, exceptionTable := #[], attributes := #[] }
def k0m0 : Method := { name := "<init>", desc := "()V", sig := { parameters := [], returnType := none }, accessFlags := 1, code := some k0c0 }
/-- java/lang/Object -/
def k0 : Class := { plain "java/lang/Object" none with
  accessFlags := 33
  interfaces := #[]
  cf := some (fileOf pool0 8 #[] #[{ accessFlags := 1, nameIndex := 5, descriptorIndex := 6, attributes := #[] }] 33 0 #[] #[])
  fields := #[]
  methods := #[k0m0]
  instanceTypes := #[]
  staticTypes := #[]
  resolved := Array.replicate 124 none
  statics := none }

def pool1 : Array CpInfo := pool [(2, .class_ 4), (1, u "java/lang/Object"), (0, u "<init>"), (0, u "()V"), (0, .class_ 8), (0, u "com/example/tracewise/tracewise/Fragment"), (0, .methodref 7 10), (0, .nameAndType 5 11), (0, u "(IIII)V"), (0, .methodref 7 13), (0, .nameAndType 14 15), (0, u "within"), (0, u "(Lcom/example/tracewise/tracewise/Fragment;)Z"), (0, .methodref 7 17), (0, .nameAndType 18 19), (0, u "span"), (0, u "(Lcom/example/tracewise/tracewise/Fragment;)Lcom/example/tracewise/tracewise/Fragment;"), (0, .methodref 7 21), (0, .nameAndType 22 23), (0, u "start"), (0, u "()I"), (0, .methodref 7 25), (0, .nameAndType 26 23), (0, u "end"), (0, .methodref 7 28), (0, .nameAndType 29 23), (0, u "otherStart"), (0, .methodref 7 31), (0, .nameAndType 32 23), (0, u "otherEnd"), (0, .class_ 34), (0, u "com/example/tracewise/tracewise/FragmentWithinPinLaw"), (2, u "law"), (0, u "(JJJJ)Z")] 3

def k1m0 : Method := { name := "<init>", desc := "()V", sig := { parameters := [], returnType := none }, accessFlags := 1, code := none }
def k1c1 : Code := { maxStack := 6, maxLocals := 21, code := code, exceptionTable := #[], attributes := #[] }
def k1m1 : Method := { name := "law", desc := "(JJJJ)Z", sig := { parameters := [.long, .long, .long, .long], returnType := some .boolean }, accessFlags := 9, code := some k1c1 }
/-- com/example/tracewise/tracewise/FragmentWithinPinLaw -/
def k1 : Class := { plain "com/example/tracewise/tracewise/FragmentWithinPinLaw" (some 0) with
  accessFlags := 49
  interfaces := #[]
  cf := some (fileOf pool1 33 #[] #[{ accessFlags := 1, nameIndex := 5, descriptorIndex := 6, attributes := #[] }, { accessFlags := 9, nameIndex := 37, descriptorIndex := 38, attributes := #[] }] 49 2 #[] #[])
  fields := #[]
  methods := #[k1m0, k1m1]
  instanceTypes := #[]
  staticTypes := #[]
  resolved := Array.replicate 42 none
  statics := none }

def pool2 : Array CpInfo := pool [(1, .methodref 2 3), (0, .class_ 4), (0, .nameAndType 5 6), (0, u "java/lang/Object"), (0, u "<init>"), (0, u "()V"), (0, .fieldref 8 9), (0, .class_ 10), (0, .nameAndType 11 12), (0, u "com/example/tracewise/tracewise/Fragment"), (0, u "start"), (0, u "I"), (0, .fieldref 8 14), (0, .nameAndType 15 12), (0, u "end"), (0, .fieldref 8 17), (0, .nameAndType 18 12), (0, u "otherStart"), (0, .fieldref 8 20), (0, .nameAndType 21 12), (0, u "otherEnd"), (0, .methodref 23 24), (0, .class_ 25), (0, .nameAndType 26 27), (0, u "java/lang/Math"), (0, u "min"), (0, u "(II)I"), (0, .methodref 23 29), (0, .nameAndType 30 27), (0, u "max"), (0, .methodref 8 32), (0, .nameAndType 5 33), (0, u "(IIII)V"), (12, u "()I"), (25, u "BY_START"), (0, u "Ljava/util/Comparator;"), (4, u "within"), (0, u "(Lcom/example/tracewise/tracewise/Fragment;)Z"), (1, u "span"), (0, u "(Lcom/example/tracewise/tracewise/Fragment;)Lcom/example/tracewise/tracewise/Fragment;")] 44

def k2c0 : Code := { maxStack := 2, maxLocals := 5, code := prog_8_method_1_code, exceptionTable := #[], attributes := #[] }
def k2m0 : Method := { name := "<init>", desc := "(IIII)V", sig := { parameters := [.int, .int, .int, .int], returnType := none }, accessFlags := 0, code := some k2c0 }
def k2c1 : Code := { maxStack := 1, maxLocals := 1, code := prog_8_method_2_code, exceptionTable := #[], attributes := #[] }
def k2m1 : Method := { name := "start", desc := "()I", sig := { parameters := [], returnType := some .int }, accessFlags := 0, code := some k2c1 }
def k2c2 : Code := { maxStack := 1, maxLocals := 1, code := prog_8_method_3_code, exceptionTable := #[], attributes := #[] }
def k2m2 : Method := { name := "end", desc := "()I", sig := { parameters := [], returnType := some .int }, accessFlags := 0, code := some k2c2 }
def k2c3 : Code := { maxStack := 1, maxLocals := 1, code := prog_8_method_4_code, exceptionTable := #[], attributes := #[] }
def k2m3 : Method := { name := "otherStart", desc := "()I", sig := { parameters := [], returnType := some .int }, accessFlags := 0, code := some k2c3 }
def k2c4 : Code := { maxStack := 1, maxLocals := 1, code := prog_8_method_5_code, exceptionTable := #[], attributes := #[] }
def k2m4 : Method := { name := "otherEnd", desc := "()I", sig := { parameters := [], returnType := some .int }, accessFlags := 0, code := some k2c4 }
def k2c5 : Code := { maxStack := 2, maxLocals := 2, code := prog_8_method_6_code, exceptionTable := #[], attributes := #[] }
def k2m5 : Method := { name := "within", desc := "(Lcom/example/tracewise/tracewise/Fragment;)Z", sig := { parameters := [(.object "com/example/tracewise/tracewise/Fragment")], returnType := some .boolean }, accessFlags := 0, code := some k2c5 }
def k2c6 : Code := { maxStack := 7, maxLocals := 2, code := prog_8_method_7_code, exceptionTable := #[], attributes := #[] }
def k2m6 : Method := { name := "span", desc := "(Lcom/example/tracewise/tracewise/Fragment;)Lcom/example/tracewise/tracewise/Fragment;", sig := { parameters := [(.object "com/example/tracewise/tracewise/Fragment")], returnType := some (.object "com/example/tracewise/tracewise/Fragment") }, accessFlags := 0, code := some k2c6 }
/-- com/example/tracewise/tracewise/Fragment -/
def k2 : Class := { plain "com/example/tracewise/tracewise/Fragment" (some 0) with
  accessFlags := 48
  interfaces := #[]
  cf := some (fileOf pool2 8 #[] #[{ accessFlags := 0, nameIndex := 5, descriptorIndex := 33, attributes := #[] }, { accessFlags := 0, nameIndex := 11, descriptorIndex := 46, attributes := #[] }, { accessFlags := 0, nameIndex := 15, descriptorIndex := 46, attributes := #[] }, { accessFlags := 0, nameIndex := 18, descriptorIndex := 46, attributes := #[] }, { accessFlags := 0, nameIndex := 21, descriptorIndex := 46, attributes := #[] }, { accessFlags := 0, nameIndex := 78, descriptorIndex := 79, attributes := #[] }, { accessFlags := 0, nameIndex := 81, descriptorIndex := 82, attributes := #[] }] 48 2 #[] #[{ accessFlags := 24, nameIndex := 72, descriptorIndex := 73, attributes := #[] }, { accessFlags := 18, nameIndex := 11, descriptorIndex := 12, attributes := #[] }, { accessFlags := 18, nameIndex := 15, descriptorIndex := 12, attributes := #[] }, { accessFlags := 18, nameIndex := 18, descriptorIndex := 12, attributes := #[] }, { accessFlags := 18, nameIndex := 21, descriptorIndex := 12, attributes := #[] }])
  fields := #[{ name := "BY_START", type := (.object "java/util/Comparator"), accessFlags := 24, slot := 0, constantValue := 0 }, { name := "start", type := .int, accessFlags := 18, slot := 0, constantValue := 0 }, { name := "end", type := .int, accessFlags := 18, slot := 1, constantValue := 0 }, { name := "otherStart", type := .int, accessFlags := 18, slot := 2, constantValue := 0 }, { name := "otherEnd", type := .int, accessFlags := 18, slot := 3, constantValue := 0 }]
  methods := #[k2m0, k2m1, k2m2, k2m3, k2m4, k2m5, k2m6]
  instanceTypes := #[.int, .int, .int, .int]
  staticTypes := #[(.object "java/util/Comparator")]
  resolved := Array.replicate 127 none
  statics := none }

def pool3 : Array CpInfo := pool [(1, .class_ 2), (0, u "java/lang/Math"), (1, .class_ 6), (1, u "java/lang/Object"), (0, u "<init>"), (0, u "()V"), (89, .class_ 100), (1, u "java/lang/Math$RandomNumberGeneratorHolder"), (71, u "negativeZeroFloatBits"), (0, u "J"), (2, u "negativeZeroDoubleBits"), (21, u "max"), (2, u "min"), (43, u "$assertionsDisabled"), (0, u "Z"), (88, u "(II)I"), (2, u "twoToTheDoubleScaleDown"), (0, u "D"), (4, u "twoToTheDoubleScaleUp"), (9, u "E"), (3, u "PI"), (2, u "TAU"), (2, u "DEGREES_TO_RADIANS"), (0, u "RADIANS_TO_DEGREES")] 94

def k3m0 : Method := { name := "<init>", desc := "()V", sig := { parameters := [], returnType := none }, accessFlags := 2, code := none }
def k3c1 : Code := { maxStack := 2, maxLocals := 2, code := jdk_29_method_65_code, exceptionTable := #[], attributes := #[] }
def k3m1 : Method := { name := "max", desc := "(II)I", sig := { parameters := [.int, .int], returnType := some .int }, accessFlags := 9, code := some k3c1 }
def k3c2 : Code := { maxStack := 2, maxLocals := 2, code := jdk_29_method_69_code, exceptionTable := #[], attributes := #[] }
def k3m2 : Method := { name := "min", desc := "(II)I", sig := { parameters := [.int, .int], returnType := some .int }, accessFlags := 9, code := some k3c2 }
/-- java/lang/Math -/
def k3 : Class := { plain "java/lang/Math" (some 0) with
  accessFlags := 49
  interfaces := #[]
  cf := some (fileOf pool3 1 #[.nestMembers #[98]] #[{ accessFlags := 2, nameIndex := 7, descriptorIndex := 8, attributes := #[] }, { accessFlags := 9, nameIndex := 198, descriptorIndex := 335, attributes := #[] }, { accessFlags := 9, nameIndex := 201, descriptorIndex := 335, attributes := #[] }] 49 4 #[] #[{ accessFlags := 25, nameIndex := 354, descriptorIndex := 339, attributes := #[] }, { accessFlags := 25, nameIndex := 358, descriptorIndex := 339, attributes := #[] }, { accessFlags := 25, nameIndex := 361, descriptorIndex := 339, attributes := #[] }, { accessFlags := 26, nameIndex := 364, descriptorIndex := 339, attributes := #[] }, { accessFlags := 26, nameIndex := 365, descriptorIndex := 339, attributes := #[] }, { accessFlags := 26, nameIndex := 172, descriptorIndex := 173, attributes := #[] }, { accessFlags := 26, nameIndex := 176, descriptorIndex := 173, attributes := #[] }, { accessFlags := 8, nameIndex := 344, descriptorIndex := 339, attributes := #[] }, { accessFlags := 8, nameIndex := 338, descriptorIndex := 339, attributes := #[] }, { accessFlags := 4120, nameIndex := 245, descriptorIndex := 246, attributes := #[] }])
  fields := #[{ name := "E", type := .double, accessFlags := 25, slot := 0, constantValue := 0 }, { name := "PI", type := .double, accessFlags := 25, slot := 1, constantValue := 0 }, { name := "TAU", type := .double, accessFlags := 25, slot := 2, constantValue := 0 }, { name := "DEGREES_TO_RADIANS", type := .double, accessFlags := 26, slot := 3, constantValue := 0 }, { name := "RADIANS_TO_DEGREES", type := .double, accessFlags := 26, slot := 4, constantValue := 0 }, { name := "negativeZeroFloatBits", type := .long, accessFlags := 26, slot := 5, constantValue := 0 }, { name := "negativeZeroDoubleBits", type := .long, accessFlags := 26, slot := 6, constantValue := 0 }, { name := "twoToTheDoubleScaleUp", type := .double, accessFlags := 8, slot := 7, constantValue := 0 }, { name := "twoToTheDoubleScaleDown", type := .double, accessFlags := 8, slot := 8, constantValue := 0 }, { name := "$assertionsDisabled", type := .boolean, accessFlags := 4120, slot := 9, constantValue := 0 }]
  methods := #[k3m0, k3m1, k3m2]
  instanceTypes := #[]
  staticTypes := #[.double, .double, .double, .double, .double, .long, .long, .double, .double, .boolean]
  resolved := Array.replicate 460 none
  statics := none }

def pool4 : Array CpInfo := pool [(1, u "java/lang/Cloneable"), (0, .class_ 1), (0, u "java/lang/Object"), (0, .class_ 3)] 3

/-- java/lang/Cloneable -/
def k4 : Class := { plain "java/lang/Cloneable" (some 0) with
  accessFlags := 1537
  interfaces := #[]
  cf := some (fileOf pool4 2 #[] #[] 1537 4 #[] #[])
  fields := #[]
  methods := #[]
  instanceTypes := #[]
  staticTypes := #[]
  resolved := Array.replicate 8 none
  statics := none }

def pool5 : Array CpInfo := pool [(1, u "java/io/Serializable"), (0, .class_ 1), (0, u "java/lang/Object"), (0, .class_ 3)] 3

/-- java/io/Serializable -/
def k5 : Class := { plain "java/io/Serializable" (some 0) with
  accessFlags := 1537
  interfaces := #[]
  cf := some (fileOf pool5 2 #[] #[] 1537 4 #[] #[])
  fields := #[]
  methods := #[]
  instanceTypes := #[]
  staticTypes := #[]
  resolved := Array.replicate 8 none
  statics := none }

/-- the primitive byte -/
def k6 : Class := { plain "byte" none with kind := .primitive 'B', accessFlags := 0x411 }
/-- [B -/
def k7 : Class := { plain "[B" (some 0) with kind := .array 6 .byte, interfaces := #[4, 5], accessFlags := 1041 }

/-- the primitive int -/
def k8 : Class := { plain "int" none with kind := .primitive 'I', accessFlags := 0x411 }
/-- [I -/
def k9 : Class := { plain "[I" (some 0) with kind := .array 8 .int, interfaces := #[4, 5], accessFlags := 1041 }

def heap : Heap := #[]
def classes : Array Class := #[k0, k1, k2, k3, k4, k5, k6, k7, k8, k9]
def interned : List (Array UInt16 × Addr) := []
def slotsUsed : Nat := 0
def theMethod : MethodId := ⟨1, 1⟩
def args0 : Array Value := #[.long 1000, .long 77, .long 5, .long 7]
def aboutOver (below : List Frame) : State where
  vm := { classes := classes, interned := interned.toArray }
  heap := heap
  slotsUsed := slotsUsed
  threads := #[{ frames := .invoking theMethod args0 :: below }]
def below0 : List Frame := [.native { method := ⟨0, 0⟩, args := #[] }]
def about1 : State := aboutOver below0
def p0 : Program := .bare "" "" ""
def e0 : Env := launch0.env 0 0 0
theorem w_frames : about1.frames = Frame.invoking theMethod args0 :: below0 := rfl
set_option maxRecDepth 65536 in
theorem w_args : argsFit about1.vm theMethod args0 = true := by decide +kernel
set_option maxRecDepth 65536 in
theorem w_heap : heapFits about1 = true := by decide +kernel
set_option maxRecDepth 65536 in
theorem w_runnable : about1.curStatus? = some .runnable := by decide +kernel
set_option maxRecDepth 65536 in
theorem w_alone : about1.alone = true := by decide +kernel
set_option maxRecDepth 65536 in
theorem w_named : about1.methodNamed? x = some theMethod := by decide +kernel
set_option maxRecDepth 65536 in
theorem w_hears : about1.hears theMethod below0 = true := by decide +kernel
set_option maxRecDepth 65536 in
theorem w_ripe : about1.ripe theMethod args0 below0 = true := by decide +kernel
theorem w_running : about1.status = .running := rfl
set_option maxRecDepth 65536 in
theorem w_room : about1.hasRoom e0.platform room_1 = true :=
  launch0.hasRoom_least _ room_1 (by decide +kernel) (by decide +kernel) (by decide +kernel) (by decide +kernel) (by decide +kernel) (by decide +kernel)
theorem allAtoms_all (ts : List Jvm.Cond) (a : Array Jvm.Value) (st : Jvm.State) : (allAtoms ts).before a st = ts.all (fun c => c.before a st) := by
  induction ts with
  | nil => rfl
  | cons c t ih =>
    show (Jvm.Cond.and c (allAtoms t)).before a st = _
    rw [Jvm.Cond.before_and, ih, List.all_cons]
def words1 : List Jvm.Cond := Jvm.Cond.code x code maxLocals ret :: tables_1
/-- a 'code' word, met by the world's own term for the bytes: nothing is compared byte by byte -/
theorem code_word {y : MethodName} {bytes : ByteArray} {mx : Nat} {rt : Option FieldType} {a : Array Value} {s : State} {m : MethodId} {meth : Method} {c : Code} (h1 : s.methodNamed? y = some m) (h2 : s.vm.method? m = some meth) (h3 : meth.code = some c) (h4 : c.code = bytes)
    (h5 : (c.maxLocals == mx && c.exceptionTable.isEmpty && decide (c.maxStack ≤ mostOperands) && decide (meth.sig.returnType = rt) && !meth.locks && decide (parseMethodDescriptor y.desc = some meth.sig)) = true) : (Jvm.Cond.code y bytes mx rt).before a s = true := by
  simp only [Bool.and_eq_true, beq_iff_eq, Bool.not_eq_true', decide_eq_true_eq] at h5
  obtain ⟨⟨⟨⟨⟨g1, g2⟩, g3⟩, g4⟩, g5⟩, g6⟩ := h5
  simp [Cond.before, Cond.holds, Cond.value, h1, h2, h3, h4, g1, g2, g3, g4, g5, g6]
def isCode : Jvm.Cond → Bool
  | .code _ _ _ _ => true
  | _ => false
theorem all_split {L : List Jvm.Cond} {P : Jvm.Cond → Bool} (h1 : L.all (fun c => isCode c || P c) = true) (h2 : ∀ c ∈ L.filter isCode, P c = true) : L.all P = true := by
  refine List.all_eq_true.mpr fun c hc => ?_
  have h := List.all_eq_true.mp h1 c hc
  rcases Bool.eq_false_or_eq_true (isCode c) with hi | hi
  · exact h2 c (List.mem_filter.mpr ⟨hc, hi⟩)
  · simpa [hi] using h
set_option maxRecDepth 65536 in
theorem w_c0 : (Jvm.Cond.code x code maxLocals ret).before args0 about1 = true := code_word (m := ⟨1, 1⟩) (meth := k1m1) (c := k1c1) (by decide +kernel) rfl rfl rfl (by decide +kernel)
set_option maxRecDepth 65536 in
theorem w_c1 : (Jvm.Cond.code ({ cls := "com/example/tracewise/tracewise/Fragment", name := "<init>", desc := "(IIII)V" } : Jvm.MethodName) prog_8_method_1_code (5 : Nat) (Option.none : Option Jvm.ClassFile.FieldType)).before args0 about1 = true := code_word (m := ⟨2, 0⟩) (meth := k2m0) (c := k2c0) (by decide +kernel) rfl rfl rfl (by decide +kernel)
set_option maxRecDepth 65536 in
theorem w_c2 : (Jvm.Cond.code ({ cls := "java/lang/Object", name := "<init>", desc := "()V" } : Jvm.MethodName) object_method_1_code (1 : Nat) (Option.none : Option Jvm.ClassFile.FieldType)).before args0 about1 = true := code_word (m := ⟨0, 0⟩) (meth := k0m0) (c := k0c0) (by decide +kernel) rfl rfl rfl (by decide +kernel)
set_option maxRecDepth 65536 in
theorem w_c3 : (Jvm.Cond.code ({ cls := "com/example/tracewise/tracewise/Fragment", name := "within", desc := "(Lcom/example/tracewise/tracewise/Fragment;)Z" } : Jvm.MethodName) prog_8_method_6_code (2 : Nat) (Option.some Jvm.ClassFile.FieldType.boolean)).before args0 about1 = true := code_word (m := ⟨2, 5⟩) (meth := k2m5) (c := k2c5) (by decide +kernel) rfl rfl rfl (by decide +kernel)
set_option maxRecDepth 65536 in
theorem w_c4 : (Jvm.Cond.code ({ cls := "com/example/tracewise/tracewise/Fragment", name := "span", desc := "(Lcom/example/tracewise/tracewise/Fragment;)Lcom/example/tracewise/tracewise/Fragment;" } : Jvm.MethodName) prog_8_method_7_code (2 : Nat) (Option.some (Jvm.ClassFile.FieldType.object "com/example/tracewise/tracewise/Fragment"))).before args0 about1 = true := code_word (m := ⟨2, 6⟩) (meth := k2m6) (c := k2c6) (by decide +kernel) rfl rfl rfl (by decide +kernel)
set_option maxRecDepth 65536 in
theorem w_c5 : (Jvm.Cond.code ({ cls := "java/lang/Math", name := "min", desc := "(II)I" } : Jvm.MethodName) jdk_29_method_69_code (2 : Nat) (Option.some Jvm.ClassFile.FieldType.int)).before args0 about1 = true := code_word (m := ⟨3, 2⟩) (meth := k3m2) (c := k3c2) (by decide +kernel) rfl rfl rfl (by decide +kernel)
set_option maxRecDepth 65536 in
theorem w_c6 : (Jvm.Cond.code ({ cls := "java/lang/Math", name := "max", desc := "(II)I" } : Jvm.MethodName) jdk_29_method_65_code (2 : Nat) (Option.some Jvm.ClassFile.FieldType.int)).before args0 about1 = true := code_word (m := ⟨3, 1⟩) (meth := k3m1) (c := k3c1) (by decide +kernel) rfl rfl rfl (by decide +kernel)
set_option maxRecDepth 65536 in
theorem w_c7 : (Jvm.Cond.code ({ cls := "com/example/tracewise/tracewise/Fragment", name := "start", desc := "()I" } : Jvm.MethodName) prog_8_method_2_code (1 : Nat) (Option.some Jvm.ClassFile.FieldType.int)).before args0 about1 = true := code_word (m := ⟨2, 1⟩) (meth := k2m1) (c := k2c1) (by decide +kernel) rfl rfl rfl (by decide +kernel)
set_option maxRecDepth 65536 in
theorem w_c8 : (Jvm.Cond.code ({ cls := "com/example/tracewise/tracewise/Fragment", name := "end", desc := "()I" } : Jvm.MethodName) prog_8_method_3_code (1 : Nat) (Option.some Jvm.ClassFile.FieldType.int)).before args0 about1 = true := code_word (m := ⟨2, 2⟩) (meth := k2m2) (c := k2c2) (by decide +kernel) rfl rfl rfl (by decide +kernel)
set_option maxRecDepth 65536 in
theorem w_c9 : (Jvm.Cond.code ({ cls := "com/example/tracewise/tracewise/Fragment", name := "otherStart", desc := "()I" } : Jvm.MethodName) prog_8_method_4_code (1 : Nat) (Option.some Jvm.ClassFile.FieldType.int)).before args0 about1 = true := code_word (m := ⟨2, 3⟩) (meth := k2m3) (c := k2c3) (by decide +kernel) rfl rfl rfl (by decide +kernel)
set_option maxRecDepth 65536 in
theorem w_c10 : (Jvm.Cond.code ({ cls := "com/example/tracewise/tracewise/Fragment", name := "otherEnd", desc := "()I" } : Jvm.MethodName) prog_8_method_5_code (1 : Nat) (Option.some Jvm.ClassFile.FieldType.int)).before args0 about1 = true := code_word (m := ⟨2, 4⟩) (meth := k2m4) (c := k2c4) (by decide +kernel) rfl rfl rfl (by decide +kernel)
def codes1 : List Jvm.Cond := [Jvm.Cond.code x code maxLocals ret, Jvm.Cond.code ({ cls := "com/example/tracewise/tracewise/Fragment", name := "<init>", desc := "(IIII)V" } : Jvm.MethodName) prog_8_method_1_code (5 : Nat) (Option.none : Option Jvm.ClassFile.FieldType), Jvm.Cond.code ({ cls := "java/lang/Object", name := "<init>", desc := "()V" } : Jvm.MethodName) object_method_1_code (1 : Nat) (Option.none : Option Jvm.ClassFile.FieldType), Jvm.Cond.code ({ cls := "com/example/tracewise/tracewise/Fragment", name := "within", desc := "(Lcom/example/tracewise/tracewise/Fragment;)Z" } : Jvm.MethodName) prog_8_method_6_code (2 : Nat) (Option.some Jvm.ClassFile.FieldType.boolean), Jvm.Cond.code ({ cls := "com/example/tracewise/tracewise/Fragment", name := "span", desc := "(Lcom/example/tracewise/tracewise/Fragment;)Lcom/example/tracewise/tracewise/Fragment;" } : Jvm.MethodName) prog_8_method_7_code (2 : Nat) (Option.some (Jvm.ClassFile.FieldType.object "com/example/tracewise/tracewise/Fragment")), Jvm.Cond.code ({ cls := "java/lang/Math", name := "min", desc := "(II)I" } : Jvm.MethodName) jdk_29_method_69_code (2 : Nat) (Option.some Jvm.ClassFile.FieldType.int), Jvm.Cond.code ({ cls := "java/lang/Math", name := "max", desc := "(II)I" } : Jvm.MethodName) jdk_29_method_65_code (2 : Nat) (Option.some Jvm.ClassFile.FieldType.int), Jvm.Cond.code ({ cls := "com/example/tracewise/tracewise/Fragment", name := "start", desc := "()I" } : Jvm.MethodName) prog_8_method_2_code (1 : Nat) (Option.some Jvm.ClassFile.FieldType.int), Jvm.Cond.code ({ cls := "com/example/tracewise/tracewise/Fragment", name := "end", desc := "()I" } : Jvm.MethodName) prog_8_method_3_code (1 : Nat) (Option.some Jvm.ClassFile.FieldType.int), Jvm.Cond.code ({ cls := "com/example/tracewise/tracewise/Fragment", name := "otherStart", desc := "()I" } : Jvm.MethodName) prog_8_method_4_code (1 : Nat) (Option.some Jvm.ClassFile.FieldType.int), Jvm.Cond.code ({ cls := "com/example/tracewise/tracewise/Fragment", name := "otherEnd", desc := "()I" } : Jvm.MethodName) prog_8_method_5_code (1 : Nat) (Option.some Jvm.ClassFile.FieldType.int)]
set_option maxRecDepth 65536 in
theorem codes_eq : words1.filter isCode = codes1 := rfl
theorem w_codes : ∀ c ∈ words1.filter isCode, c.before args0 about1 = true := by
  rw [codes_eq]
  intro c hc
  simp only [codes1, List.mem_cons, List.not_mem_nil, or_false] at hc
  rcases hc with rfl | rfl | rfl | rfl | rfl | rfl | rfl | rfl | rfl | rfl | rfl
  · exact w_c0
  · exact w_c1
  · exact w_c2
  · exact w_c3
  · exact w_c4
  · exact w_c5
  · exact w_c6
  · exact w_c7
  · exact w_c8
  · exact w_c9
  · exact w_c10
set_option maxRecDepth 65536 in
theorem w_t1 : (words1.take 24).all (fun c => isCode c || c.before args0 about1) = true := by decide +kernel
set_option maxRecDepth 65536 in
theorem w_t2 : ((words1.drop 24).take 24).all (fun c => isCode c || c.before args0 about1) = true := by decide +kernel
set_option maxRecDepth 65536 in
theorem w_t3 : ((words1.drop 24).drop 24).all (fun c => isCode c || c.before args0 about1) = true := by decide +kernel
theorem w_tables : (allAtoms (Jvm.Cond.code x code maxLocals ret :: tables_1)).before args0 about1 = true := by
  rw [allAtoms_all]
  show words1.all (fun c => c.before args0 about1) = true
  refine all_split ?_ w_codes
  rw [← List.take_append_drop 24 words1, List.all_append, w_t1, ← List.take_append_drop 24 (words1.drop 24), List.all_append, w_t2, w_t3]
  rfl
set_option maxRecDepth 65536 in
theorem w_case : (Jvm.Cond.and given_1 narrow_1).before args0 about1 = true := by decide +kernel
theorem w_applies : (headSpec (Jvm.Cond.code x code maxLocals ret :: tables_1) room_1).applies x e0.platform about1 = true :=
  (Spec.applies_iff w_frames).mpr ⟨w_running, w_runnable, w_alone, w_named, w_hears, w_ripe, w_room, w_tables⟩
theorem atStart : AtStart classFile x code maxLocals ret World_1 tables_1 room_1 Calls_1 rest_1 Pre_1 launch0 p0 e0 about1 theMethod args0 below0 :=
  ⟨lists_1, trivial, launch0.admits_env _ _ _, launch0.least_env, fairChoices_fair.cas, fairChoices_fair.clock, w_frames, w_args, w_heap, w_applies, trivial, trivial, w_case⟩
end start1
theorem witness_1 : WitnessClaimed_1 := ⟨start1.p0, start1.e0, start1.about1, start1.theMethod, start1.args0, start1.below0, start1.atStart⟩
end Jvm.Pilot.@@N@@
