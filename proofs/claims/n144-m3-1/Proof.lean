import JvmDerived
import JvmDerived.Pilot.@@N@@Statement
import JvmDerived.Pilot.@@N@@Code
set_option linter.unusedVariables false
set_option linter.unusedSimpArgs false
namespace Jvm.Pilot.@@N@@
open Jvm Jvm.ClassFile Sem Op Lib Jvm.Free Jvm.Stand Jvm.LawKit Jvm.RoadKit Bundle Jvm.Pilot.@@N@@.Jvm.D
section OwnKit
variable {p : Program} {l : Launch} {e : Env} {R : Room} {s : State} {m : MethodId} {args : Array Value} {below : List Frame} {meth : Method} {c : Code} {T T' : State} {locs : List Loc} {cells slots : Nat} {F F' : JFrame} {K : State → Prop}
/-- from the frame F the run comes to a state that K takes -/
def own_R (p : Program) (e : Env) (below : List Frame) (K : State → Prop) (T : State) (F : JFrame) : Prop := ∃ t, Steps p.tables e below (T.setTop F) t ∧ K t
theorem own_go (h : ∀ t, Steps p.tables e below (T'.setTop F') t → Steps p.tables e below (T.setTop F) t) (r : own_R p e below K T' F') : own_R p e below K T F := by
  obtain ⟨t, h1, h2⟩ := r
  exact ⟨t, h t h1, h2⟩
/-- the end of the body: it returned, and Q holds -/
def own_E (s : State) (below : List Frame) (Q : Option Value → Heap → List Loc → Prop) (k n : Nat) (t : State) : Prop :=
  t.status = .running ∧ ∃ v L, Ended t below (.returned v) ∧ Q v t.heap L ∧ FrameEnd s (.returned v) t L k n
/-- a join: the run stands at F', the heap as I says -/
def own_K (p : Program) (l : Launch) (e : Env) (R : Room) (s : State) (m : MethodId) (args : Array Value) (below : List Frame) (meth : Method) (c : Code) (n0 cells slots : Nat) (I : Heap → Prop) (F' : JFrame) (t : State) : Prop :=
  ∃ (T' : State) (L' : List Loc), t = T'.setTop F' ∧ Stand p l e R s m args below meth c T' L' cells slots ∧ I T'.heap ∧ Fr n0 L'
theorem own_here {n0 : Nat} {I : Heap → Prop} (X : Stand p l e R s m args below meth c T locs cells slots) (i : I T.heap) (N : Fr n0 locs) : own_R p e below (own_K p l e R s m args below meth c n0 cells slots I F) T F :=
  ⟨_, Steps.refl _, T, locs, rfl, X, i, N⟩
theorem own_retN {Q : Option Value → Heap → List Loc → Prop} {k n : Nat} (X : Stand p l e R s m args below meth c T locs cells slots) (hx : p.tables.exec = Jvm.exec) {pc : Nat} {Ls : Array Slot} {z : Int32} {t : FieldType} {rest : List Value} (hret : meth.sig.returnType = some t) (ht : t = .boolean ∨ t = .byte ∨ t = .char ∨ t = .short) (hlk : meth.locks = false)
    (hd : decode c.code pc = .ok (.ireturn, 1)) (hk : cells ≤ k) (hn : slots ≤ n) (hQ : Q (some (.int (nar t z))) T.heap locs) : own_R p e below (own_E s below Q k n) T (mkF m pc Ls (.int z :: rest)) := by
  obtain ⟨fs, hr, hrun, hended, hW, hsame⟩ := X.leave (v := some (.int (nar t z))) (fun h => by rw [hret] at h; cases h) hlk
  exact ⟨_, retN X hx hret ht hd hr, hrun, _, _, hended, hQ, ⟨_, rfl⟩, hW, hsame.mono hk hn⟩
theorem own_retW {Q : Option Value → Heap → List Loc → Prop} {k n : Nat} (X : Stand p l e R s m args below meth c T locs cells slots) (hx : p.tables.exec = Jvm.exec) {pc : Nat} {Ls : Array Slot} {w : Value} {t : FieldType} {i : Instr} {rest : List Value} (hret : meth.sig.returnType = some t) (hnw : narrow t w = w)
    (hi : (i = .ireturn ∧ (t = .int ∨ t = .boolean ∨ t = .byte ∨ t = .char ∨ t = .short) ∧ ∃ z, w = .int z) ∨ (i = .lreturn ∧ t = .long ∧ ∃ z, w = .long z) ∨ (i = .dreturn ∧ t = .double ∧ ∃ z, w = .double z) ∨ (i = .freturn ∧ t = .float ∧ ∃ z, w = .float z) ∨ (i = .areturn ∧ t.isReference = true ∧ w.isRef = true)) (hlk : meth.locks = false)
    (hd : decode c.code pc = .ok (i, 1)) (hk : cells ≤ k) (hn : slots ≤ n) (hQ : Q (some w) T.heap locs) : own_R p e below (own_E s below Q k n) T (mkF m pc Ls (w :: rest)) := by
  obtain ⟨fs, hr, hrun, hended, hW, hsame⟩ := X.leave (v := some w) (fun h => by rw [hret] at h; cases h) hlk
  exact ⟨_, retOut X hx hret hnw hi hd hr, hrun, _, _, hended, hQ, ⟨_, rfl⟩, hW, hsame.mono hk hn⟩
theorem own_retV {Q : Option Value → Heap → List Loc → Prop} {k n : Nat} (X : Stand p l e R s m args below meth c T locs cells slots) (hx : p.tables.exec = Jvm.exec) {pc : Nat} {Ls : Array Slot} (hret : meth.sig.returnType = none) (hlk : meth.locks = false)
    (hd : decode c.code pc = .ok (.return_, 1)) (hk : cells ≤ k) (hn : slots ≤ n) (hQ : Q none T.heap locs) : own_R p e below (own_E s below Q k n) T (mkF m pc Ls []) := by
  obtain ⟨fs, hr, hrun, hended, hW, hsame⟩ := X.leave (v := none) (fun _ => rfl) hlk
  exact ⟨_, X.returnOut hx hret hd hr, hrun, _, _, hended, hQ, ⟨_, rfl⟩, hW, hsame.mono hk hn⟩
theorem own_lti {x y : Int32} {a b : Int} (h : x < y) (ha : x.toInt = a) (hb : y.toInt = b) : a < b := by rw [← ha, ← hb]; exact Int32.lt_iff_toInt_lt.mp h
theorem own_nlti {x y : Int32} {a b : Int} (h : ¬ x < y) (ha : x.toInt = a) (hb : y.toInt = b) : b ≤ a := by rw [← ha, ← hb]; rw [Int32.lt_iff_toInt_lt] at h; omega
theorem own_eqi {x y : Int32} {a b : Int} (h : x = y) (ha : x.toInt = a) (hb : y.toInt = b) : a = b := by rw [← ha, ← hb, h]
theorem own_nei {x y : Int32} {a b : Int} (h : ¬ x = y) (ha : x.toInt = a) (hb : y.toInt = b) : a ≠ b := by rw [← ha, ← hb]; exact fun q => h (Int32.toInt_inj.mp q)
theorem own_if0 {P : Prop} [Decidable P] (h : (if P then (1 : Int32) else (0 : Int32)) = (0 : Int32)) : ¬ P := fun q => by rw [if_pos q] at h; exact absurd h (by decide)
theorem own_if1 {P : Prop} [Decidable P] (h : ¬ (if P then (1 : Int32) else (0 : Int32)) = (0 : Int32)) : P := by
  by_cases q : P
  · exact q
  · exact absurd (if_neg q) h
theorem own_b01 {P : Prop} [Decidable P] : nar .boolean (if P then (1 : Int32) else (0 : Int32)) = (if P then (1 : Int32) else (0 : Int32)) := by split <;> rfl
/-- the end of the body, where a String constant may have been interned -/
def own_EW (s : State) (below : List Frame) (Q : Option Value → Heap → List Loc → Prop) (k n : Nat) (t : State) : Prop :=
  t.status = .running ∧ ∃ v L, Ended t below (.returned v) ∧ Q v t.heap L ∧ ReturnedEndW s (.returned v) t L k n
theorem own_retNW {Q : Option Value → Heap → List Loc → Prop} {k n j : Nat} {vm₁ : Vm} (X : Stand p l e R (s.setVm vm₁) m args below meth c T locs cells slots) (hx : p.tables.exec = Jvm.exec) {pc : Nat} {Ls : Array Slot} {z : Int32} {t : FieldType} {rest : List Value} (hret : meth.sig.returnType = some t) (ht : t = .boolean ∨ t = .byte ∨ t = .char ∨ t = .short) (hlk : meth.locks = false)
    (hd : decode c.code pc = .ok (.ireturn, 1)) (hS : s.Since vm₁ j) (hj : j ≤ T.heap.size) (hk : cells ≤ k) (hn : slots ≤ n) (hQ : Q (some (.int (nar t z))) T.heap locs) : own_R p e below (own_EW s below Q k n) T (mkF m pc Ls (.int z :: rest)) := by
  obtain ⟨fs, hr, hrun, hended, h1, h2, h3, h4⟩ := X.leaveW hS hj (v := some (.int (nar t z))) (fun h => by rw [hret] at h; cases h) hlk
  exact ⟨_, retN X hx hret ht hd hr, hrun, _, _, hended, hQ, h1, h2, h3, h4.mono hk hn⟩
end OwnKit
theorem own_law (c r : Int64) (hc0 : 0 ≤ c.toInt) (hc1 : c.toInt < 18014398509481984) (hr0 : 0 ≤ r.toInt) (hr1 : r.toInt < 288230376151711744) : r * (20 : Int64) < c * (100 : Int64) ↔ r / (5 : Int64) < c := by
  have h1 := c_lmul r 20
  have h2 := c_lmul c 100
  have h3 := (c_ldiv r 5 5 rfl (by decide)).1 hr0
  have b1 := rng64 (r * 20)
  have b2 := rng64 (c * 100)
  have k1 : (20 : Int64).toInt = 20 := rfl
  have k2 : (100 : Int64).toInt = 100 := rfl
  rw [k1] at h1
  rw [k2] at h2
  have e1 : (r * 20).toInt = r.toInt * 20 := by omega
  have e2 : (c * 100).toInt = c.toInt * 100 := by omega
  rw [Int64.lt_iff_toInt_lt, Int64.lt_iff_toInt_lt, h3, e1, e2]
  omega
theorem pd_0 : parseMethodDescriptor "(JJ)Z" = some ⟨[.long, .long], some .boolean⟩ := by decide +kernel
theorem pd_1 : parseMethodDescriptor "(JJ)J" = some ⟨[.long, .long], some .long⟩ := by decide +kernel
theorem d2_0 : decode jdk_29_method_66_code 0 = .ok (.lload_n 0, 1) := by decide +kernel
theorem d2_1 : decode jdk_29_method_66_code 1 = .ok (.lload_n 2, 1) := by decide +kernel
theorem d2_2 : decode jdk_29_method_66_code 2 = .ok (.lcmp, 1) := by decide +kernel
theorem d2_3 : decode jdk_29_method_66_code 3 = .ok (.ifCond .lt 7, 3) := by decide +kernel
theorem d2_6 : decode jdk_29_method_66_code 6 = .ok (.lload_n 0, 1) := by decide +kernel
theorem d2_7 : decode jdk_29_method_66_code 7 = .ok (.goto 4, 3) := by decide +kernel
theorem d2_10 : decode jdk_29_method_66_code 10 = .ok (.lload_n 2, 1) := by decide +kernel
theorem d2_11 : decode jdk_29_method_66_code 11 = .ok (.lreturn, 1) := by decide +kernel
theorem ef_2 (m : MethodId) (x0 : Int64) (x1 : Int64) : entryFrame m #[(.long x0), (.long x1)] 4 = mkF m 0 #[.val (.long x0), .second, .val (.long x1), .second] [] := by first | (simp [entryFrame, mkF, argsToLocals, Value.category]; done) | rfl
def Q2 (Z : State) (q1 : Int64) (q2 : Int64) (h0 : Heap) (n0 : Nat) (v : Option Value) (h : Heap) (L : List Loc) : Prop := v = some (.long (if q1 < q2 then q2 else q1)) ∧ Fr n0 L ∧ h = h0
set_option maxRecDepth 65536 in
set_option maxHeartbeats 40000000 in
theorem rm2 (l : Launch) (Z : State) (a0 : Array Value) (hw : ∀ d ∈ tables_1, d.before a0 Z = true) (ws : List Jvm.Cond) (q1 : Int64) (q2 : Int64) (h0 : Heap) (n0 : Nat) (Z0 : n0 ≤ h0.size) :
    MetFree l (⟨"java/lang/Math", "max", "(JJ)J"⟩ : MethodName) (head1 (Jvm.Cond.code (⟨"java/lang/Math", "max", "(JJ)J"⟩ : MethodName) jdk_29_method_66_code 4 (some .long) :: ws) ({ frames := 0, cells := 0, slots := 0, locals := 0 } : Room)) (fun aS U => aS = #[(.long q1), (.long q2)] ∧ Z.Warmed39 U.vm ∧ U.heap = h0) (fun _ _ _ _ _ => True) (fun _ U o U' => ∃ v L, o = .returned v ∧ Q2 Z q1 q2 h0 n0 v U'.heap L ∧ FrameEnd U o U' L ({ frames := 0, cells := 0, slots := 0, locals := 0 } : Room).cells ({ frames := 0, cells := 0, slots := 0, locals := 0 } : Room).slots) := by
  refine MetFree.of_bodySF (Jvm.Free.JP.mathPlain rfl (by decide +kernel)) hisR ?_
  intro p e s m args below meth c s₁ Bd hml0 hP hK
  obtain ⟨rfl, hZ, hh⟩ := hP
  have hx := Bd.exec
  have hby := Bd.bytes
  have hml : c.maxLocals = 4 := hml0
  have hown : s.vm.findClass "java/lang/Math" = some m.cls := findClass_of_methodNamed Bd.named
  have hnm := (name_of_methodNamed Bd.named Bd.method).1
  have X0 : Stand p l e ({ frames := 0, cells := 0, slots := 0, locals := 0 } : Room) s m #[(.long q1), (.long q2)] below meth c s₁ [] 0 0 := Stand.of_body Bd
  have e0 : s₁.heap = h0 := by rw [← hh, Bd.state]; rfl
  have N0 := Fr.nil n0
  have Kh : Keep h0 h0 [] := Keep.refl _ _
  suffices H : own_R p e below (own_E s below (Q2 Z q1 q2 h0 n0) ({ frames := 0, cells := 0, slots := 0, locals := 0 } : Room).cells ({ frames := 0, cells := 0, slots := 0, locals := 0 } : Room).slots) s₁ (mkF m 0 #[.val (.long q1), .second, .val (.long q2), .second] []) by
    obtain ⟨t, hst, hrun, v, L, hend, hQ, hF⟩ := H
    exact ⟨t, _, castTop (ef_2 m q1 q2) hst, hrun, hend, v, L, rfl, hQ, hF⟩
  show own_R p e below _ s₁ (mkF m 0 #[.val (.long q1), .second, .val (.long q2), .second] [])
  refine own_go (fun t k => XS.lloadN X0.here hx rfl (hb hby d2_0) rfl  k) ?_
  show own_R p e below _ s₁ (mkF m 1 #[.val (.long q1), .second, .val (.long q2), .second] [(.long q1)])
  refine own_go (fun t k => XS.lloadN X0.here hx rfl (hb hby d2_1) rfl  k) ?_
  show own_R p e below _ s₁ (mkF m 2 #[.val (.long q1), .second, .val (.long q2), .second] [(.long q2), (.long q1)])
  refine own_go (fun t k => XS.lcmp X0.here hx rfl (hb hby d2_2) rfl k) ?_
  show own_R p e below _ s₁ (mkF m 3 #[.val (.long q1), .second, .val (.long q2), .second] [(.int (lcmpW q1 q2))])
  by_cases hc3_1 : (lcmpW q1 q2) < (0 : Int32)
  · -- pc 3: yes
    refine own_go (fun t k => XS.ifYes X0.here hx rfl (pc0 := 3) (pc' := 10) rfl (hb hby d2_3) rfl ((if0 _ _).trans (tlt hc3_1).1) (by decide) (by decide) k) ?_
    show own_R p e below _ s₁ (mkF m 10 #[.val (.long q1), .second, .val (.long q2), .second] [])
    refine own_go (fun t k => XS.lloadN X0.here hx rfl (hb hby d2_10) rfl  k) ?_
    show own_R p e below _ s₁ (mkF m 11 #[.val (.long q1), .second, .val (.long q2), .second] [(.long q2)])
    refine own_retW X0 hx Bd.returns rfl (Or.inr (Or.inl ⟨rfl, rfl, _, rfl⟩)) (BodyLoose.notSynchronized Bd) (hb hby d2_11) (by decide) (by decide) ?_
    exact ⟨by rw [if_pos ((lw_lt _ _).mp hc3_1)], N0, e0⟩
  · -- pc 3: no
    refine own_go (fun t k => XS.ifNo X0.here hx rfl (hb hby d2_3) rfl ((if0 _ _).trans (flt hc3_1).1) k) ?_
    show own_R p e below _ s₁ (mkF m 6 #[.val (.long q1), .second, .val (.long q2), .second] [])
    refine own_go (fun t k => XS.lloadN X0.here hx rfl (hb hby d2_6) rfl  k) ?_
    show own_R p e below _ s₁ (mkF m 7 #[.val (.long q1), .second, .val (.long q2), .second] [(.long q1)])
    refine own_go (fun t k => XS.goto X0.here hx rfl (pc0 := 7) (pc' := 11) rfl (hb hby d2_7) (by decide) (by decide) k) ?_
    show own_R p e below _ s₁ (mkF m 11 #[.val (.long q1), .second, .val (.long q2), .second] [(.long q1)])
    refine own_retW X0 hx Bd.returns rfl (Or.inr (Or.inl ⟨rfl, rfl, _, rfl⟩)) (BodyLoose.notSynchronized Bd) (hb hby d2_11) (by decide) (by decide) ?_
    exact ⟨by rw [if_neg (fun q => hc3_1 ((lw_lt _ _).mpr q))], N0, e0⟩
theorem d1_0 : decode prog_69_method_7_code 0 = .ok (.lload_n 0, 1) := by decide +kernel
theorem d1_1 : decode prog_69_method_7_code 1 = .ok (.ldc2_w 45, 3) := by decide +kernel
theorem d1_4 : decode prog_69_method_7_code 4 = .ok (.lmul, 1) := by decide +kernel
theorem d1_5 : decode prog_69_method_7_code 5 = .ok (.lload_n 2, 1) := by decide +kernel
theorem d1_6 : decode prog_69_method_7_code 6 = .ok (.ldc2_w 167, 3) := by decide +kernel
theorem d1_9 : decode prog_69_method_7_code 9 = .ok (.lmul, 1) := by decide +kernel
theorem d1_10 : decode prog_69_method_7_code 10 = .ok (.lcmp, 1) := by decide +kernel
theorem d1_11 : decode prog_69_method_7_code 11 = .ok (.ifCond .gt 7, 3) := by decide +kernel
theorem d1_14 : decode prog_69_method_7_code 14 = .ok (.iconst 1, 1) := by decide +kernel
theorem d1_15 : decode prog_69_method_7_code 15 = .ok (.goto 4, 3) := by decide +kernel
theorem d1_18 : decode prog_69_method_7_code 18 = .ok (.iconst 0, 1) := by decide +kernel
theorem d1_19 : decode prog_69_method_7_code 19 = .ok (.ireturn, 1) := by decide +kernel
theorem pn_0 : plainName site_74.cls = true := by first | (simp [plainName, overriddenIn]; done) | decide +kernel
theorem ef_1 (m : MethodId) (x0 : Int64) (x1 : Int64) : entryFrame m #[(.long x0), (.long x1)] 4 = mkF m 0 #[.val (.long x0), .second, .val (.long x1), .second] [] := by first | (simp [entryFrame, mkF, argsToLocals, Value.category]; done) | rfl
def Q1 (Z : State) (q1 : Int64) (q2 : Int64) (h0 : Heap) (n0 : Nat) (v : Option Value) (h : Heap) (L : List Loc) : Prop := v = some (.int (if q2 * (20 : Int64) < q1 * (100 : Int64) then (0 : Int32) else (1 : Int32))) ∧ Fr n0 L ∧ h = h0
set_option maxRecDepth 65536 in
set_option maxHeartbeats 40000000 in
theorem rm1 (l : Launch) (Z : State) (a0 : Array Value) (hw : ∀ d ∈ tables_1, d.before a0 Z = true) (ws : List Jvm.Cond) (q1 : Int64) (q2 : Int64) (h0 : Heap) (n0 : Nat) (Z0 : n0 ≤ h0.size) :
    MetFree l (⟨site_74.cls, "mayConfirm", "(JJ)Z"⟩ : MethodName) (head1 (Jvm.Cond.code (⟨site_74.cls, "mayConfirm", "(JJ)Z"⟩ : MethodName) prog_69_method_7_code 4 (some .boolean) :: ws) ({ frames := 0, cells := 0, slots := 0, locals := 0 } : Room)) (fun aS U => aS = #[(.long q1), (.long q2)] ∧ Z.Warmed39 U.vm ∧ U.heap = h0) (fun _ _ _ _ _ => True) (fun _ U o U' => ∃ v L, o = .returned v ∧ Q1 Z q1 q2 h0 n0 v U'.heap L ∧ FrameEnd U o U' L ({ frames := 0, cells := 0, slots := 0, locals := 0 } : Room).cells ({ frames := 0, cells := 0, slots := 0, locals := 0 } : Room).slots) := by
  refine MetFree.of_bodySF (plainFor_of_name pn_0) hisR ?_
  intro p e s m args below meth c s₁ Bd hml0 hP hK
  obtain ⟨rfl, hZ, hh⟩ := hP
  have hx := Bd.exec
  have hby := Bd.bytes
  have hml : c.maxLocals = 4 := hml0
  have hown : s.vm.findClass site_74.cls = some m.cls := findClass_of_methodNamed Bd.named
  have hnm := (name_of_methodNamed Bd.named Bd.method).1
  have X0 : Stand p l e ({ frames := 0, cells := 0, slots := 0, locals := 0 } : Room) s m #[(.long q1), (.long q2)] below meth c s₁ [] 0 0 := Stand.of_body Bd
  have e0 : s₁.heap = h0 := by rw [← hh, Bd.state]; rfl
  have N0 := Fr.nil n0
  have Kh : Keep h0 h0 [] := Keep.refl _ _
  suffices H : own_R p e below (own_E s below (Q1 Z q1 q2 h0 n0) ({ frames := 0, cells := 0, slots := 0, locals := 0 } : Room).cells ({ frames := 0, cells := 0, slots := 0, locals := 0 } : Room).slots) s₁ (mkF m 0 #[.val (.long q1), .second, .val (.long q2), .second] []) by
    obtain ⟨t, hst, hrun, v, L, hend, hQ, hF⟩ := H
    exact ⟨t, _, castTop (ef_1 m q1 q2) hst, hrun, hend, v, L, rfl, hQ, hF⟩
  show own_R p e below _ s₁ (mkF m 0 #[.val (.long q1), .second, .val (.long q2), .second] [])
  refine own_go (fun t k => XS.lloadN X0.here hx rfl (hb hby d1_0) rfl  k) ?_
  show own_R p e below _ s₁ (mkF m 1 #[.val (.long q1), .second, .val (.long q2), .second] [(.long q1)])
  refine own_go (X0.ldc2Long hx hown (mvT hZ (hw _ (List.mem_of_getElem? (i := 7) rfl))) (g := (mkF m 1 #[.val (.long q1), .second, .val (.long q2), .second] [(.long q1)])) rfl (hb hby d1_1)) ?_
  show own_R p e below _ s₁ (mkF m 4 #[.val (.long q1), .second, .val (.long q2), .second] [(.long (100 : Int64)), (.long q1)])
  refine own_go (fun t k => XS.lmul X0.here hx rfl (hb hby d1_4) rfl k) ?_
  show own_R p e below _ s₁ (mkF m 5 #[.val (.long q1), .second, .val (.long q2), .second] [(.long (q1 * (100 : Int64)))])
  refine own_go (fun t k => XS.lloadN X0.here hx rfl (hb hby d1_5) rfl  k) ?_
  show own_R p e below _ s₁ (mkF m 6 #[.val (.long q1), .second, .val (.long q2), .second] [(.long q2), (.long (q1 * (100 : Int64)))])
  refine own_go (X0.ldc2Long hx hown (mvT hZ (hw _ (List.mem_of_getElem? (i := 8) rfl))) (g := (mkF m 6 #[.val (.long q1), .second, .val (.long q2), .second] [(.long q2), (.long (q1 * (100 : Int64)))])) rfl (hb hby d1_6)) ?_
  show own_R p e below _ s₁ (mkF m 9 #[.val (.long q1), .second, .val (.long q2), .second] [(.long (20 : Int64)), (.long q2), (.long (q1 * (100 : Int64)))])
  refine own_go (fun t k => XS.lmul X0.here hx rfl (hb hby d1_9) rfl k) ?_
  show own_R p e below _ s₁ (mkF m 10 #[.val (.long q1), .second, .val (.long q2), .second] [(.long (q2 * (20 : Int64))), (.long (q1 * (100 : Int64)))])
  refine own_go (fun t k => XS.lcmp X0.here hx rfl (hb hby d1_10) rfl k) ?_
  show own_R p e below _ s₁ (mkF m 11 #[.val (.long q1), .second, .val (.long q2), .second] [(.int (lcmpW (q1 * (100 : Int64)) (q2 * (20 : Int64))))])
  by_cases hc11_1 : (0 : Int32) < (lcmpW (q1 * (100 : Int64)) (q2 * (20 : Int64)))
  · -- pc 11: yes
    refine own_go (fun t k => XS.ifYes X0.here hx rfl (pc0 := 11) (pc' := 18) rfl (hb hby d1_11) rfl ((if0 _ _).trans (tlt hc11_1).2.2.1) (by decide) (by decide) k) ?_
    show own_R p e below _ s₁ (mkF m 18 #[.val (.long q1), .second, .val (.long q2), .second] [])
    refine own_go (fun t k => XS.iconst X0.here hx rfl (hb hby d1_18) k) ?_
    show own_R p e below _ s₁ (mkF m 19 #[.val (.long q1), .second, .val (.long q2), .second] [(.int (0 : Int32))])
    refine own_retN X0 hx Bd.returns (by simp) (BodyLoose.notSynchronized Bd) (hb hby d1_19) (by decide) (by decide) ?_
    exact ⟨by rw [if_pos ((lw_gt _ _).mp hc11_1)]; rfl, N0, e0⟩
  · -- pc 11: no
    refine own_go (fun t k => XS.ifNo X0.here hx rfl (hb hby d1_11) rfl ((if0 _ _).trans (flt hc11_1).2.2.1) k) ?_
    show own_R p e below _ s₁ (mkF m 14 #[.val (.long q1), .second, .val (.long q2), .second] [])
    refine own_go (fun t k => XS.iconst X0.here hx rfl (hb hby d1_14) k) ?_
    show own_R p e below _ s₁ (mkF m 15 #[.val (.long q1), .second, .val (.long q2), .second] [(.int (1 : Int32))])
    refine own_go (fun t k => XS.goto X0.here hx rfl (pc0 := 15) (pc' := 19) rfl (hb hby d1_15) (by decide) (by decide) k) ?_
    show own_R p e below _ s₁ (mkF m 19 #[.val (.long q1), .second, .val (.long q2), .second] [(.int (1 : Int32))])
    refine own_retN X0 hx Bd.returns (by simp) (BodyLoose.notSynchronized Bd) (hb hby d1_19) (by decide) (by decide) ?_
    exact ⟨by rw [if_neg (fun q => hc11_1 ((lw_gt _ _).mpr q))]; rfl, N0, e0⟩
theorem own_near (q1 : Int64) (p3 : Int32) (cc rr : Int64) (hcc : cc = (q1 &&& (18014398509481983 : Int64)))
    (hrr : rr = (if (0 : Int64) < ((cc * (5 : Int64)) + (((((p3.toUInt32 >>> ((1 : Int32) &&& 31).toUInt32).toInt32) &&& (7 : Int32)) - (3 : Int32)).toInt64)) then ((cc * (5 : Int64)) + (((((p3.toUInt32 >>> ((1 : Int32) &&& 31).toUInt32).toInt32) &&& (7 : Int32)) - (3 : Int32)).toInt64)) else (0 : Int64))) : 0 ≤ rr.toInt ∧ rr.toInt < 288230376151711744 := by
  have bc := c_maskL q1 18014398509481983 54 (by decide) rfl
  rw [← hcc] at bc
  generalize hy : ((p3.toUInt32 >>> ((1 : Int32) &&& 31).toUInt32).toInt32) = y at hrr
  have d1 := c_mask y 7 3 (by decide) rfl
  have d2 := c_isub (y &&& 7) 3
  have d3 := c_i2l ((y &&& 7) - 3)
  have d4 := rng32 ((y &&& 7) - 3)
  have e1 := c_lmul cc 5
  have e2 := rng64 (cc * 5)
  have e3 := c_ladd (cc * 5) (((y &&& 7) - 3).toInt64)
  have e4 := rng64 ((cc * 5) + ((y &&& 7) - 3).toInt64)
  have k1 : (3 : Int32).toInt = 3 := rfl
  have k2 : (5 : Int64).toInt = 5 := rfl
  have k3 : (0 : Int64).toInt = 0 := rfl
  rw [k1] at d2
  rw [k2] at e1
  have f1 : (cc * 5).toInt = cc.toInt * 5 := by omega
  have f2 : ((y &&& 7) - 3).toInt = (y &&& 7).toInt - 3 := by omega
  have f3 : ((cc * 5) + ((y &&& 7) - 3).toInt64).toInt = cc.toInt * 5 + ((y &&& 7).toInt - 3) := by omega
  rw [hrr]
  split
  · rename_i h
    rw [Int64.lt_iff_toInt_lt] at h
    omega
  · rw [k3]; omega
theorem pn_1 : plainName x.cls = true := by first | (simp [plainName, overriddenIn]; done) | decide +kernel
theorem ef_0 (m : MethodId) (x0 : Int64) (x1 : Int64) (x2 : Int32) : entryFrame m #[(.long x0), (.long x1), (.int x2)] maxLocals = mkF m 0 #[.val (.long x0), .second, .val (.long x1), .second, .val (.int x2), .unset, .unset, .unset, .unset, .unset, .unset] [] := by first | (simp [entryFrame, mkF, argsToLocals, Value.category, maxLocals]; done) | rfl
def Q0 (Z : State) (q1 : Int64) (q2 : Int64) (p3 : Int32) (h0 : Heap) (n0 : Nat) (v : Option Value) (h : Heap) (L : List Loc) : Prop := v = some (.int (1 : Int32)) ∧ Fr n0 L
set_option maxRecDepth 65536 in
set_option maxHeartbeats 40000000 in
theorem rm0 (l : Launch) (Z : State) (a0 : Array Value) (hw : ∀ d ∈ tables_1, d.before a0 Z = true) (ws : List Jvm.Cond) (q1 : Int64) (q2 : Int64) (p3 : Int32) (h0 : Heap) (n0 : Nat) (Z0 : n0 ≤ h0.size) :
    MetFree l x (head1 (Jvm.Cond.code x code maxLocals ret :: ws) room_1) (fun aS U => aS = #[(.long q1), (.long q2), (.int p3)] ∧ Z.Warmed39 U.vm ∧ U.heap = h0) (fun _ _ _ _ _ => True) (fun _ U o U' => ∃ v L, o = .returned v ∧ Q0 Z q1 q2 p3 h0 n0 v U'.heap L ∧ FrameEnd U o U' L room_1.cells room_1.slots) := by
  refine MetFree.of_bodySF (plainFor_of_name pn_1) hisR ?_
  intro p e s m args below meth c s₁ Bd hml0 hP hK
  obtain ⟨rfl, hZ, hh⟩ := hP
  have hx := Bd.exec
  have hby := Bd.bytes
  have hml : c.maxLocals = 11 := hml0
  have hown : s.vm.findClass x.cls = some m.cls := findClass_of_methodNamed Bd.named
  have hnm := (name_of_methodNamed Bd.named Bd.method).1
  have X0 : Stand p l e room_1 s m #[(.long q1), (.long q2), (.int p3)] below meth c s₁ [] 0 0 := Stand.of_body Bd
  have e0 : s₁.heap = h0 := by rw [← hh, Bd.state]; rfl
  have N0 := Fr.nil n0
  have Kh : Keep h0 h0 [] := Keep.refl _ _
  suffices H : own_R p e below (own_E s below (Q0 Z q1 q2 p3 h0 n0) room_1.cells room_1.slots) s₁ (mkF m 0 #[.val (.long q1), .second, .val (.long q2), .second, .val (.int p3), .unset, .unset, .unset, .unset, .unset, .unset] []) by
    obtain ⟨t, hst, hrun, v, L, hend, hQ, hF⟩ := H
    exact ⟨t, _, castTop (ef_0 m q1 q2 p3) hst, hrun, hend, v, L, rfl, hQ, hF⟩
  show own_R p e below _ s₁ (mkF m 0 #[.val (.long q1), .second, .val (.long q2), .second, .val (.int p3), .unset, .unset, .unset, .unset, .unset, .unset] [])
  refine own_go (fun t k => XS.lloadN X0.here hx rfl (hb hby at_0) rfl  k) ?_
  show own_R p e below _ s₁ (mkF m 1 #[.val (.long q1), .second, .val (.long q2), .second, .val (.int p3), .unset, .unset, .unset, .unset, .unset, .unset] [(.long q1)])
  refine own_go (X0.ldc2Long hx hown (mvT hZ (hw _ (List.mem_of_getElem? (i := 0) rfl))) (g := (mkF m 1 #[.val (.long q1), .second, .val (.long q2), .second, .val (.int p3), .unset, .unset, .unset, .unset, .unset, .unset] [(.long q1)])) rfl (hb hby at_1)) ?_
  show own_R p e below _ s₁ (mkF m 4 #[.val (.long q1), .second, .val (.long q2), .second, .val (.int p3), .unset, .unset, .unset, .unset, .unset, .unset] [(.long (18014398509481983 : Int64)), (.long q1)])
  refine own_go (fun t k => XS.land X0.here hx rfl (hb hby at_4) rfl k) ?_
  show own_R p e below _ s₁ (mkF m 5 #[.val (.long q1), .second, .val (.long q2), .second, .val (.int p3), .unset, .unset, .unset, .unset, .unset, .unset] [(.long (q1 &&& (18014398509481983 : Int64)))])
  refine own_go (fun t k => XS.lstore X0.here hx rfl (hb hby at_5) rfl (l' := #[.val (.long q1), .second, .val (.long q2), .second, .val (.int p3), .val (.long (q1 &&& (18014398509481983 : Int64))), .second, .unset, .unset, .unset, .unset]) rfl k) ?_
  show own_R p e below _ s₁ (mkF m 7 #[.val (.long q1), .second, .val (.long q2), .second, .val (.int p3), .val (.long (q1 &&& (18014398509481983 : Int64))), .second, .unset, .unset, .unset, .unset] [])
  obtain ⟨cc, hcc⟩ : ∃ z, z = (q1 &&& (18014398509481983 : Int64)) := ⟨_, rfl⟩
  rw [← hcc]
  show own_R p e below _ s₁ (mkF m 7 #[.val (.long q1), .second, .val (.long q2), .second, .val (.int p3), .val (.long cc), .second, .unset, .unset, .unset, .unset] [])
  have bc := c_maskL q1 18014398509481983 54 (by decide) rfl
  rw [← hcc] at bc
  refine own_go (fun t k => XS.iload X0.here hx rfl (hb hby at_7) rfl  k) ?_
  show own_R p e below _ s₁ (mkF m 9 #[.val (.long q1), .second, .val (.long q2), .second, .val (.int p3), .val (.long cc), .second, .unset, .unset, .unset, .unset] [(.int p3)])
  refine own_go (fun t k => XS.iconst X0.here hx rfl (hb hby at_9) k) ?_
  show own_R p e below _ s₁ (mkF m 10 #[.val (.long q1), .second, .val (.long q2), .second, .val (.int p3), .val (.long cc), .second, .unset, .unset, .unset, .unset] [(.int (1 : Int32)), (.int p3)])
  refine own_go (fun t k => XS.iand X0.here hx rfl (hb hby at_10) rfl k) ?_
  show own_R p e below _ s₁ (mkF m 11 #[.val (.long q1), .second, .val (.long q2), .second, .val (.int p3), .val (.long cc), .second, .unset, .unset, .unset, .unset] [(.int (p3 &&& (1 : Int32)))])
  by_cases hc11_1 : (p3 &&& (1 : Int32)) = (0 : Int32)
  · -- pc 11: yes
    refine own_go (fun t k => XS.ifYes X0.here hx rfl (pc0 := 11) (pc' := 44) rfl (hb hby at_11) rfl ((if0 _ _).trans (teq hc11_1).1) (by decide) (by decide) k) ?_
    show own_R p e below _ s₁ (mkF m 44 #[.val (.long q1), .second, .val (.long q2), .second, .val (.int p3), .val (.long cc), .second, .unset, .unset, .unset, .unset] [])
    refine own_go (fun t k => XS.lloadN X0.here hx rfl (hb hby at_44) rfl  k) ?_
    show own_R p e below _ s₁ (mkF m 45 #[.val (.long q1), .second, .val (.long q2), .second, .val (.int p3), .val (.long cc), .second, .unset, .unset, .unset, .unset] [(.long q2)])
    refine own_go (X0.ldc2Long hx hown (mvT hZ (hw _ (List.mem_of_getElem? (i := 1) rfl))) (g := (mkF m 45 #[.val (.long q1), .second, .val (.long q2), .second, .val (.int p3), .val (.long cc), .second, .unset, .unset, .unset, .unset] [(.long q2)])) rfl (hb hby at_45)) ?_
    show own_R p e below _ s₁ (mkF m 48 #[.val (.long q1), .second, .val (.long q2), .second, .val (.int p3), .val (.long cc), .second, .unset, .unset, .unset, .unset] [(.long (72057594037927935 : Int64)), (.long q2)])
    refine own_go (fun t k => XS.land X0.here hx rfl (hb hby at_48) rfl k) ?_
    show own_R p e below _ s₁ (mkF m 49 #[.val (.long q1), .second, .val (.long q2), .second, .val (.int p3), .val (.long cc), .second, .unset, .unset, .unset, .unset] [(.long (q2 &&& (72057594037927935 : Int64)))])
    refine own_go (fun t k => XS.lstore X0.here hx rfl (hb hby at_49) rfl (l' := #[.val (.long q1), .second, .val (.long q2), .second, .val (.int p3), .val (.long cc), .second, .val (.long (q2 &&& (72057594037927935 : Int64))), .second, .unset, .unset]) rfl k) ?_
    show own_R p e below _ s₁ (mkF m 51 #[.val (.long q1), .second, .val (.long q2), .second, .val (.int p3), .val (.long cc), .second, .val (.long (q2 &&& (72057594037927935 : Int64))), .second, .unset, .unset] [])
    obtain ⟨rr, hrr⟩ : ∃ z, z = (q2 &&& (72057594037927935 : Int64)) := ⟨_, rfl⟩
    rw [← hrr]
    show own_R p e below _ s₁ (mkF m 51 #[.val (.long q1), .second, .val (.long q2), .second, .val (.int p3), .val (.long cc), .second, .val (.long rr), .second, .unset, .unset] [])
    have br : 0 ≤ rr.toInt ∧ rr.toInt < 288230376151711744 := by
      have h := c_maskL q2 72057594037927935 56 (by decide) rfl
      rw [hrr]; omega
    have lw := own_law cc rr (by omega) (by omega) br.1 br.2
    refine own_go (fun t k => XS.lload X0.here hx rfl (hb hby at_51) rfl  k) ?_
    show own_R p e below _ s₁ (mkF m 53 #[.val (.long q1), .second, .val (.long q2), .second, .val (.int p3), .val (.long cc), .second, .val (.long rr), .second, .unset, .unset] [(.long cc)])
    refine own_go (fun t k => XS.lload X0.here hx rfl (hb hby at_53) rfl  k) ?_
    show own_R p e below _ s₁ (mkF m 55 #[.val (.long q1), .second, .val (.long q2), .second, .val (.int p3), .val (.long cc), .second, .val (.long rr), .second, .unset, .unset] [(.long rr), (.long cc)])
    refine own_go (X0.ldc2Long hx hown (mvT hZ (hw _ (List.mem_of_getElem? (i := 2) rfl))) (g := (mkF m 55 #[.val (.long q1), .second, .val (.long q2), .second, .val (.int p3), .val (.long cc), .second, .val (.long rr), .second, .unset, .unset] [(.long rr), (.long cc)])) rfl (hb hby at_55)) ?_
    show own_R p e below _ s₁ (mkF m 58 #[.val (.long q1), .second, .val (.long q2), .second, .val (.int p3), .val (.long cc), .second, .val (.long rr), .second, .unset, .unset] [(.long (5 : Int64)), (.long rr), (.long cc)])
    refine own_go (fun t k => XS.ldiv X0.here hx rfl (hb hby at_58) rfl (by decide) k) ?_
    show own_R p e below _ s₁ (mkF m 59 #[.val (.long q1), .second, .val (.long q2), .second, .val (.int p3), .val (.long cc), .second, .val (.long rr), .second, .unset, .unset] [(.long (rr / (5 : Int64))), (.long cc)])
    refine own_go (fun t k => XS.lcmp X0.here hx rfl (hb hby at_59) rfl k) ?_
    show own_R p e below _ s₁ (mkF m 60 #[.val (.long q1), .second, .val (.long q2), .second, .val (.int p3), .val (.long cc), .second, .val (.long rr), .second, .unset, .unset] [(.int (lcmpW cc (rr / (5 : Int64))))])
    by_cases hc60_2 : (0 : Int32) < (lcmpW cc (rr / (5 : Int64)))
    · -- pc 60: yes
      refine own_go (fun t k => XS.ifYes X0.here hx rfl (pc0 := 60) (pc' := 67) rfl (hb hby at_60) rfl ((if0 _ _).trans (tlt hc60_2).2.2.1) (by decide) (by decide) k) ?_
      show own_R p e below _ s₁ (mkF m 67 #[.val (.long q1), .second, .val (.long q2), .second, .val (.int p3), .val (.long cc), .second, .val (.long rr), .second, .unset, .unset] [])
      refine own_go (fun t k => XS.iconst X0.here hx rfl (hb hby at_67) k) ?_
      show own_R p e below _ s₁ (mkF m 68 #[.val (.long q1), .second, .val (.long q2), .second, .val (.int p3), .val (.long cc), .second, .val (.long rr), .second, .unset, .unset] [(.int (0 : Int32))])
      refine own_go (fun t k => XS.istore X0.here hx rfl (hb hby at_68) rfl (l' := #[.val (.long q1), .second, .val (.long q2), .second, .val (.int p3), .val (.long cc), .second, .val (.long rr), .second, .val (.int (0 : Int32)), .unset]) rfl k) ?_
      show own_R p e below _ s₁ (mkF m 70 #[.val (.long q1), .second, .val (.long q2), .second, .val (.int p3), .val (.long cc), .second, .val (.long rr), .second, .val (.int (0 : Int32)), .unset] [])
      refine own_go (fun t k => XS.lload X0.here hx rfl (hb hby at_70) rfl  k) ?_
      show own_R p e below _ s₁ (mkF m 72 #[.val (.long q1), .second, .val (.long q2), .second, .val (.int p3), .val (.long cc), .second, .val (.long rr), .second, .val (.int (0 : Int32)), .unset] [(.long cc)])
      refine own_go (fun t k => XS.lload X0.here hx rfl (hb hby at_72) rfl  k) ?_
      show own_R p e below _ s₁ (mkF m 74 #[.val (.long q1), .second, .val (.long q2), .second, .val (.int p3), .val (.long cc), .second, .val (.long rr), .second, .val (.int (0 : Int32)), .unset] [(.long rr), (.long cc)])
      obtain ⟨_, _, ⟨T3, L3, k3, n3⟩, -, X3, ⟨Lc3, hQ3, l3, y3, z3⟩, st3⟩ := Jvm.LawKit.callS X0 hx (y := (⟨site_74.cls, "mayConfirm", "(JJ)Z"⟩ : MethodName)) hown (mvT hZ (hw _ (List.mem_of_getElem? (i := 3) rfl))) (mvT hZ (hw _ (List.mem_of_getElem? (i := 4) rfl))) (mvT hZ (hw _ (List.mem_of_getElem? (i := 5) rfl))) (mvT hZ (hw _ (List.mem_of_getElem? (i := 6) rfl))) (by decide) (backOf (W := 0) (rm1 l Z a0 hw [] cc rr h0 n0 (Nat.le_trans Z0 Kh.1)) hZ (hw _ (List.mem_of_getElem? (i := 6) rfl)) (hw _ (List.mem_of_getElem? (i := 5) rfl)) (by decide) (by decide)) (g := (mkF m 74 #[.val (.long q1), .second, .val (.long q2), .second, .val (.int p3), .val (.long cc), .second, .val (.long rr), .second, .val (.int (0 : Int32)), .unset] [(.long rr), (.long cc)])) rfl (by rw [hml]; rfl) (argsL := [(.long cc), (.long rr)]) (rest := []) (lenOf pd_0 rfl) rfl (by show 2 * 0 + _ ≤ _; exact Nat.le_of_eq rfl) (hb hby at_74) (fun _ _ => ⟨rfl, e0, (by decide : 0 + 0 ≤ _), (by decide : 0 + 0 ≤ _)⟩)
      dsimp only [Pt.U, Pt.locs, Pt.cells, Pt.slots] at X3 l3 y3 z3 st3 hQ3
      subst l3 y3 z3
      obtain ⟨rfl, Nq3, e3⟩ := hQ3
      have N3 := Fr.app N0 Nq3
      refine own_go (st3) ?_
      show own_R p e below _ T3 (mkF m 77 #[.val (.long q1), .second, .val (.long q2), .second, .val (.int p3), .val (.long cc), .second, .val (.long rr), .second, .val (.int (0 : Int32)), .unset] [(.int (if rr * (20 : Int64) < cc * (100 : Int64) then (0 : Int32) else (1 : Int32)))])
      refine own_go (fun t k => XS.iload X3.here hx rfl (hb hby at_77) rfl  k) ?_
      show own_R p e below _ T3 (mkF m 79 #[.val (.long q1), .second, .val (.long q2), .second, .val (.int p3), .val (.long cc), .second, .val (.long rr), .second, .val (.int (0 : Int32)), .unset] [(.int (0 : Int32)), (.int (if rr * (20 : Int64) < cc * (100 : Int64) then (0 : Int32) else (1 : Int32)))])
      refine own_go (fun t k => XS.icmpNo X3.here hx rfl (hb hby at_79) rfl (teq (if_pos (lw.mpr ((lw_gt _ _).mp hc60_2)))).2 k) ?_
      show own_R p e below _ T3 (mkF m 82 #[.val (.long q1), .second, .val (.long q2), .second, .val (.int p3), .val (.long cc), .second, .val (.long rr), .second, .val (.int (0 : Int32)), .unset] [])
      refine own_go (fun t k => XS.iconst X3.here hx rfl (hb hby at_82) k) ?_
      show own_R p e below _ T3 (mkF m 83 #[.val (.long q1), .second, .val (.long q2), .second, .val (.int p3), .val (.long cc), .second, .val (.long rr), .second, .val (.int (0 : Int32)), .unset] [(.int (1 : Int32))])
      refine own_go (fun t k => XS.goto X3.here hx rfl (pc0 := 83) (pc' := 87) rfl (hb hby at_83) (by decide) (by decide) k) ?_
      show own_R p e below _ T3 (mkF m 87 #[.val (.long q1), .second, .val (.long q2), .second, .val (.int p3), .val (.long cc), .second, .val (.long rr), .second, .val (.int (0 : Int32)), .unset] [(.int (1 : Int32))])
      refine own_retN X3 hx Bd.returns (by simp) (BodyLoose.notSynchronized Bd) (hb hby at_87) (by decide) (by decide) ?_
      exact ⟨rfl, N3⟩
    · -- pc 60: no
      refine own_go (fun t k => XS.ifNo X0.here hx rfl (hb hby at_60) rfl ((if0 _ _).trans (flt hc60_2).2.2.1) k) ?_
      show own_R p e below _ s₁ (mkF m 63 #[.val (.long q1), .second, .val (.long q2), .second, .val (.int p3), .val (.long cc), .second, .val (.long rr), .second, .unset, .unset] [])
      refine own_go (fun t k => XS.iconst X0.here hx rfl (hb hby at_63) k) ?_
      show own_R p e below _ s₁ (mkF m 64 #[.val (.long q1), .second, .val (.long q2), .second, .val (.int p3), .val (.long cc), .second, .val (.long rr), .second, .unset, .unset] [(.int (1 : Int32))])
      refine own_go (fun t k => XS.goto X0.here hx rfl (pc0 := 64) (pc' := 68) rfl (hb hby at_64) (by decide) (by decide) k) ?_
      show own_R p e below _ s₁ (mkF m 68 #[.val (.long q1), .second, .val (.long q2), .second, .val (.int p3), .val (.long cc), .second, .val (.long rr), .second, .unset, .unset] [(.int (1 : Int32))])
      refine own_go (fun t k => XS.istore X0.here hx rfl (hb hby at_68) rfl (l' := #[.val (.long q1), .second, .val (.long q2), .second, .val (.int p3), .val (.long cc), .second, .val (.long rr), .second, .val (.int (1 : Int32)), .unset]) rfl k) ?_
      show own_R p e below _ s₁ (mkF m 70 #[.val (.long q1), .second, .val (.long q2), .second, .val (.int p3), .val (.long cc), .second, .val (.long rr), .second, .val (.int (1 : Int32)), .unset] [])
      refine own_go (fun t k => XS.lload X0.here hx rfl (hb hby at_70) rfl  k) ?_
      show own_R p e below _ s₁ (mkF m 72 #[.val (.long q1), .second, .val (.long q2), .second, .val (.int p3), .val (.long cc), .second, .val (.long rr), .second, .val (.int (1 : Int32)), .unset] [(.long cc)])
      refine own_go (fun t k => XS.lload X0.here hx rfl (hb hby at_72) rfl  k) ?_
      show own_R p e below _ s₁ (mkF m 74 #[.val (.long q1), .second, .val (.long q2), .second, .val (.int p3), .val (.long cc), .second, .val (.long rr), .second, .val (.int (1 : Int32)), .unset] [(.long rr), (.long cc)])
      obtain ⟨_, _, ⟨T4, L4, k4, n4⟩, -, X4, ⟨Lc4, hQ4, l4, y4, z4⟩, st4⟩ := Jvm.LawKit.callS X0 hx (y := (⟨site_74.cls, "mayConfirm", "(JJ)Z"⟩ : MethodName)) hown (mvT hZ (hw _ (List.mem_of_getElem? (i := 3) rfl))) (mvT hZ (hw _ (List.mem_of_getElem? (i := 4) rfl))) (mvT hZ (hw _ (List.mem_of_getElem? (i := 5) rfl))) (mvT hZ (hw _ (List.mem_of_getElem? (i := 6) rfl))) (by decide) (backOf (W := 0) (rm1 l Z a0 hw [] cc rr h0 n0 (Nat.le_trans Z0 Kh.1)) hZ (hw _ (List.mem_of_getElem? (i := 6) rfl)) (hw _ (List.mem_of_getElem? (i := 5) rfl)) (by decide) (by decide)) (g := (mkF m 74 #[.val (.long q1), .second, .val (.long q2), .second, .val (.int p3), .val (.long cc), .second, .val (.long rr), .second, .val (.int (1 : Int32)), .unset] [(.long rr), (.long cc)])) rfl (by rw [hml]; rfl) (argsL := [(.long cc), (.long rr)]) (rest := []) (lenOf pd_0 rfl) rfl (by show 2 * 0 + _ ≤ _; exact Nat.le_of_eq rfl) (hb hby at_74) (fun _ _ => ⟨rfl, e0, (by decide : 0 + 0 ≤ _), (by decide : 0 + 0 ≤ _)⟩)
      dsimp only [Pt.U, Pt.locs, Pt.cells, Pt.slots] at X4 l4 y4 z4 st4 hQ4
      subst l4 y4 z4
      obtain ⟨rfl, Nq4, e4⟩ := hQ4
      have N4 := Fr.app N0 Nq4
      refine own_go (st4) ?_
      show own_R p e below _ T4 (mkF m 77 #[.val (.long q1), .second, .val (.long q2), .second, .val (.int p3), .val (.long cc), .second, .val (.long rr), .second, .val (.int (1 : Int32)), .unset] [(.int (if rr * (20 : Int64) < cc * (100 : Int64) then (0 : Int32) else (1 : Int32)))])
      refine own_go (fun t k => XS.iload X4.here hx rfl (hb hby at_77) rfl  k) ?_
      show own_R p e below _ T4 (mkF m 79 #[.val (.long q1), .second, .val (.long q2), .second, .val (.int p3), .val (.long cc), .second, .val (.long rr), .second, .val (.int (1 : Int32)), .unset] [(.int (1 : Int32)), (.int (if rr * (20 : Int64) < cc * (100 : Int64) then (0 : Int32) else (1 : Int32)))])
      refine own_go (fun t k => XS.icmpNo X4.here hx rfl (hb hby at_79) rfl (teq (if_neg (fun q => hc60_2 ((lw_gt _ _).mpr (lw.mp q))))).2 k) ?_
      show own_R p e below _ T4 (mkF m 82 #[.val (.long q1), .second, .val (.long q2), .second, .val (.int p3), .val (.long cc), .second, .val (.long rr), .second, .val (.int (1 : Int32)), .unset] [])
      refine own_go (fun t k => XS.iconst X4.here hx rfl (hb hby at_82) k) ?_
      show own_R p e below _ T4 (mkF m 83 #[.val (.long q1), .second, .val (.long q2), .second, .val (.int p3), .val (.long cc), .second, .val (.long rr), .second, .val (.int (1 : Int32)), .unset] [(.int (1 : Int32))])
      refine own_go (fun t k => XS.goto X4.here hx rfl (pc0 := 83) (pc' := 87) rfl (hb hby at_83) (by decide) (by decide) k) ?_
      show own_R p e below _ T4 (mkF m 87 #[.val (.long q1), .second, .val (.long q2), .second, .val (.int p3), .val (.long cc), .second, .val (.long rr), .second, .val (.int (1 : Int32)), .unset] [(.int (1 : Int32))])
      refine own_retN X4 hx Bd.returns (by simp) (BodyLoose.notSynchronized Bd) (hb hby at_87) (by decide) (by decide) ?_
      exact ⟨rfl, N4⟩
  · -- pc 11: no
    refine own_go (fun t k => XS.ifNo X0.here hx rfl (hb hby at_11) rfl ((if0 _ _).trans (feq hc11_1).1) k) ?_
    show own_R p e below _ s₁ (mkF m 14 #[.val (.long q1), .second, .val (.long q2), .second, .val (.int p3), .val (.long cc), .second, .unset, .unset, .unset, .unset] [])
    refine own_go (fun t k => XS.iload X0.here hx rfl (hb hby at_14) rfl  k) ?_
    show own_R p e below _ s₁ (mkF m 16 #[.val (.long q1), .second, .val (.long q2), .second, .val (.int p3), .val (.long cc), .second, .unset, .unset, .unset, .unset] [(.int p3)])
    refine own_go (fun t k => XS.iconst X0.here hx rfl (hb hby at_16) k) ?_
    show own_R p e below _ s₁ (mkF m 17 #[.val (.long q1), .second, .val (.long q2), .second, .val (.int p3), .val (.long cc), .second, .unset, .unset, .unset, .unset] [(.int (1 : Int32)), (.int p3)])
    refine own_go (fun t k => XS.iushr X0.here hx rfl (hb hby at_17) rfl k) ?_
    show own_R p e below _ s₁ (mkF m 18 #[.val (.long q1), .second, .val (.long q2), .second, .val (.int p3), .val (.long cc), .second, .unset, .unset, .unset, .unset] [(.int ((p3.toUInt32 >>> ((1 : Int32) &&& 31).toUInt32).toInt32))])
    refine own_go (fun t k => XS.bipush X0.here hx rfl (hb hby at_18) k) ?_
    show own_R p e below _ s₁ (mkF m 20 #[.val (.long q1), .second, .val (.long q2), .second, .val (.int p3), .val (.long cc), .second, .unset, .unset, .unset, .unset] [(.int (7 : Int32)), (.int ((p3.toUInt32 >>> ((1 : Int32) &&& 31).toUInt32).toInt32))])
    refine own_go (fun t k => XS.iand X0.here hx rfl (hb hby at_20) rfl k) ?_
    show own_R p e below _ s₁ (mkF m 21 #[.val (.long q1), .second, .val (.long q2), .second, .val (.int p3), .val (.long cc), .second, .unset, .unset, .unset, .unset] [(.int (((p3.toUInt32 >>> ((1 : Int32) &&& 31).toUInt32).toInt32) &&& (7 : Int32)))])
    refine own_go (fun t k => XS.iconst X0.here hx rfl (hb hby at_21) k) ?_
    show own_R p e below _ s₁ (mkF m 22 #[.val (.long q1), .second, .val (.long q2), .second, .val (.int p3), .val (.long cc), .second, .unset, .unset, .unset, .unset] [(.int (3 : Int32)), (.int (((p3.toUInt32 >>> ((1 : Int32) &&& 31).toUInt32).toInt32) &&& (7 : Int32)))])
    refine own_go (fun t k => XS.isub X0.here hx rfl (hb hby at_22) rfl k) ?_
    show own_R p e below _ s₁ (mkF m 23 #[.val (.long q1), .second, .val (.long q2), .second, .val (.int p3), .val (.long cc), .second, .unset, .unset, .unset, .unset] [(.int ((((p3.toUInt32 >>> ((1 : Int32) &&& 31).toUInt32).toInt32) &&& (7 : Int32)) - (3 : Int32)))])
    refine own_go (fun t k => XS.i2l X0.here hx rfl (hb hby at_23) rfl k) ?_
    show own_R p e below _ s₁ (mkF m 24 #[.val (.long q1), .second, .val (.long q2), .second, .val (.int p3), .val (.long cc), .second, .unset, .unset, .unset, .unset] [(.long (((((p3.toUInt32 >>> ((1 : Int32) &&& 31).toUInt32).toInt32) &&& (7 : Int32)) - (3 : Int32)).toInt64))])
    refine own_go (fun t k => XS.lstore X0.here hx rfl (hb hby at_24) rfl (l' := #[.val (.long q1), .second, .val (.long q2), .second, .val (.int p3), .val (.long cc), .second, .unset, .unset, .val (.long (((((p3.toUInt32 >>> ((1 : Int32) &&& 31).toUInt32).toInt32) &&& (7 : Int32)) - (3 : Int32)).toInt64)), .second]) rfl k) ?_
    show own_R p e below _ s₁ (mkF m 26 #[.val (.long q1), .second, .val (.long q2), .second, .val (.int p3), .val (.long cc), .second, .unset, .unset, .val (.long (((((p3.toUInt32 >>> ((1 : Int32) &&& 31).toUInt32).toInt32) &&& (7 : Int32)) - (3 : Int32)).toInt64)), .second] [])
    refine own_go (fun t k => XS.lconst X0.here hx rfl (hb hby at_26) k) ?_
    show own_R p e below _ s₁ (mkF m 27 #[.val (.long q1), .second, .val (.long q2), .second, .val (.int p3), .val (.long cc), .second, .unset, .unset, .val (.long (((((p3.toUInt32 >>> ((1 : Int32) &&& 31).toUInt32).toInt32) &&& (7 : Int32)) - (3 : Int32)).toInt64)), .second] [(.long (0 : Int64))])
    refine own_go (fun t k => XS.lload X0.here hx rfl (hb hby at_27) rfl  k) ?_
    show own_R p e below _ s₁ (mkF m 29 #[.val (.long q1), .second, .val (.long q2), .second, .val (.int p3), .val (.long cc), .second, .unset, .unset, .val (.long (((((p3.toUInt32 >>> ((1 : Int32) &&& 31).toUInt32).toInt32) &&& (7 : Int32)) - (3 : Int32)).toInt64)), .second] [(.long cc), (.long (0 : Int64))])
    refine own_go (X0.ldc2Long hx hown (mvT hZ (hw _ (List.mem_of_getElem? (i := 2) rfl))) (g := (mkF m 29 #[.val (.long q1), .second, .val (.long q2), .second, .val (.int p3), .val (.long cc), .second, .unset, .unset, .val (.long (((((p3.toUInt32 >>> ((1 : Int32) &&& 31).toUInt32).toInt32) &&& (7 : Int32)) - (3 : Int32)).toInt64)), .second] [(.long cc), (.long (0 : Int64))])) rfl (hb hby at_29)) ?_
    show own_R p e below _ s₁ (mkF m 32 #[.val (.long q1), .second, .val (.long q2), .second, .val (.int p3), .val (.long cc), .second, .unset, .unset, .val (.long (((((p3.toUInt32 >>> ((1 : Int32) &&& 31).toUInt32).toInt32) &&& (7 : Int32)) - (3 : Int32)).toInt64)), .second] [(.long (5 : Int64)), (.long cc), (.long (0 : Int64))])
    refine own_go (fun t k => XS.lmul X0.here hx rfl (hb hby at_32) rfl k) ?_
    show own_R p e below _ s₁ (mkF m 33 #[.val (.long q1), .second, .val (.long q2), .second, .val (.int p3), .val (.long cc), .second, .unset, .unset, .val (.long (((((p3.toUInt32 >>> ((1 : Int32) &&& 31).toUInt32).toInt32) &&& (7 : Int32)) - (3 : Int32)).toInt64)), .second] [(.long (cc * (5 : Int64))), (.long (0 : Int64))])
    refine own_go (fun t k => XS.lload X0.here hx rfl (hb hby at_33) rfl  k) ?_
    show own_R p e below _ s₁ (mkF m 35 #[.val (.long q1), .second, .val (.long q2), .second, .val (.int p3), .val (.long cc), .second, .unset, .unset, .val (.long (((((p3.toUInt32 >>> ((1 : Int32) &&& 31).toUInt32).toInt32) &&& (7 : Int32)) - (3 : Int32)).toInt64)), .second] [(.long (((((p3.toUInt32 >>> ((1 : Int32) &&& 31).toUInt32).toInt32) &&& (7 : Int32)) - (3 : Int32)).toInt64)), (.long (cc * (5 : Int64))), (.long (0 : Int64))])
    refine own_go (fun t k => XS.ladd X0.here hx rfl (hb hby at_35) rfl k) ?_
    show own_R p e below _ s₁ (mkF m 36 #[.val (.long q1), .second, .val (.long q2), .second, .val (.int p3), .val (.long cc), .second, .unset, .unset, .val (.long (((((p3.toUInt32 >>> ((1 : Int32) &&& 31).toUInt32).toInt32) &&& (7 : Int32)) - (3 : Int32)).toInt64)), .second] [(.long ((cc * (5 : Int64)) + (((((p3.toUInt32 >>> ((1 : Int32) &&& 31).toUInt32).toInt32) &&& (7 : Int32)) - (3 : Int32)).toInt64))), (.long (0 : Int64))])
    obtain ⟨_, _, ⟨T5, L5, k5, n5⟩, -, X5, ⟨Lc5, hQ5, l5, y5, z5⟩, st5⟩ := Jvm.LawKit.callS X0 hx (y := (⟨"java/lang/Math", "max", "(JJ)J"⟩ : MethodName)) hown (mvT hZ (hw _ (List.mem_of_getElem? (i := 9) rfl))) (mvT hZ (hw _ (List.mem_of_getElem? (i := 10) rfl))) (mvT hZ (hw _ (List.mem_of_getElem? (i := 11) rfl))) (mvT hZ (hw _ (List.mem_of_getElem? (i := 12) rfl))) (by decide) (backOf (W := 0) (rm2 l Z a0 hw [] (0 : Int64) ((cc * (5 : Int64)) + (((((p3.toUInt32 >>> ((1 : Int32) &&& 31).toUInt32).toInt32) &&& (7 : Int32)) - (3 : Int32)).toInt64)) h0 n0 (Nat.le_trans Z0 Kh.1)) hZ (hw _ (List.mem_of_getElem? (i := 12) rfl)) (hw _ (List.mem_of_getElem? (i := 11) rfl)) (by decide) (by decide)) (g := (mkF m 36 #[.val (.long q1), .second, .val (.long q2), .second, .val (.int p3), .val (.long cc), .second, .unset, .unset, .val (.long (((((p3.toUInt32 >>> ((1 : Int32) &&& 31).toUInt32).toInt32) &&& (7 : Int32)) - (3 : Int32)).toInt64)), .second] [(.long ((cc * (5 : Int64)) + (((((p3.toUInt32 >>> ((1 : Int32) &&& 31).toUInt32).toInt32) &&& (7 : Int32)) - (3 : Int32)).toInt64))), (.long (0 : Int64))])) rfl (by rw [hml]; rfl) (argsL := [(.long (0 : Int64)), (.long ((cc * (5 : Int64)) + (((((p3.toUInt32 >>> ((1 : Int32) &&& 31).toUInt32).toInt32) &&& (7 : Int32)) - (3 : Int32)).toInt64)))]) (rest := []) (lenOf pd_1 rfl) rfl (by show 2 * 0 + _ ≤ _; exact Nat.le_of_eq rfl) (hb hby at_36) (fun _ _ => ⟨rfl, e0, (by decide : 0 + 0 ≤ _), (by decide : 0 + 0 ≤ _)⟩)
    dsimp only [Pt.U, Pt.locs, Pt.cells, Pt.slots] at X5 l5 y5 z5 st5 hQ5
    subst l5 y5 z5
    obtain ⟨rfl, Nq5, e5⟩ := hQ5
    have N5 := Fr.app N0 Nq5
    refine own_go (st5) ?_
    show own_R p e below _ T5 (mkF m 39 #[.val (.long q1), .second, .val (.long q2), .second, .val (.int p3), .val (.long cc), .second, .unset, .unset, .val (.long (((((p3.toUInt32 >>> ((1 : Int32) &&& 31).toUInt32).toInt32) &&& (7 : Int32)) - (3 : Int32)).toInt64)), .second] [(.long (if (0 : Int64) < ((cc * (5 : Int64)) + (((((p3.toUInt32 >>> ((1 : Int32) &&& 31).toUInt32).toInt32) &&& (7 : Int32)) - (3 : Int32)).toInt64)) then ((cc * (5 : Int64)) + (((((p3.toUInt32 >>> ((1 : Int32) &&& 31).toUInt32).toInt32) &&& (7 : Int32)) - (3 : Int32)).toInt64)) else (0 : Int64)))])
    refine own_go (fun t k => XS.lstore X5.here hx rfl (hb hby at_39) rfl (l' := #[.val (.long q1), .second, .val (.long q2), .second, .val (.int p3), .val (.long cc), .second, .val (.long (if (0 : Int64) < ((cc * (5 : Int64)) + (((((p3.toUInt32 >>> ((1 : Int32) &&& 31).toUInt32).toInt32) &&& (7 : Int32)) - (3 : Int32)).toInt64)) then ((cc * (5 : Int64)) + (((((p3.toUInt32 >>> ((1 : Int32) &&& 31).toUInt32).toInt32) &&& (7 : Int32)) - (3 : Int32)).toInt64)) else (0 : Int64))), .second, .val (.long (((((p3.toUInt32 >>> ((1 : Int32) &&& 31).toUInt32).toInt32) &&& (7 : Int32)) - (3 : Int32)).toInt64)), .second]) rfl k) ?_
    show own_R p e below _ T5 (mkF m 41 #[.val (.long q1), .second, .val (.long q2), .second, .val (.int p3), .val (.long cc), .second, .val (.long (if (0 : Int64) < ((cc * (5 : Int64)) + (((((p3.toUInt32 >>> ((1 : Int32) &&& 31).toUInt32).toInt32) &&& (7 : Int32)) - (3 : Int32)).toInt64)) then ((cc * (5 : Int64)) + (((((p3.toUInt32 >>> ((1 : Int32) &&& 31).toUInt32).toInt32) &&& (7 : Int32)) - (3 : Int32)).toInt64)) else (0 : Int64))), .second, .val (.long (((((p3.toUInt32 >>> ((1 : Int32) &&& 31).toUInt32).toInt32) &&& (7 : Int32)) - (3 : Int32)).toInt64)), .second] [])
    refine own_go (fun t k => XS.goto X5.here hx rfl (pc0 := 41) (pc' := 51) rfl (hb hby at_41) (by decide) (by decide) k) ?_
    show own_R p e below _ T5 (mkF m 51 #[.val (.long q1), .second, .val (.long q2), .second, .val (.int p3), .val (.long cc), .second, .val (.long (if (0 : Int64) < ((cc * (5 : Int64)) + (((((p3.toUInt32 >>> ((1 : Int32) &&& 31).toUInt32).toInt32) &&& (7 : Int32)) - (3 : Int32)).toInt64)) then ((cc * (5 : Int64)) + (((((p3.toUInt32 >>> ((1 : Int32) &&& 31).toUInt32).toInt32) &&& (7 : Int32)) - (3 : Int32)).toInt64)) else (0 : Int64))), .second, .val (.long (((((p3.toUInt32 >>> ((1 : Int32) &&& 31).toUInt32).toInt32) &&& (7 : Int32)) - (3 : Int32)).toInt64)), .second] [])
    obtain ⟨rr, hrr⟩ : ∃ z, z = (if (0 : Int64) < ((cc * (5 : Int64)) + (((((p3.toUInt32 >>> ((1 : Int32) &&& 31).toUInt32).toInt32) &&& (7 : Int32)) - (3 : Int32)).toInt64)) then ((cc * (5 : Int64)) + (((((p3.toUInt32 >>> ((1 : Int32) &&& 31).toUInt32).toInt32) &&& (7 : Int32)) - (3 : Int32)).toInt64)) else (0 : Int64)) := ⟨_, rfl⟩
    rw [← hrr]
    show own_R p e below _ T5 (mkF m 51 #[.val (.long q1), .second, .val (.long q2), .second, .val (.int p3), .val (.long cc), .second, .val (.long rr), .second, .val (.long (((((p3.toUInt32 >>> ((1 : Int32) &&& 31).toUInt32).toInt32) &&& (7 : Int32)) - (3 : Int32)).toInt64)), .second] [])
    have br := own_near q1 p3 cc rr hcc hrr
    have lw := own_law cc rr (by omega) (by omega) br.1 br.2
    refine own_go (fun t k => XS.lload X5.here hx rfl (hb hby at_51) rfl  k) ?_
    show own_R p e below _ T5 (mkF m 53 #[.val (.long q1), .second, .val (.long q2), .second, .val (.int p3), .val (.long cc), .second, .val (.long rr), .second, .val (.long (((((p3.toUInt32 >>> ((1 : Int32) &&& 31).toUInt32).toInt32) &&& (7 : Int32)) - (3 : Int32)).toInt64)), .second] [(.long cc)])
    refine own_go (fun t k => XS.lload X5.here hx rfl (hb hby at_53) rfl  k) ?_
    show own_R p e below _ T5 (mkF m 55 #[.val (.long q1), .second, .val (.long q2), .second, .val (.int p3), .val (.long cc), .second, .val (.long rr), .second, .val (.long (((((p3.toUInt32 >>> ((1 : Int32) &&& 31).toUInt32).toInt32) &&& (7 : Int32)) - (3 : Int32)).toInt64)), .second] [(.long rr), (.long cc)])
    refine own_go (X5.ldc2Long hx hown (mvT hZ (hw _ (List.mem_of_getElem? (i := 2) rfl))) (g := (mkF m 55 #[.val (.long q1), .second, .val (.long q2), .second, .val (.int p3), .val (.long cc), .second, .val (.long rr), .second, .val (.long (((((p3.toUInt32 >>> ((1 : Int32) &&& 31).toUInt32).toInt32) &&& (7 : Int32)) - (3 : Int32)).toInt64)), .second] [(.long rr), (.long cc)])) rfl (hb hby at_55)) ?_
    show own_R p e below _ T5 (mkF m 58 #[.val (.long q1), .second, .val (.long q2), .second, .val (.int p3), .val (.long cc), .second, .val (.long rr), .second, .val (.long (((((p3.toUInt32 >>> ((1 : Int32) &&& 31).toUInt32).toInt32) &&& (7 : Int32)) - (3 : Int32)).toInt64)), .second] [(.long (5 : Int64)), (.long rr), (.long cc)])
    refine own_go (fun t k => XS.ldiv X5.here hx rfl (hb hby at_58) rfl (by decide) k) ?_
    show own_R p e below _ T5 (mkF m 59 #[.val (.long q1), .second, .val (.long q2), .second, .val (.int p3), .val (.long cc), .second, .val (.long rr), .second, .val (.long (((((p3.toUInt32 >>> ((1 : Int32) &&& 31).toUInt32).toInt32) &&& (7 : Int32)) - (3 : Int32)).toInt64)), .second] [(.long (rr / (5 : Int64))), (.long cc)])
    refine own_go (fun t k => XS.lcmp X5.here hx rfl (hb hby at_59) rfl k) ?_
    show own_R p e below _ T5 (mkF m 60 #[.val (.long q1), .second, .val (.long q2), .second, .val (.int p3), .val (.long cc), .second, .val (.long rr), .second, .val (.long (((((p3.toUInt32 >>> ((1 : Int32) &&& 31).toUInt32).toInt32) &&& (7 : Int32)) - (3 : Int32)).toInt64)), .second] [(.int (lcmpW cc (rr / (5 : Int64))))])
    by_cases hc60_6 : (0 : Int32) < (lcmpW cc (rr / (5 : Int64)))
    · -- pc 60: yes
      refine own_go (fun t k => XS.ifYes X5.here hx rfl (pc0 := 60) (pc' := 67) rfl (hb hby at_60) rfl ((if0 _ _).trans (tlt hc60_6).2.2.1) (by decide) (by decide) k) ?_
      show own_R p e below _ T5 (mkF m 67 #[.val (.long q1), .second, .val (.long q2), .second, .val (.int p3), .val (.long cc), .second, .val (.long rr), .second, .val (.long (((((p3.toUInt32 >>> ((1 : Int32) &&& 31).toUInt32).toInt32) &&& (7 : Int32)) - (3 : Int32)).toInt64)), .second] [])
      refine own_go (fun t k => XS.iconst X5.here hx rfl (hb hby at_67) k) ?_
      show own_R p e below _ T5 (mkF m 68 #[.val (.long q1), .second, .val (.long q2), .second, .val (.int p3), .val (.long cc), .second, .val (.long rr), .second, .val (.long (((((p3.toUInt32 >>> ((1 : Int32) &&& 31).toUInt32).toInt32) &&& (7 : Int32)) - (3 : Int32)).toInt64)), .second] [(.int (0 : Int32))])
      refine own_go (fun t k => XS.istore X5.here hx rfl (hb hby at_68) rfl (l' := #[.val (.long q1), .second, .val (.long q2), .second, .val (.int p3), .val (.long cc), .second, .val (.long rr), .second, .val (.int (0 : Int32)), .unset]) rfl k) ?_
      show own_R p e below _ T5 (mkF m 70 #[.val (.long q1), .second, .val (.long q2), .second, .val (.int p3), .val (.long cc), .second, .val (.long rr), .second, .val (.int (0 : Int32)), .unset] [])
      refine own_go (fun t k => XS.lload X5.here hx rfl (hb hby at_70) rfl  k) ?_
      show own_R p e below _ T5 (mkF m 72 #[.val (.long q1), .second, .val (.long q2), .second, .val (.int p3), .val (.long cc), .second, .val (.long rr), .second, .val (.int (0 : Int32)), .unset] [(.long cc)])
      refine own_go (fun t k => XS.lload X5.here hx rfl (hb hby at_72) rfl  k) ?_
      show own_R p e below _ T5 (mkF m 74 #[.val (.long q1), .second, .val (.long q2), .second, .val (.int p3), .val (.long cc), .second, .val (.long rr), .second, .val (.int (0 : Int32)), .unset] [(.long rr), (.long cc)])
      obtain ⟨_, _, ⟨T7, L7, k7, n7⟩, -, X7, ⟨Lc7, hQ7, l7, y7, z7⟩, st7⟩ := Jvm.LawKit.callS X5 hx (y := (⟨site_74.cls, "mayConfirm", "(JJ)Z"⟩ : MethodName)) hown (mvT hZ (hw _ (List.mem_of_getElem? (i := 3) rfl))) (mvT hZ (hw _ (List.mem_of_getElem? (i := 4) rfl))) (mvT hZ (hw _ (List.mem_of_getElem? (i := 5) rfl))) (mvT hZ (hw _ (List.mem_of_getElem? (i := 6) rfl))) (by decide) (backOf (W := 0) (rm1 l Z a0 hw [] cc rr h0 n0 (Nat.le_trans Z0 Kh.1)) hZ (hw _ (List.mem_of_getElem? (i := 6) rfl)) (hw _ (List.mem_of_getElem? (i := 5) rfl)) (by decide) (by decide)) (g := (mkF m 74 #[.val (.long q1), .second, .val (.long q2), .second, .val (.int p3), .val (.long cc), .second, .val (.long rr), .second, .val (.int (0 : Int32)), .unset] [(.long rr), (.long cc)])) rfl (by rw [hml]; rfl) (argsL := [(.long cc), (.long rr)]) (rest := []) (lenOf pd_0 rfl) rfl (by show 2 * 0 + _ ≤ _; exact Nat.le_of_eq rfl) (hb hby at_74) (fun _ _ => ⟨rfl, e5, (by decide : 0 + 0 ≤ _), (by decide : 0 + 0 ≤ _)⟩)
      dsimp only [Pt.U, Pt.locs, Pt.cells, Pt.slots] at X7 l7 y7 z7 st7 hQ7
      subst l7 y7 z7
      obtain ⟨rfl, Nq7, e7⟩ := hQ7
      have N7 := Fr.app N5 Nq7
      refine own_go (st7) ?_
      show own_R p e below _ T7 (mkF m 77 #[.val (.long q1), .second, .val (.long q2), .second, .val (.int p3), .val (.long cc), .second, .val (.long rr), .second, .val (.int (0 : Int32)), .unset] [(.int (if rr * (20 : Int64) < cc * (100 : Int64) then (0 : Int32) else (1 : Int32)))])
      refine own_go (fun t k => XS.iload X7.here hx rfl (hb hby at_77) rfl  k) ?_
      show own_R p e below _ T7 (mkF m 79 #[.val (.long q1), .second, .val (.long q2), .second, .val (.int p3), .val (.long cc), .second, .val (.long rr), .second, .val (.int (0 : Int32)), .unset] [(.int (0 : Int32)), (.int (if rr * (20 : Int64) < cc * (100 : Int64) then (0 : Int32) else (1 : Int32)))])
      refine own_go (fun t k => XS.icmpNo X7.here hx rfl (hb hby at_79) rfl (teq (if_pos (lw.mpr ((lw_gt _ _).mp hc60_6)))).2 k) ?_
      show own_R p e below _ T7 (mkF m 82 #[.val (.long q1), .second, .val (.long q2), .second, .val (.int p3), .val (.long cc), .second, .val (.long rr), .second, .val (.int (0 : Int32)), .unset] [])
      refine own_go (fun t k => XS.iconst X7.here hx rfl (hb hby at_82) k) ?_
      show own_R p e below _ T7 (mkF m 83 #[.val (.long q1), .second, .val (.long q2), .second, .val (.int p3), .val (.long cc), .second, .val (.long rr), .second, .val (.int (0 : Int32)), .unset] [(.int (1 : Int32))])
      refine own_go (fun t k => XS.goto X7.here hx rfl (pc0 := 83) (pc' := 87) rfl (hb hby at_83) (by decide) (by decide) k) ?_
      show own_R p e below _ T7 (mkF m 87 #[.val (.long q1), .second, .val (.long q2), .second, .val (.int p3), .val (.long cc), .second, .val (.long rr), .second, .val (.int (0 : Int32)), .unset] [(.int (1 : Int32))])
      refine own_retN X7 hx Bd.returns (by simp) (BodyLoose.notSynchronized Bd) (hb hby at_87) (by decide) (by decide) ?_
      exact ⟨rfl, N7⟩
    · -- pc 60: no
      refine own_go (fun t k => XS.ifNo X5.here hx rfl (hb hby at_60) rfl ((if0 _ _).trans (flt hc60_6).2.2.1) k) ?_
      show own_R p e below _ T5 (mkF m 63 #[.val (.long q1), .second, .val (.long q2), .second, .val (.int p3), .val (.long cc), .second, .val (.long rr), .second, .val (.long (((((p3.toUInt32 >>> ((1 : Int32) &&& 31).toUInt32).toInt32) &&& (7 : Int32)) - (3 : Int32)).toInt64)), .second] [])
      refine own_go (fun t k => XS.iconst X5.here hx rfl (hb hby at_63) k) ?_
      show own_R p e below _ T5 (mkF m 64 #[.val (.long q1), .second, .val (.long q2), .second, .val (.int p3), .val (.long cc), .second, .val (.long rr), .second, .val (.long (((((p3.toUInt32 >>> ((1 : Int32) &&& 31).toUInt32).toInt32) &&& (7 : Int32)) - (3 : Int32)).toInt64)), .second] [(.int (1 : Int32))])
      refine own_go (fun t k => XS.goto X5.here hx rfl (pc0 := 64) (pc' := 68) rfl (hb hby at_64) (by decide) (by decide) k) ?_
      show own_R p e below _ T5 (mkF m 68 #[.val (.long q1), .second, .val (.long q2), .second, .val (.int p3), .val (.long cc), .second, .val (.long rr), .second, .val (.long (((((p3.toUInt32 >>> ((1 : Int32) &&& 31).toUInt32).toInt32) &&& (7 : Int32)) - (3 : Int32)).toInt64)), .second] [(.int (1 : Int32))])
      refine own_go (fun t k => XS.istore X5.here hx rfl (hb hby at_68) rfl (l' := #[.val (.long q1), .second, .val (.long q2), .second, .val (.int p3), .val (.long cc), .second, .val (.long rr), .second, .val (.int (1 : Int32)), .unset]) rfl k) ?_
      show own_R p e below _ T5 (mkF m 70 #[.val (.long q1), .second, .val (.long q2), .second, .val (.int p3), .val (.long cc), .second, .val (.long rr), .second, .val (.int (1 : Int32)), .unset] [])
      refine own_go (fun t k => XS.lload X5.here hx rfl (hb hby at_70) rfl  k) ?_
      show own_R p e below _ T5 (mkF m 72 #[.val (.long q1), .second, .val (.long q2), .second, .val (.int p3), .val (.long cc), .second, .val (.long rr), .second, .val (.int (1 : Int32)), .unset] [(.long cc)])
      refine own_go (fun t k => XS.lload X5.here hx rfl (hb hby at_72) rfl  k) ?_
      show own_R p e below _ T5 (mkF m 74 #[.val (.long q1), .second, .val (.long q2), .second, .val (.int p3), .val (.long cc), .second, .val (.long rr), .second, .val (.int (1 : Int32)), .unset] [(.long rr), (.long cc)])
      obtain ⟨_, _, ⟨T8, L8, k8, n8⟩, -, X8, ⟨Lc8, hQ8, l8, y8, z8⟩, st8⟩ := Jvm.LawKit.callS X5 hx (y := (⟨site_74.cls, "mayConfirm", "(JJ)Z"⟩ : MethodName)) hown (mvT hZ (hw _ (List.mem_of_getElem? (i := 3) rfl))) (mvT hZ (hw _ (List.mem_of_getElem? (i := 4) rfl))) (mvT hZ (hw _ (List.mem_of_getElem? (i := 5) rfl))) (mvT hZ (hw _ (List.mem_of_getElem? (i := 6) rfl))) (by decide) (backOf (W := 0) (rm1 l Z a0 hw [] cc rr h0 n0 (Nat.le_trans Z0 Kh.1)) hZ (hw _ (List.mem_of_getElem? (i := 6) rfl)) (hw _ (List.mem_of_getElem? (i := 5) rfl)) (by decide) (by decide)) (g := (mkF m 74 #[.val (.long q1), .second, .val (.long q2), .second, .val (.int p3), .val (.long cc), .second, .val (.long rr), .second, .val (.int (1 : Int32)), .unset] [(.long rr), (.long cc)])) rfl (by rw [hml]; rfl) (argsL := [(.long cc), (.long rr)]) (rest := []) (lenOf pd_0 rfl) rfl (by show 2 * 0 + _ ≤ _; exact Nat.le_of_eq rfl) (hb hby at_74) (fun _ _ => ⟨rfl, e5, (by decide : 0 + 0 ≤ _), (by decide : 0 + 0 ≤ _)⟩)
      dsimp only [Pt.U, Pt.locs, Pt.cells, Pt.slots] at X8 l8 y8 z8 st8 hQ8
      subst l8 y8 z8
      obtain ⟨rfl, Nq8, e8⟩ := hQ8
      have N8 := Fr.app N5 Nq8
      refine own_go (st8) ?_
      show own_R p e below _ T8 (mkF m 77 #[.val (.long q1), .second, .val (.long q2), .second, .val (.int p3), .val (.long cc), .second, .val (.long rr), .second, .val (.int (1 : Int32)), .unset] [(.int (if rr * (20 : Int64) < cc * (100 : Int64) then (0 : Int32) else (1 : Int32)))])
      refine own_go (fun t k => XS.iload X8.here hx rfl (hb hby at_77) rfl  k) ?_
      show own_R p e below _ T8 (mkF m 79 #[.val (.long q1), .second, .val (.long q2), .second, .val (.int p3), .val (.long cc), .second, .val (.long rr), .second, .val (.int (1 : Int32)), .unset] [(.int (1 : Int32)), (.int (if rr * (20 : Int64) < cc * (100 : Int64) then (0 : Int32) else (1 : Int32)))])
      refine own_go (fun t k => XS.icmpNo X8.here hx rfl (hb hby at_79) rfl (teq (if_neg (fun q => hc60_6 ((lw_gt _ _).mpr (lw.mp q))))).2 k) ?_
      show own_R p e below _ T8 (mkF m 82 #[.val (.long q1), .second, .val (.long q2), .second, .val (.int p3), .val (.long cc), .second, .val (.long rr), .second, .val (.int (1 : Int32)), .unset] [])
      refine own_go (fun t k => XS.iconst X8.here hx rfl (hb hby at_82) k) ?_
      show own_R p e below _ T8 (mkF m 83 #[.val (.long q1), .second, .val (.long q2), .second, .val (.int p3), .val (.long cc), .second, .val (.long rr), .second, .val (.int (1 : Int32)), .unset] [(.int (1 : Int32))])
      refine own_go (fun t k => XS.goto X8.here hx rfl (pc0 := 83) (pc' := 87) rfl (hb hby at_83) (by decide) (by decide) k) ?_
      show own_R p e below _ T8 (mkF m 87 #[.val (.long q1), .second, .val (.long q2), .second, .val (.int p3), .val (.long cc), .second, .val (.long rr), .second, .val (.int (1 : Int32)), .unset] [(.int (1 : Int32))])
      refine own_retN X8 hx Bd.returns (by simp) (BodyLoose.notSynchronized Bd) (hb hby at_87) (by decide) (by decide) ?_
      exact ⟨rfl, N8⟩
set_option maxRecDepth 65536 in
set_option maxHeartbeats 40000000 in
theorem comes_1 {Post : Tables → Env → Array Value → State → Outcome → State → Prop} (hpost : ∀ tb e args s v u, (limb_1_1.after args s (.returned v) u = true ∧ limb_1_2.after args s (.returned v) u = true ∧ True) → FrameEnd s (.returned v) u (Jvm.fieldLocs frame_1_writes args s ++ Jvm.arrayLocs frame_1_arrays args s ++ Jvm.staticLocs frame_1_statics s) 0 0 → Post tb e args s (.returned v) u) :
    ArmFor flags0 classFile x code maxLocals ret World_1 tables_1 room_1 Calls_1 rest_1 Pre_1 Post := by
  intro l hfl _ _ p e ha hc hk s m args below hf hA hF happ hP
  obtain ⟨hcalls, hrest, hpre⟩ := hP
  obtain ⟨-, -, -, hnamed, -, -, -, hat⟩ := (Spec.applies_iff hf).mp happ
  obtain ⟨hg, hn⟩ := and_e (Cond.before_iff.mp (show (Jvm.Cond.and given_1 narrow_1).before args s = true from hpre))
  obtain ⟨g0, gr0⟩ := and_e hg
  obtain ⟨ga0, gr1⟩ := and_e gr0
  obtain ⟨ga1, gr2⟩ := and_e gr1
  have ga2 := gr2
  obtain ⟨w0, w1, w2, rfl⟩ : ∃ w0 w1 w2 : Value, args = #[w0, w1, w2] := by
    have hs : args.size = 3 := by simpa [Cond.value, given_1] using g0
    obtain ⟨L⟩ := args
    match L, hs with
    | [w0, w1, w2], _ => exact ⟨w0, w1, w2, rfl⟩
  have hw := fun d (hd : d ∈ tables_1) => atoms_spec (ws := Jvm.Cond.code x code maxLocals ret :: tables_1) hat d (List.mem_cons_of_mem _ hd)
  have hfit : Fit s := fun {y c} hc i hi => by
    obtain ⟨ha, rfl⟩ := Array.getElem?_eq_some_iff.mp hc
    have q := List.all_eq_true.mp ((Array.all_eq_true_iff_forall_mem.mp hF) _ (Array.getElem_mem ha)) i (List.mem_range.mpr hi)
    simpa [Array.getElem?_eq_getElem hi] using q
  obtain ⟨i0, ei0⟩ := isL_v ga0
  obtain rfl : w0 = (.long i0) := Option.some.inj ei0
  obtain ⟨i1, ei1⟩ := isL_v ga1
  obtain rfl : w1 = (.long i1) := Option.some.inj ei1
  obtain ⟨i2, ei2⟩ := is_v ga2
  obtain rfl : w2 = (.int i2) := Option.some.inj ei2
  obtain ⟨n, o, h1, h2, h3, _, L, rfl, ⟨rfl, N⟩, hq⟩ := rm0 l s _ hw tables_1 i0 i1 i2  s.heap s.heap.size (Nat.le_refl _) p e ha hc hk s m _ below hf ((Spec.applies_iff_loose hf).mp happ).1 ⟨rfl, State.Warmed39.refl s, rfl⟩ trivial
  refine ⟨n, _, h1, h2, h3, hpost _ _ _ _ _ _ ⟨Cond.after_iff.mpr rfl, Cond.after_iff.mpr (eq_i res_at (Term.int_eval (1)) rfl), trivial⟩ ⟨hq.1, hq.2.1, (hq.2.2.sift fun y hy => Or.inr (N y hy)).mono (by decide) (by decide)⟩⟩
theorem main_1_1 : Claimed_1_1 := comes_1 fun _ _ _ _ _ _ h hF => ⟨h.1, hF⟩
theorem main_1_2 : Claimed_1_2 := comes_1 fun _ _ _ _ _ _ h hF => ⟨h.2.1, hF⟩
end Jvm.Pilot.@@N@@
namespace Jvm.Pilot.@@N@@
open Jvm Jvm.ClassFile Sem Op Lib Jvm.Free Jvm.Stand Jvm.Pilot.@@N@@.Jvm.D
/-! MADE BY PROGRAM (witnessworld.py) out of the Statement's table words and the real class files: 10 classes; the members and pool entries that the words name. The judged class is class 1, her method 1. -/
namespace start1
open Jvm.ClassFile
def u (s : String) : CpInfo := .utf8 (stringToUtf16 s)
/-- a pool by its gaps: so many unusable entries, then the entry; so many at the end -/
def gap : Nat → List CpInfo → List CpInfo
  | 0, r => r
  | n + 1, r => .unusable :: gap n r
def poolList (es : List (Nat × CpInfo)) (last : Nat) : List CpInfo := es.foldr (fun e r => gap e.1 (e.2 :: r)) (gap last [])
def pool (es : List (Nat × CpInfo)) (last : Nat) : Array CpInfo := ⟨poolList es last⟩
def fileOf (pool : Array CpInfo) (this : Nat) (attrs : Array Attribute := #[]) (ms : Array MethodInfo := #[]) (fl : Nat := 33) (sup : Nat := 0) (ifs : Array Nat := #[]) (fds : Array FieldInfo := #[]) : ClassFile where
  minorVersion := 0
  majorVersion := 65
  constantPool := pool
  accessFlags := fl
  thisClass := this
  superClass := sup
  interfaces := ifs
  fields := fds
  methods := ms
  attributes := attrs
def plain (name : String) (sup : Option ClassId) : Class where
  name := name
  kind := .ordinary
  loader := none
  accessFlags := 33
  super := sup
  interfaces := #[]
  cf := none
  fields := #[]
  methods := #[]
  instanceTypes := #[]
  staticTypes := #[]
  resolved := #[]
  callSites := []
  init := .initialized
  statics := none
  mirror := none

def pool0 : Array CpInfo := pool [(5, u "<init>"), (0, u "()V"), (1, .class_ 10), (1, u "java/lang/Object")] 113

def k0m0 : Method := { name := "<init>", desc := "()V", sig := { parameters := [], returnType := none }, accessFlags := 1, code := none }
def k0 : Class := { plain "java/lang/Object" none with
  accessFlags := 33
  interfaces := #[]
  cf := some (fileOf pool0 8 #[] #[{ accessFlags := 1, nameIndex := 5, descriptorIndex := 6, attributes := #[] }] 33 0 #[] #[])
  fields := #[]
  methods := #[k0m0]
  instanceTypes := #[]
  staticTypes := #[]
  resolved := Array.replicate 124 none
  statics := none }

def pool1 : Array CpInfo := pool [(2, .class_ 4), (1, u "java/lang/Object"), (0, u "<init>"), (0, u "()V"), (0, .long 18014398509481983), (1, .long 5), (1, .methodref 12 13), (0, .class_ 14), (0, .nameAndType 15 16), (0, u "java/lang/Math"), (0, u "max"), (0, u "(JJ)J"), (0, .long 72057594037927935), (1, .methodref 20 21), (0, .class_ 22), (0, .nameAndType 23 24), (0, u site_74.cls), (0, u "mayConfirm"), (0, u "(JJ)Z"), (0, .class_ 26), (0, u x.cls), (2, u "law"), (0, u "(JJI)Z")] 3

def k1m0 : Method := { name := "<init>", desc := "()V", sig := { parameters := [], returnType := none }, accessFlags := 2, code := none }
def k1c1 : Code := { maxStack := 6, maxLocals := 11, code := code, exceptionTable := #[], attributes := #[] }
def k1m1 : Method := { name := "law", desc := "(JJI)Z", sig := { parameters := [.long, .long, .int], returnType := some .boolean }, accessFlags := 9, code := some k1c1 }
def k1 : Class := { plain x.cls (some 0) with
  accessFlags := 49
  interfaces := #[]
  cf := some (fileOf pool1 25 #[] #[{ accessFlags := 2, nameIndex := 5, descriptorIndex := 6, attributes := #[] }, { accessFlags := 9, nameIndex := 29, descriptorIndex := 30, attributes := #[] }] 49 2 #[] #[])
  fields := #[]
  methods := #[k1m0, k1m1]
  instanceTypes := #[]
  staticTypes := #[]
  resolved := Array.replicate 34 none
  statics := none }

def pool2 : Array CpInfo := pool [(2, .class_ 4), (1, u "java/lang/Object"), (0, u "<init>"), (0, u "()V"), (7, .class_ 16), (1, u site_74.cls), (0, u "start"), (0, u "J"), (4, u "untilLook"), (7, u "pools"), (0, u "Ljava/util/List;"), (12, .long 100), (22, u "confirming"), (2, u "mayConfirm"), (0, u "(JJ)Z"), (94, .long 20), (1, u "FULL_PERCENT"), (0, u "I"), (2, u "CONFIRM_PERCENT"), (1, u "IDLE_PERCENT"), (1, u "FIRST_LOOK"), (1, u "LOOK_EVERY")] 29

def k2m0 : Method := { name := "<init>", desc := "()V", sig := { parameters := [], returnType := none }, accessFlags := 0, code := none }
def k2c1 : Code := { maxStack := 6, maxLocals := 4, code := prog_69_method_7_code, exceptionTable := #[], attributes := #[] }
def k2m1 : Method := { name := "mayConfirm", desc := "(JJ)Z", sig := { parameters := [.long, .long], returnType := some .boolean }, accessFlags := 8, code := some k2c1 }
def k2 : Class := { plain site_74.cls (some 0) with
  accessFlags := 48
  interfaces := #[]
  cf := some (fileOf pool2 14 #[] #[{ accessFlags := 0, nameIndex := 5, descriptorIndex := 6, attributes := #[] }, { accessFlags := 8, nameIndex := 71, descriptorIndex := 72, attributes := #[] }] 48 2 #[] #[{ accessFlags := 26, nameIndex := 169, descriptorIndex := 170, attributes := #[] }, { accessFlags := 26, nameIndex := 173, descriptorIndex := 170, attributes := #[] }, { accessFlags := 26, nameIndex := 175, descriptorIndex := 170, attributes := #[] }, { accessFlags := 26, nameIndex := 177, descriptorIndex := 170, attributes := #[] }, { accessFlags := 26, nameIndex := 179, descriptorIndex := 170, attributes := #[] }, { accessFlags := 18, nameIndex := 17, descriptorIndex := 18, attributes := #[] }, { accessFlags := 2, nameIndex := 68, descriptorIndex := 18, attributes := #[] }, { accessFlags := 2, nameIndex := 23, descriptorIndex := 18, attributes := #[] }, { accessFlags := 2, nameIndex := 31, descriptorIndex := 32, attributes := #[] }])
  fields := #[{ name := "FULL_PERCENT", type := .int, accessFlags := 26, slot := 0, constantValue := 0 }, { name := "CONFIRM_PERCENT", type := .int, accessFlags := 26, slot := 1, constantValue := 0 }, { name := "IDLE_PERCENT", type := .int, accessFlags := 26, slot := 2, constantValue := 0 }, { name := "FIRST_LOOK", type := .int, accessFlags := 26, slot := 3, constantValue := 0 }, { name := "LOOK_EVERY", type := .int, accessFlags := 26, slot := 4, constantValue := 0 }, { name := "start", type := .long, accessFlags := 18, slot := 0, constantValue := 0 }, { name := "confirming", type := .long, accessFlags := 2, slot := 1, constantValue := 0 }, { name := "untilLook", type := .long, accessFlags := 2, slot := 2, constantValue := 0 }, { name := "pools", type := (.object "java/util/List"), accessFlags := 2, slot := 3, constantValue := 0 }]
  methods := #[k2m0, k2m1]
  instanceTypes := #[.long, .long, .long, (.object "java/util/List")]
  staticTypes := #[.int, .int, .int, .int, .int]
  resolved := Array.replicate 209 none
  statics := none }

def pool3 : Array CpInfo := pool [(1, .class_ 2), (0, u "java/lang/Math"), (1, .class_ 6), (1, u "java/lang/Object"), (0, u "<init>"), (0, u "()V"), (89, .class_ 100), (1, u "java/lang/Math$RandomNumberGeneratorHolder"), (20, u "(JJ)J"), (50, u "negativeZeroFloatBits"), (0, u "J"), (2, u "negativeZeroDoubleBits"), (21, u "max"), (46, u "$assertionsDisabled"), (0, u "Z"), (91, u "twoToTheDoubleScaleDown"), (0, u "D"), (4, u "twoToTheDoubleScaleUp"), (9, u "E"), (3, u "PI"), (2, u "TAU"), (2, u "DEGREES_TO_RADIANS"), (0, u "RADIANS_TO_DEGREES")] 94

def k3m0 : Method := { name := "<init>", desc := "()V", sig := { parameters := [], returnType := none }, accessFlags := 2, code := none }
def k3c1 : Code := { maxStack := 4, maxLocals := 4, code := jdk_29_method_66_code, exceptionTable := #[], attributes := #[] }
def k3m1 : Method := { name := "max", desc := "(JJ)J", sig := { parameters := [.long, .long], returnType := some .long }, accessFlags := 9, code := some k3c1 }
def k3 : Class := { plain "java/lang/Math" (some 0) with
  accessFlags := 49
  interfaces := #[]
  cf := some (fileOf pool3 1 #[.nestMembers #[98]] #[{ accessFlags := 2, nameIndex := 7, descriptorIndex := 8, attributes := #[] }, { accessFlags := 9, nameIndex := 198, descriptorIndex := 121, attributes := #[] }] 49 4 #[] #[{ accessFlags := 25, nameIndex := 354, descriptorIndex := 339, attributes := #[] }, { accessFlags := 25, nameIndex := 358, descriptorIndex := 339, attributes := #[] }, { accessFlags := 25, nameIndex := 361, descriptorIndex := 339, attributes := #[] }, { accessFlags := 26, nameIndex := 364, descriptorIndex := 339, attributes := #[] }, { accessFlags := 26, nameIndex := 365, descriptorIndex := 339, attributes := #[] }, { accessFlags := 26, nameIndex := 172, descriptorIndex := 173, attributes := #[] }, { accessFlags := 26, nameIndex := 176, descriptorIndex := 173, attributes := #[] }, { accessFlags := 8, nameIndex := 344, descriptorIndex := 339, attributes := #[] }, { accessFlags := 8, nameIndex := 338, descriptorIndex := 339, attributes := #[] }, { accessFlags := 4120, nameIndex := 245, descriptorIndex := 246, attributes := #[] }])
  fields := #[{ name := "E", type := .double, accessFlags := 25, slot := 0, constantValue := 0 }, { name := "PI", type := .double, accessFlags := 25, slot := 1, constantValue := 0 }, { name := "TAU", type := .double, accessFlags := 25, slot := 2, constantValue := 0 }, { name := "DEGREES_TO_RADIANS", type := .double, accessFlags := 26, slot := 3, constantValue := 0 }, { name := "RADIANS_TO_DEGREES", type := .double, accessFlags := 26, slot := 4, constantValue := 0 }, { name := "negativeZeroFloatBits", type := .long, accessFlags := 26, slot := 5, constantValue := 0 }, { name := "negativeZeroDoubleBits", type := .long, accessFlags := 26, slot := 6, constantValue := 0 }, { name := "twoToTheDoubleScaleUp", type := .double, accessFlags := 8, slot := 7, constantValue := 0 }, { name := "twoToTheDoubleScaleDown", type := .double, accessFlags := 8, slot := 8, constantValue := 0 }, { name := "$assertionsDisabled", type := .boolean, accessFlags := 4120, slot := 9, constantValue := 0 }]
  methods := #[k3m0, k3m1]
  instanceTypes := #[]
  staticTypes := #[.double, .double, .double, .double, .double, .long, .long, .double, .double, .boolean]
  resolved := Array.replicate 460 none
  statics := none }

def pool4 : Array CpInfo := pool [(1, u "java/lang/Cloneable"), (0, .class_ 1), (0, u "java/lang/Object"), (0, .class_ 3)] 3

def k4 : Class := { plain "java/lang/Cloneable" (some 0) with
  accessFlags := 1537
  interfaces := #[]
  cf := some (fileOf pool4 2 #[] #[] 1537 4 #[] #[])
  fields := #[]
  methods := #[]
  instanceTypes := #[]
  staticTypes := #[]
  resolved := Array.replicate 8 none
  statics := none }

def pool5 : Array CpInfo := pool [(1, u "java/io/Serializable"), (0, .class_ 1), (0, u "java/lang/Object"), (0, .class_ 3)] 3

def k5 : Class := { plain "java/io/Serializable" (some 0) with
  accessFlags := 1537
  interfaces := #[]
  cf := some (fileOf pool5 2 #[] #[] 1537 4 #[] #[])
  fields := #[]
  methods := #[]
  instanceTypes := #[]
  staticTypes := #[]
  resolved := Array.replicate 8 none
  statics := none }

/-- the primitive byte -/
def k6 : Class := { plain "byte" none with kind := .primitive 'B', accessFlags := 0x411 }
/-- [B -/
def k7 : Class := { plain "[B" (some 0) with kind := .array 6 .byte, interfaces := #[4, 5], accessFlags := 1041 }

/-- the primitive int -/
def k8 : Class := { plain "int" none with kind := .primitive 'I', accessFlags := 0x411 }
/-- [I -/
def k9 : Class := { plain "[I" (some 0) with kind := .array 8 .int, interfaces := #[4, 5], accessFlags := 1041 }

def heap : Heap := #[]
def classes : Array Class := #[k0, k1, k2, k3, k4, k5, k6, k7, k8, k9]
def interned : List (Array UInt16 × Addr) := []
def slotsUsed : Nat := 0
def theMethod : MethodId := ⟨1, 1⟩
def args0 : Array Value := #[.long 1000, .long 77, .int 7]
def aboutOver (below : List Frame) : State where
  vm := { classes := classes, interned := interned.toArray }
  heap := heap
  slotsUsed := slotsUsed
  threads := #[{ frames := .invoking theMethod args0 :: below }]
def below0 : List Frame := [.native { method := ⟨0, 0⟩, args := #[] }]
def about1 : State := aboutOver below0
def p0 : Program := .bare "" "" ""
def e0 : Env := launch0.env 0 0 0
theorem w_frames : about1.frames = Frame.invoking theMethod args0 :: below0 := rfl
set_option maxRecDepth 65536 in
theorem w_args : argsFit about1.vm theMethod args0 = true := by decide +kernel
set_option maxRecDepth 65536 in
theorem w_heap : heapFits about1 = true := by decide +kernel
set_option maxRecDepth 65536 in
theorem w_runnable : about1.curStatus? = some .runnable := by decide +kernel
set_option maxRecDepth 65536 in
theorem w_alone : about1.alone = true := by decide +kernel
set_option maxRecDepth 65536 in
theorem w_named : about1.methodNamed? x = some theMethod := by decide +kernel
set_option maxRecDepth 65536 in
theorem w_hears : about1.hears theMethod below0 = true := by decide +kernel
set_option maxRecDepth 65536 in
theorem w_ripe : about1.ripe theMethod args0 below0 = true := by decide +kernel
theorem w_running : about1.status = .running := rfl
set_option maxRecDepth 65536 in
theorem w_room : about1.hasRoom e0.platform room_1 = true :=
  launch0.hasRoom_least _ room_1 (by decide +kernel) (by decide +kernel) (by decide +kernel) (by decide +kernel) (by decide +kernel) (by decide +kernel)
theorem allAtoms_all (ts : List Jvm.Cond) (a : Array Jvm.Value) (st : Jvm.State) : (allAtoms ts).before a st = ts.all (fun c => c.before a st) := by
  induction ts with
  | nil => rfl
  | cons c t ih =>
    show (Jvm.Cond.and c (allAtoms t)).before a st = _
    rw [Jvm.Cond.before_and, ih, List.all_cons]
def words1 : List Jvm.Cond := Jvm.Cond.code x code maxLocals ret :: tables_1
/-- a 'code' word, met by the world's own term for the bytes: nothing is compared byte by byte -/
theorem code_word {y : MethodName} {bytes : ByteArray} {mx : Nat} {rt : Option FieldType} {a : Array Value} {s : State} {m : MethodId} {meth : Method} {c : Code} (h1 : s.methodNamed? y = some m) (h2 : s.vm.method? m = some meth) (h3 : meth.code = some c) (h4 : c.code = bytes)
    (h5 : (c.maxLocals == mx && c.exceptionTable.isEmpty && decide (c.maxStack ≤ mostOperands) && decide (meth.sig.returnType = rt) && !meth.locks && decide (parseMethodDescriptor y.desc = some meth.sig)) = true) : (Jvm.Cond.code y bytes mx rt).before a s = true := by
  simp only [Bool.and_eq_true, beq_iff_eq, Bool.not_eq_true', decide_eq_true_eq] at h5
  obtain ⟨⟨⟨⟨⟨g1, g2⟩, g3⟩, g4⟩, g5⟩, g6⟩ := h5
  simp [Cond.before, Cond.holds, Cond.value, h1, h2, h3, h4, g1, g2, g3, g4, g5, g6]
def isCode : Jvm.Cond → Bool
  | .code _ _ _ _ => true
  | _ => false
theorem all_split {L : List Jvm.Cond} {P : Jvm.Cond → Bool} (h1 : L.all (fun c => isCode c || P c) = true) (h2 : ∀ c ∈ L.filter isCode, P c = true) : L.all P = true := by
  refine List.all_eq_true.mpr fun c hc => ?_
  have h := List.all_eq_true.mp h1 c hc
  rcases Bool.eq_false_or_eq_true (isCode c) with hi | hi
  · exact h2 c (List.mem_filter.mpr ⟨hc, hi⟩)
  · simpa [hi] using h
set_option maxRecDepth 65536 in
theorem w_c0 : (Jvm.Cond.code x code maxLocals ret).before args0 about1 = true := code_word (m := ⟨1, 1⟩) (meth := k1m1) (c := k1c1) (by decide +kernel) rfl rfl rfl (by decide +kernel)
set_option maxRecDepth 65536 in
theorem w_c1 : (Jvm.Cond.code ({ cls := site_74.cls, name := "mayConfirm", desc := "(JJ)Z" } : Jvm.MethodName) prog_69_method_7_code (4 : Nat) (Option.some Jvm.ClassFile.FieldType.boolean)).before args0 about1 = true := code_word (m := ⟨2, 1⟩) (meth := k2m1) (c := k2c1) (by decide +kernel) rfl rfl rfl (by decide +kernel)
set_option maxRecDepth 65536 in
theorem w_c2 : (Jvm.Cond.code ({ cls := "java/lang/Math", name := "max", desc := "(JJ)J" } : Jvm.MethodName) jdk_29_method_66_code (4 : Nat) (Option.some Jvm.ClassFile.FieldType.long)).before args0 about1 = true := code_word (m := ⟨3, 1⟩) (meth := k3m1) (c := k3c1) (by decide +kernel) rfl rfl rfl (by decide +kernel)
def codes1 : List Jvm.Cond := [Jvm.Cond.code x code maxLocals ret, Jvm.Cond.code ({ cls := site_74.cls, name := "mayConfirm", desc := "(JJ)Z" } : Jvm.MethodName) prog_69_method_7_code (4 : Nat) (Option.some Jvm.ClassFile.FieldType.boolean), Jvm.Cond.code ({ cls := "java/lang/Math", name := "max", desc := "(JJ)J" } : Jvm.MethodName) jdk_29_method_66_code (4 : Nat) (Option.some Jvm.ClassFile.FieldType.long)]
set_option maxRecDepth 65536 in
theorem codes_eq : words1.filter isCode = codes1 := rfl
theorem w_codes : ∀ c ∈ words1.filter isCode, c.before args0 about1 = true := by
  rw [codes_eq]
  intro c hc
  simp only [codes1, List.mem_cons, List.not_mem_nil, or_false] at hc
  rcases hc with rfl | rfl | rfl
  · exact w_c0
  · exact w_c1
  · exact w_c2
set_option maxRecDepth 65536 in
theorem w_t1 : words1.all (fun c => isCode c || c.before args0 about1) = true := by decide +kernel
theorem w_tables : (allAtoms (Jvm.Cond.code x code maxLocals ret :: tables_1)).before args0 about1 = true := by
  rw [allAtoms_all]
  show words1.all (fun c => c.before args0 about1) = true
  refine all_split ?_ w_codes
  rw [w_t1]
set_option maxRecDepth 65536 in
theorem w_case : (Jvm.Cond.and given_1 narrow_1).before args0 about1 = true := by decide +kernel
theorem w_applies : (headSpec (Jvm.Cond.code x code maxLocals ret :: tables_1) room_1).applies x e0.platform about1 = true :=
  (Spec.applies_iff w_frames).mpr ⟨w_running, w_runnable, w_alone, w_named, w_hears, w_ripe, w_room, w_tables⟩
theorem atStart : AtStart classFile x code maxLocals ret World_1 tables_1 room_1 Calls_1 rest_1 Pre_1 launch0 p0 e0 about1 theMethod args0 below0 :=
  ⟨lists_1, trivial, launch0.admits_env _ _ _, launch0.least_env, fairChoices_fair.cas, fairChoices_fair.clock, w_frames, w_args, w_heap, w_applies, trivial, trivial, w_case⟩
end start1
theorem witness_1 : WitnessClaimed_1 := ⟨start1.p0, start1.e0, start1.about1, start1.theMethod, start1.args0, start1.below0, start1.atStart⟩
end Jvm.Pilot.@@N@@
