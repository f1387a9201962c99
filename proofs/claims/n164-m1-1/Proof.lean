import JvmDerived
import JvmDerived.Pilot.@@N@@Statement
import JvmDerived.Pilot.@@N@@Code
set_option linter.unusedVariables false
set_option linter.unusedSimpArgs false
@@BLOCK:HandJ.lean.txt@@
@@BLOCK:SymMore.lean.txt@@
namespace Jvm.Pilot.@@N@@
open Jvm Jvm.ClassFile Sem Op Lib Jvm.Free Jvm.Stand Jvm.LawKit Jvm.RoadKit Bundle Jvm.Pilot.@@N@@.Jvm.D
section OwnKit
variable {p : Program} {l : Launch} {e : Env} {R : Room} {s : State} {m : MethodId} {args : Array Value} {below : List Frame} {meth : Method} {c : Code} {T T' : State} {locs : List Loc} {cells slots : Nat} {F F' : JFrame} {K : State → Prop}
/-- from the frame F the run comes to a state that K takes -/
def own_R (p : Program) (e : Env) (below : List Frame) (K : State → Prop) (T : State) (F : JFrame) : Prop := ∃ t, Steps p.tables e below (T.setTop F) t ∧ K t
theorem own_go (h : ∀ t, Steps p.tables e below (T'.setTop F') t → Steps p.tables e below (T.setTop F) t) (r : own_R p e below K T' F') : own_R p e below K T F := by
  obtain ⟨t, h1, h2⟩ := r
  exact ⟨t, h t h1, h2⟩
/-- the end of the body: it returned, and Q holds -/
def own_E (s : State) (below : List Frame) (Q : Option Value → Heap → List Loc → Prop) (k n : Nat) (t : State) : Prop :=
  t.status = .running ∧ ∃ v L, Ended t below (.returned v) ∧ Q v t.heap L ∧ FrameEnd s (.returned v) t L k n
/-- a join: the run stands at F', the heap as I says -/
def own_K (p : Program) (l : Launch) (e : Env) (R : Room) (s : State) (m : MethodId) (args : Array Value) (below : List Frame) (meth : Method) (c : Code) (n0 cells slots : Nat) (I : Heap → Prop) (F' : JFrame) (t : State) : Prop :=
  ∃ (T' : State) (L' : List Loc), t = T'.setTop F' ∧ Stand p l e R s m args below meth c T' L' cells slots ∧ I T'.heap ∧ Fr n0 L'
theorem own_here {n0 : Nat} {I : Heap → Prop} (X : Stand p l e R s m args below meth c T locs cells slots) (i : I T.heap) (N : Fr n0 locs) : own_R p e below (own_K p l e R s m args below meth c n0 cells slots I F) T F :=
  ⟨_, Steps.refl _, T, locs, rfl, X, i, N⟩
theorem own_retN {Q : Option Value → Heap → List Loc → Prop} {k n : Nat} (X : Stand p l e R s m args below meth c T locs cells slots) (hx : p.tables.exec = Jvm.exec) {pc : Nat} {Ls : Array Slot} {z : Int32} {t : FieldType} {rest : List Value} (hret : meth.sig.returnType = some t) (ht : t = .boolean ∨ t = .byte ∨ t = .char ∨ t = .short) (hlk : meth.locks = false)
    (hd : decode c.code pc = .ok (.ireturn, 1)) (hk : cells ≤ k) (hn : slots ≤ n) (hQ : Q (some (.int (nar t z))) T.heap locs) : own_R p e below (own_E s below Q k n) T (mkF m pc Ls (.int z :: rest)) := by
  obtain ⟨fs, hr, hrun, hended, hW, hsame⟩ := X.leave (v := some (.int (nar t z))) (fun h => by rw [hret] at h; cases h) hlk
  exact ⟨_, retN X hx hret ht hd hr, hrun, _, _, hended, hQ, ⟨_, rfl⟩, hW, hsame.mono hk hn⟩
theorem own_retW {Q : Option Value → Heap → List Loc → Prop} {k n : Nat} (X : Stand p l e R s m args below meth c T locs cells slots) (hx : p.tables.exec = Jvm.exec) {pc : Nat} {Ls : Array Slot} {w : Value} {t : FieldType} {i : Instr} {rest : List Value} (hret : meth.sig.returnType = some t) (hnw : narrow t w = w)
    (hi : (i = .ireturn ∧ (t = .int ∨ t = .boolean ∨ t = .byte ∨ t = .char ∨ t = .short) ∧ ∃ z, w = .int z) ∨ (i = .lreturn ∧ t = .long ∧ ∃ z, w = .long z) ∨ (i = .dreturn ∧ t = .double ∧ ∃ z, w = .double z) ∨ (i = .freturn ∧ t = .float ∧ ∃ z, w = .float z) ∨ (i = .areturn ∧ t.isReference = true ∧ w.isRef = true)) (hlk : meth.locks = false)
    (hd : decode c.code pc = .ok (i, 1)) (hk : cells ≤ k) (hn : slots ≤ n) (hQ : Q (some w) T.heap locs) : own_R p e below (own_E s below Q k n) T (mkF m pc Ls (w :: rest)) := by
  obtain ⟨fs, hr, hrun, hended, hW, hsame⟩ := X.leave (v := some w) (fun h => by rw [hret] at h; cases h) hlk
  exact ⟨_, retOut X hx hret hnw hi hd hr, hrun, _, _, hended, hQ, ⟨_, rfl⟩, hW, hsame.mono hk hn⟩
theorem own_retV {Q : Option Value → Heap → List Loc → Prop} {k n : Nat} (X : Stand p l e R s m args below meth c T locs cells slots) (hx : p.tables.exec = Jvm.exec) {pc : Nat} {Ls : Array Slot} (hret : meth.sig.returnType = none) (hlk : meth.locks = false)
    (hd : decode c.code pc = .ok (.return_, 1)) (hk : cells ≤ k) (hn : slots ≤ n) (hQ : Q none T.heap locs) : own_R p e below (own_E s below Q k n) T (mkF m pc Ls []) := by
  obtain ⟨fs, hr, hrun, hended, hW, hsame⟩ := X.leave (v := none) (fun _ => rfl) hlk
  exact ⟨_, X.returnOut hx hret hd hr, hrun, _, _, hended, hQ, ⟨_, rfl⟩, hW, hsame.mono hk hn⟩
theorem own_lti {x y : Int32} {a b : Int} (h : x < y) (ha : x.toInt = a) (hb : y.toInt = b) : a < b := by rw [← ha, ← hb]; exact Int32.lt_iff_toInt_lt.mp h
theorem own_nlti {x y : Int32} {a b : Int} (h : ¬ x < y) (ha : x.toInt = a) (hb : y.toInt = b) : b ≤ a := by rw [← ha, ← hb]; rw [Int32.lt_iff_toInt_lt] at h; omega
theorem own_eqi {x y : Int32} {a b : Int} (h : x = y) (ha : x.toInt = a) (hb : y.toInt = b) : a = b := by rw [← ha, ← hb, h]
theorem own_nei {x y : Int32} {a b : Int} (h : ¬ x = y) (ha : x.toInt = a) (hb : y.toInt = b) : a ≠ b := by rw [← ha, ← hb]; exact fun q => h (Int32.toInt_inj.mp q)
theorem own_if0 {P : Prop} [Decidable P] (h : (if P then (1 : Int32) else (0 : Int32)) = (0 : Int32)) : ¬ P := fun q => by rw [if_pos q] at h; exact absurd h (by decide)
theorem own_if1 {P : Prop} [Decidable P] (h : ¬ (if P then (1 : Int32) else (0 : Int32)) = (0 : Int32)) : P := by
  by_cases q : P
  · exact q
  · exact absurd (if_neg q) h
theorem own_b01 {P : Prop} [Decidable P] : nar .boolean (if P then (1 : Int32) else (0 : Int32)) = (if P then (1 : Int32) else (0 : Int32)) := by split <;> rfl
/-- the end of the body, where a String constant may have been interned -/
def own_EW (s : State) (below : List Frame) (Q : Option Value → Heap → List Loc → Prop) (k n : Nat) (t : State) : Prop :=
  t.status = .running ∧ ∃ v L, Ended t below (.returned v) ∧ Q v t.heap L ∧ ReturnedEndW s (.returned v) t L k n
theorem own_retNW {Q : Option Value → Heap → List Loc → Prop} {k n j : Nat} {vm₁ : Vm} (X : Stand p l e R (s.setVm vm₁) m args below meth c T locs cells slots) (hx : p.tables.exec = Jvm.exec) {pc : Nat} {Ls : Array Slot} {z : Int32} {t : FieldType} {rest : List Value} (hret : meth.sig.returnType = some t) (ht : t = .boolean ∨ t = .byte ∨ t = .char ∨ t = .short) (hlk : meth.locks = false)
    (hd : decode c.code pc = .ok (.ireturn, 1)) (hS : s.Since vm₁ j) (hj : j ≤ T.heap.size) (hk : cells ≤ k) (hn : slots ≤ n) (hQ : Q (some (.int (nar t z))) T.heap locs) : own_R p e below (own_EW s below Q k n) T (mkF m pc Ls (.int z :: rest)) := by
  obtain ⟨fs, hr, hrun, hended, h1, h2, h3, h4⟩ := X.leaveW hS hj (v := some (.int (nar t z))) (fun h => by rw [hret] at h; cases h) hlk
  exact ⟨_, retN X hx hret ht hd hr, hrun, _, _, hended, hQ, h1, h2, h3, h4.mono hk hn⟩
end OwnKit
theorem pd_0 : parseMethodDescriptor "()V" = some ⟨[], none⟩ := by decide +kernel
theorem pd_1 : parseMethodDescriptor "(II)V" = some ⟨[.int, .int], none⟩ := by decide +kernel
theorem pd_2 : parseMethodDescriptor "([IIII)V" = some ⟨[(.array .int), .int, .int, .int], none⟩ := by decide +kernel
theorem pd_3 : parseMethodDescriptor "(III)V" = some ⟨[.int, .int, .int], none⟩ := by decide +kernel
theorem pd_4 : parseMethodDescriptor "(I)V" = some ⟨[.int], none⟩ := by decide +kernel
theorem pd_5 : parseMethodDescriptor "()I" = some ⟨[], some .int⟩ := by decide +kernel
theorem pd_6 : parseMethodDescriptor "(II)I" = some ⟨[.int, .int], some .int⟩ := by decide +kernel
theorem pd_7 : parseMethodDescriptor "(I)I" = some ⟨[.int], some .int⟩ := by decide +kernel
theorem pd_8 : parseMethodDescriptor "(III)I" = some ⟨[.int, .int, .int], some .int⟩ := by decide +kernel
theorem d1_0 : decode prog_110_method_1_code 0 = .ok (.aload_n 0, 1) := by decide +kernel
theorem d1_1 : decode prog_110_method_1_code 1 = .ok (.invokespecial 1, 3) := by decide +kernel
theorem d1_4 : decode prog_110_method_1_code 4 = .ok (.aload_n 0, 1) := by decide +kernel
theorem d1_5 : decode prog_110_method_1_code 5 = .ok (.iconst 0, 1) := by decide +kernel
theorem d1_6 : decode prog_110_method_1_code 6 = .ok (.newarray .int, 2) := by decide +kernel
theorem d1_8 : decode prog_110_method_1_code 8 = .ok (.putfield 7, 3) := by decide +kernel
theorem d1_11 : decode prog_110_method_1_code 11 = .ok (.return_, 1) := by decide +kernel
theorem pn_0 : plainName "com/example/signetry/signetry/card/WordFrame" = true := by first | (simp [plainName, overriddenIn]; done) | decide +kernel
theorem ef_1 (m : MethodId) (x0 : Addr) : entryFrame m #[(.ref x0)] 1 = mkF m 0 #[.val (.ref x0)] [] := by first | (simp [entryFrame, mkF, argsToLocals, Value.category]; done) | rfl
def Q1 (Z : State) (a : Addr) (h0 : Heap) (n0 : Nat) (v : Option Value) (h : Heap) (L : List Loc) : Prop := ∃ (b : Addr) (kb : ClassId), v = none ∧ Fr n0 L ∧ Keep h0 h [a] ∧ h0.size ≤ b ∧ Exa Z h a "com/example/signetry/signetry/card/WordFrame" ∧ Fld Z h a "com/example/signetry/signetry/card/WordFrame" "words" "[I" (.ref b) ∧ Fld Z h a "com/example/signetry/signetry/card/WordFrame" "localCount" "I" (.int (0 : Int32)) ∧ Fld Z h a "com/example/signetry/signetry/card/WordFrame" "maxStack" "I" (.int (0 : Int32)) ∧ Fld Z h a "com/example/signetry/signetry/card/WordFrame" "top" "I" (.int (0 : Int32)) ∧ Fld Z h a "com/example/signetry/signetry/card/WordFrame" "thisUninitialized" "Z" (.int (0 : Int32)) ∧ Fld Z h a "com/example/signetry/signetry/card/WordFrame" "localsVersion" "I" (.int (0 : Int32)) ∧ Arv Z h b kb .int (0 : Int32) [] (.int (0 : Int32))
set_option maxRecDepth 65536 in
set_option maxHeartbeats 40000000 in
theorem rm1 (l : Launch) (Z : State) (a0 : Array Value) (hw : ∀ d ∈ tables_1, d.before a0 Z = true) (ws : List Jvm.Cond) (a : Addr) (h0 : Heap) (n0 : Nat) (Z0 : n0 ≤ h0.size) (F_words_a : Fld Z h0 a "com/example/signetry/signetry/card/WordFrame" "words" "[I" .null) (F_localCount_a : Fld Z h0 a "com/example/signetry/signetry/card/WordFrame" "localCount" "I" (.int (0 : Int32))) (F_maxStack_a : Fld Z h0 a "com/example/signetry/signetry/card/WordFrame" "maxStack" "I" (.int (0 : Int32))) (F_top_a : Fld Z h0 a "com/example/signetry/signetry/card/WordFrame" "top" "I" (.int (0 : Int32))) (F_thisUninitialized_a : Fld Z h0 a "com/example/signetry/signetry/card/WordFrame" "thisUninitialized" "Z" (.int (0 : Int32))) (F_localsVersion_a : Fld Z h0 a "com/example/signetry/signetry/card/WordFrame" "localsVersion" "I" (.int (0 : Int32))) (E_a : Exa Z h0 a "com/example/signetry/signetry/card/WordFrame") (g_a : n0 ≤ a) :
    MetFree l (⟨"com/example/signetry/signetry/card/WordFrame", "<init>", "()V"⟩ : MethodName) (head1 (Jvm.Cond.code (⟨"com/example/signetry/signetry/card/WordFrame", "<init>", "()V"⟩ : MethodName) prog_110_method_1_code 1 none :: ws) ({ frames := 1, cells := 1, slots := 0, locals := 12 } : Room)) (fun aS U => aS = #[(.ref a)] ∧ Z.Warmed39 U.vm ∧ U.heap = h0) (fun _ _ _ _ _ => True) (fun _ U o U' => ∃ v L, o = .returned v ∧ Q1 Z a h0 n0 v U'.heap L ∧ FrameEnd U o U' L ({ frames := 1, cells := 1, slots := 0, locals := 12 } : Room).cells ({ frames := 1, cells := 1, slots := 0, locals := 12 } : Room).slots) := by
  refine MetFree.of_bodySF (plainFor_of_name pn_0) hisR ?_
  intro p e s m args below meth c s₁ Bd hml0 hP hK
  obtain ⟨rfl, hZ, hh⟩ := hP
  have hx := Bd.exec
  have hby := Bd.bytes
  have hml : c.maxLocals = 1 := hml0
  have hown : s.vm.findClass "com/example/signetry/signetry/card/WordFrame" = some m.cls := findClass_of_methodNamed Bd.named
  have hnm := (name_of_methodNamed Bd.named Bd.method).1
  have X0 : Stand p l e ({ frames := 1, cells := 1, slots := 0, locals := 12 } : Room) s m #[(.ref a)] below meth c s₁ [] 0 0 := Stand.of_body Bd
  have e0 : s₁.heap = h0 := by rw [← hh, Bd.state]; rfl
  have N0 := Fr.nil n0
  have Kh : Keep h0 h0 [a] := Keep.refl _ _
  suffices H : own_R p e below (own_E s below (Q1 Z a h0 n0) ({ frames := 1, cells := 1, slots := 0, locals := 12 } : Room).cells ({ frames := 1, cells := 1, slots := 0, locals := 12 } : Room).slots) s₁ (mkF m 0 #[.val (.ref a)] []) by
    obtain ⟨t, hst, hrun, v, L, hend, hQ, hF⟩ := H
    exact ⟨t, _, castTop (ef_1 m a) hst, hrun, hend, v, L, rfl, hQ, hF⟩
  show own_R p e below _ s₁ (mkF m 0 #[.val (.ref a)] [])
  refine own_go (fun t k => XS.aloadN X0.here hx rfl (hb hby d1_0) rfl rfl  k) ?_
  show own_R p e below _ s₁ (mkF m 1 #[.val (.ref a)] [(.ref a)])
  obtain ⟨T1, X1, e1, st1⟩ := initO X0 hx hZ hown (hw _ (List.mem_of_getElem? (i := 6) rfl)) (hw _ (List.mem_of_getElem? (i := 7) rfl)) (hw _ (List.mem_of_getElem? (i := 8) rfl)) e0 (g := (mkF m 1 #[.val (.ref a)] [(.ref a)])) rfl (by rw [hml]; rfl) rfl (hb hby d1_1) (by decide) (W := 0) (by show 2 * 0 + _ ≤ _; exact Nat.le_of_eq rfl) (by decide)
  refine own_go (st1) ?_
  show own_R p e below _ T1 (mkF m 4 #[.val (.ref a)] [])
  refine own_go (fun t k => XS.aloadN X1.here hx rfl (hb hby d1_4) rfl rfl  k) ?_
  show own_R p e below _ T1 (mkF m 5 #[.val (.ref a)] [(.ref a)])
  refine own_go (fun t k => XS.iconst X1.here hx rfl (hb hby d1_5) k) ?_
  show own_R p e below _ T1 (mkF m 6 #[.val (.ref a)] [(.int (0 : Int32)), (.ref a)])
  obtain ⟨T2, h2, k2, X2, e2, E2, A2, st2⟩ := newP X1 hx hZ (hw _ (List.mem_of_getElem? (i := 9) rfl)) e1 (g := (mkF m 6 #[.val (.ref a)] [(.int (0 : Int32)), (.ref a)])) rfl (hb hby d1_6) rfl (by decide) (cap := 0) (by decide) (by decide) (by decide) (by decide)
  obtain ⟨b2, g2⟩ : ∃ z, z = h0.size := ⟨_, rfl⟩
  rw [← g2] at A2 st2
  have g_b2 : n0 ≤ b2 := Nat.le_trans (Nat.le_trans Z0 Kh.1) (Nat.le_of_eq g2.symm)
  have sz_b2 : h0.size ≤ b2 := Nat.le_trans Kh.1 (Nat.le_of_eq g2.symm)
  have ne_a_b2 : a ≠ b2 := Nat.ne_of_lt (Nat.lt_of_lt_of_le F_words_a.lt (Nat.le_of_eq g2.symm))
  replace F_words_a := Fld.ext E2 F_words_a
  replace F_localCount_a := Fld.ext E2 F_localCount_a
  replace F_maxStack_a := Fld.ext E2 F_maxStack_a
  replace F_top_a := Fld.ext E2 F_top_a
  replace F_thisUninitialized_a := Fld.ext E2 F_thisUninitialized_a
  replace F_localsVersion_a := Fld.ext E2 F_localsVersion_a
  replace E_a := Exa.ext E2 E_a
  replace Kh := Kh.ext E2
  have V_b2 : Arv Z h2 b2 k2 .int (0 : Int32) [] (.int (0 : Int32)) := (Arv.new A2 (by decide)).pad (pad_rep [] (.int (0 : Int32)) 0)
  refine own_go (st2) ?_
  show own_R p e below _ T2 (mkF m 8 #[.val (.ref a)] [(.ref b2), (.ref a)])
  obtain ⟨T3, h3, X3, e3, W3, st3⟩ := putF X2 hx hZ hown (host := "") (Or.inl (hw _ (List.mem_of_getElem? (i := 10) rfl))) Via.refl e2 F_words_a E_a (Or.inl (hw _ (List.mem_of_getElem? (i := 11) rfl))) (hw _ (List.mem_of_getElem? (i := 1) rfl)) (ty := (.array .int)) (by decide) rfl rfl (g := (mkF m 8 #[.val (.ref a)] [(.ref b2), (.ref a)])) rfl rfl (hb hby d1_8)
  have N3 := Fr.snoc X3 N0 g_a
  replace Kh := Kh.wr W3 (Or.inl (List.mem_of_getElem? (i := 0) rfl))
  replace F_words_a := Fld.same W3 F_words_a
  replace F_localCount_a := Fld.other W3 F_localCount_a (Or.inr (slot_ne (Or.inl (hw _ (List.mem_of_getElem? (i := 25) rfl))) (Or.inl (hw _ (List.mem_of_getElem? (i := 11) rfl))) (by decide) (t := .int) (t' := (.array .int)) (by decide) (by decide)))
  replace F_maxStack_a := Fld.other W3 F_maxStack_a (Or.inr (slot_ne (Or.inl (hw _ (List.mem_of_getElem? (i := 27) rfl))) (Or.inl (hw _ (List.mem_of_getElem? (i := 11) rfl))) (by decide) (t := .int) (t' := (.array .int)) (by decide) (by decide)))
  replace F_top_a := Fld.other W3 F_top_a (Or.inr (slot_ne (Or.inl (hw _ (List.mem_of_getElem? (i := 29) rfl))) (Or.inl (hw _ (List.mem_of_getElem? (i := 11) rfl))) (by decide) (t := .int) (t' := (.array .int)) (by decide) (by decide)))
  replace F_thisUninitialized_a := Fld.other W3 F_thisUninitialized_a (Or.inr (slot_ne (Or.inl (hw _ (List.mem_of_getElem? (i := 31) rfl))) (Or.inl (hw _ (List.mem_of_getElem? (i := 11) rfl))) (by decide) (t := .boolean) (t' := (.array .int)) (by decide) (by decide)))
  replace F_localsVersion_a := Fld.other W3 F_localsVersion_a (Or.inr (slot_ne (Or.inl (hw _ (List.mem_of_getElem? (i := 33) rfl))) (Or.inl (hw _ (List.mem_of_getElem? (i := 11) rfl))) (by decide) (t := .int) (t' := (.array .int)) (by decide) (by decide)))
  replace E_a := Exa.wr W3 E_a
  replace V_b2 := Arv.other V_b2 W3 (Ne.symm ne_a_b2)
  refine own_go (st3) ?_
  show own_R p e below _ T3 (mkF m 11 #[.val (.ref a)] [])
  refine own_retV X3 hx Bd.returns (BodyLoose.notSynchronized Bd) (hb hby d1_11) (by decide) (by decide) ?_
  rw [e3]
  exact ⟨b2, k2, rfl, N3, Kh, sz_b2, E_a, F_words_a, F_localCount_a, F_maxStack_a, F_top_a, F_thisUninitialized_a, F_localsVersion_a, V_b2⟩
theorem d5_0 : decode jdk_65_method_30_code 0 = .ok (.iload_n 1, 1) := by decide +kernel
theorem d5_1 : decode jdk_65_method_30_code 1 = .ok (.iload_n 2, 1) := by decide +kernel
theorem d5_2 : decode jdk_65_method_30_code 2 = .ok (.if_icmp .le 44, 3) := by decide +kernel
theorem d5_46 : decode jdk_65_method_30_code 46 = .ok (.iload_n 1, 1) := by decide +kernel
theorem d5_47 : decode jdk_65_method_30_code 47 = .ok (.ifCond .ge 12, 3) := by decide +kernel
theorem d5_59 : decode jdk_65_method_30_code 59 = .ok (.iload_n 2, 1) := by decide +kernel
theorem d5_60 : decode jdk_65_method_30_code 60 = .ok (.iload_n 0, 1) := by decide +kernel
theorem d5_61 : decode jdk_65_method_30_code 61 = .ok (.if_icmp .le 12, 3) := by decide +kernel
theorem d5_73 : decode jdk_65_method_30_code 73 = .ok (.return_, 1) := by decide +kernel
theorem pn_1 : plainName "java/util/Arrays" = true := by first | (simp [plainName, overriddenIn]; done) | decide +kernel
theorem ef_rc3 (m : MethodId)  : entryFrame m #[(.int (3 : Int32)), (.int (0 : Int32)), (.int (2 : Int32))] 3 = mkF m 0 #[.val (.int (3 : Int32)), .val (.int (0 : Int32)), .val (.int (2 : Int32))] [] := by first | (simp [entryFrame, mkF, argsToLocals, Value.category]; done) | rfl
def Qrc3 (Z : State)  (h0 : Heap) (n0 : Nat) (v : Option Value) (h : Heap) (L : List Loc) : Prop := v = none ∧ Fr n0 L ∧ h = h0
set_option maxRecDepth 65536 in
set_option maxHeartbeats 40000000 in
theorem rmrc3 (l : Launch) (Z : State) (a0 : Array Value) (hw : ∀ d ∈ tables_1, d.before a0 Z = true) (ws : List Jvm.Cond)  (h0 : Heap) (n0 : Nat) (Z0 : n0 ≤ h0.size) :
    MetFree l (⟨"java/util/Arrays", "rangeCheck", "(III)V"⟩ : MethodName) (head1 (Jvm.Cond.code (⟨"java/util/Arrays", "rangeCheck", "(III)V"⟩ : MethodName) jdk_65_method_30_code 3 none :: ws) ({ frames := 0, cells := 0, slots := 0, locals := 0 } : Room)) (fun aS U => aS = #[(.int (3 : Int32)), (.int (0 : Int32)), (.int (2 : Int32))] ∧ Z.Warmed39 U.vm ∧ U.heap = h0) (fun _ _ _ _ _ => True) (fun _ U o U' => ∃ v L, o = .returned v ∧ Qrc3 Z  h0 n0 v U'.heap L ∧ FrameEnd U o U' L ({ frames := 0, cells := 0, slots := 0, locals := 0 } : Room).cells ({ frames := 0, cells := 0, slots := 0, locals := 0 } : Room).slots) := by
  refine MetFree.of_bodySF (plainFor_of_name pn_1) hisR ?_
  intro p e s m args below meth c s₁ Bd hml0 hP hK
  obtain ⟨rfl, hZ, hh⟩ := hP
  have hx := Bd.exec
  have hby := Bd.bytes
  have hml : c.maxLocals = 3 := hml0
  have hown : s.vm.findClass "java/util/Arrays" = some m.cls := findClass_of_methodNamed Bd.named
  have hnm := (name_of_methodNamed Bd.named Bd.method).1
  have X0 : Stand p l e ({ frames := 0, cells := 0, slots := 0, locals := 0 } : Room) s m #[(.int (3 : Int32)), (.int (0 : Int32)), (.int (2 : Int32))] below meth c s₁ [] 0 0 := Stand.of_body Bd
  have e0 : s₁.heap = h0 := by rw [← hh, Bd.state]; rfl
  have N0 := Fr.nil n0
  have Kh : Keep h0 h0 [] := Keep.refl _ _
  suffices H : own_R p e below (own_E s below (Qrc3 Z  h0 n0) ({ frames := 0, cells := 0, slots := 0, locals := 0 } : Room).cells ({ frames := 0, cells := 0, slots := 0, locals := 0 } : Room).slots) s₁ (mkF m 0 #[.val (.int (3 : Int32)), .val (.int (0 : Int32)), .val (.int (2 : Int32))] []) by
    obtain ⟨t, hst, hrun, v, L, hend, hQ, hF⟩ := H
    exact ⟨t, _, castTop (ef_rc3 m ) hst, hrun, hend, v, L, rfl, hQ, hF⟩
  show own_R p e below _ s₁ (mkF m 0 #[.val (.int (3 : Int32)), .val (.int (0 : Int32)), .val (.int (2 : Int32))] [])
  refine own_go (fun t k => XS.iloadN X0.here hx rfl (hb hby d5_0) rfl  k) ?_
  show own_R p e below _ s₁ (mkF m 1 #[.val (.int (3 : Int32)), .val (.int (0 : Int32)), .val (.int (2 : Int32))] [(.int (0 : Int32))])
  refine own_go (fun t k => XS.iloadN X0.here hx rfl (hb hby d5_1) rfl  k) ?_
  show own_R p e below _ s₁ (mkF m 2 #[.val (.int (3 : Int32)), .val (.int (0 : Int32)), .val (.int (2 : Int32))] [(.int (2 : Int32)), (.int (0 : Int32))])
  refine own_go (fun t k => XS.icmpYes X0.here hx rfl (pc0 := 2) (pc' := 46) rfl (hb hby d5_2) rfl (flt (by decide : ¬ ((2 : Int32) < (0 : Int32)))).2.2.2 (by decide) (by decide) k) ?_
  show own_R p e below _ s₁ (mkF m 46 #[.val (.int (3 : Int32)), .val (.int (0 : Int32)), .val (.int (2 : Int32))] [])
  refine own_go (fun t k => XS.iloadN X0.here hx rfl (hb hby d5_46) rfl  k) ?_
  show own_R p e below _ s₁ (mkF m 47 #[.val (.int (3 : Int32)), .val (.int (0 : Int32)), .val (.int (2 : Int32))] [(.int (0 : Int32))])
  refine own_go (fun t k => XS.ifYes X0.here hx rfl (pc0 := 47) (pc' := 59) rfl (hb hby d5_47) rfl ((if0 _ _).trans (flt (by decide : ¬ ((0 : Int32) < (0 : Int32)))).2.1) (by decide) (by decide) k) ?_
  show own_R p e below _ s₁ (mkF m 59 #[.val (.int (3 : Int32)), .val (.int (0 : Int32)), .val (.int (2 : Int32))] [])
  refine own_go (fun t k => XS.iloadN X0.here hx rfl (hb hby d5_59) rfl  k) ?_
  show own_R p e below _ s₁ (mkF m 60 #[.val (.int (3 : Int32)), .val (.int (0 : Int32)), .val (.int (2 : Int32))] [(.int (2 : Int32))])
  refine own_go (fun t k => XS.iloadN X0.here hx rfl (hb hby d5_60) rfl  k) ?_
  show own_R p e below _ s₁ (mkF m 61 #[.val (.int (3 : Int32)), .val (.int (0 : Int32)), .val (.int (2 : Int32))] [(.int (3 : Int32)), (.int (2 : Int32))])
  refine own_go (fun t k => XS.icmpYes X0.here hx rfl (pc0 := 61) (pc' := 73) rfl (hb hby d5_61) rfl (flt (by decide : ¬ ((3 : Int32) < (2 : Int32)))).2.2.2 (by decide) (by decide) k) ?_
  show own_R p e below _ s₁ (mkF m 73 #[.val (.int (3 : Int32)), .val (.int (0 : Int32)), .val (.int (2 : Int32))] [])
  refine own_retV X0 hx Bd.returns (BodyLoose.notSynchronized Bd) (hb hby d5_73) (by decide) (by decide) ?_
  exact ⟨rfl, N0, e0⟩
theorem d4_0 : decode jdk_65_method_104_code 0 = .ok (.aload_n 0, 1) := by decide +kernel
theorem d4_1 : decode jdk_65_method_104_code 1 = .ok (.arraylength, 1) := by decide +kernel
theorem d4_2 : decode jdk_65_method_104_code 2 = .ok (.iload_n 1, 1) := by decide +kernel
theorem d4_3 : decode jdk_65_method_104_code 3 = .ok (.iload_n 2, 1) := by decide +kernel
theorem d4_4 : decode jdk_65_method_104_code 4 = .ok (.invokestatic 13, 3) := by decide +kernel
theorem d4_7 : decode jdk_65_method_104_code 7 = .ok (.iload_n 1, 1) := by decide +kernel
theorem d4_8 : decode jdk_65_method_104_code 8 = .ok (.istore 4, 2) := by decide +kernel
theorem d4_10 : decode jdk_65_method_104_code 10 = .ok (.iload 4, 2) := by decide +kernel
theorem d4_12 : decode jdk_65_method_104_code 12 = .ok (.iload_n 2, 1) := by decide +kernel
theorem d4_13 : decode jdk_65_method_104_code 13 = .ok (.if_icmp .ge 14, 3) := by decide +kernel
theorem d4_16 : decode jdk_65_method_104_code 16 = .ok (.aload_n 0, 1) := by decide +kernel
theorem d4_17 : decode jdk_65_method_104_code 17 = .ok (.iload 4, 2) := by decide +kernel
theorem d4_19 : decode jdk_65_method_104_code 19 = .ok (.iload_n 3, 1) := by decide +kernel
theorem d4_20 : decode jdk_65_method_104_code 20 = .ok (.iastore, 1) := by decide +kernel
theorem d4_21 : decode jdk_65_method_104_code 21 = .ok (.iinc 4 1, 3) := by decide +kernel
theorem d4_24 : decode jdk_65_method_104_code 24 = .ok (.goto (-14), 3) := by decide +kernel
theorem d4_27 : decode jdk_65_method_104_code 27 = .ok (.return_, 1) := by decide +kernel
theorem ef_4 (m : MethodId) (x0 : Addr) : entryFrame m #[(.ref x0), (.int (0 : Int32)), (.int (2 : Int32)), (.int (0 : Int32))] 5 = mkF m 0 #[.val (.ref x0), .val (.int (0 : Int32)), .val (.int (2 : Int32)), .val (.int (0 : Int32)), .unset] [] := by first | (simp [entryFrame, mkF, argsToLocals, Value.category]; done) | rfl
def Q4 (Z : State) (w : Addr) (kw : ClassId) (h0 : Heap) (n0 : Nat) (v : Option Value) (h : Heap) (L : List Loc) : Prop := v = none ∧ Fr n0 L ∧ Keep h0 h [w] ∧ Arv Z h w kw .int (3 : Int32) [(.int (0 : Int32)), (.int (0 : Int32)), (.int (0 : Int32))] (.int (0 : Int32))
set_option maxRecDepth 65536 in
set_option maxHeartbeats 40000000 in
theorem rm4 (l : Launch) (Z : State) (a0 : Array Value) (hw : ∀ d ∈ tables_1, d.before a0 Z = true) (ws : List Jvm.Cond) (w : Addr) (kw : ClassId) (h0 : Heap) (n0 : Nat) (Z0 : n0 ≤ h0.size) (V_w : Arv Z h0 w kw .int (3 : Int32) [(.int (0 : Int32)), (.int (0 : Int32)), (.int (0 : Int32))] (.int (0 : Int32))) (g_w : n0 ≤ w) :
    MetFree l (⟨"java/util/Arrays", "fill", "([IIII)V"⟩ : MethodName) (head1 (Jvm.Cond.code (⟨"java/util/Arrays", "fill", "([IIII)V"⟩ : MethodName) jdk_65_method_104_code 5 none :: ws) ({ frames := 1, cells := 0, slots := 0, locals := 14 } : Room)) (fun aS U => aS = #[(.ref w), (.int (0 : Int32)), (.int (2 : Int32)), (.int (0 : Int32))] ∧ Z.Warmed39 U.vm ∧ U.heap = h0) (fun _ _ _ _ _ => True) (fun _ U o U' => ∃ v L, o = .returned v ∧ Q4 Z w kw h0 n0 v U'.heap L ∧ FrameEnd U o U' L ({ frames := 1, cells := 0, slots := 0, locals := 14 } : Room).cells ({ frames := 1, cells := 0, slots := 0, locals := 14 } : Room).slots) := by
  refine MetFree.of_bodySF (plainFor_of_name pn_1) hisR ?_
  intro p e s m args below meth c s₁ Bd hml0 hP hK
  obtain ⟨rfl, hZ, hh⟩ := hP
  have hx := Bd.exec
  have hby := Bd.bytes
  have hml : c.maxLocals = 5 := hml0
  have hown : s.vm.findClass "java/util/Arrays" = some m.cls := findClass_of_methodNamed Bd.named
  have hnm := (name_of_methodNamed Bd.named Bd.method).1
  have X0 : Stand p l e ({ frames := 1, cells := 0, slots := 0, locals := 14 } : Room) s m #[(.ref w), (.int (0 : Int32)), (.int (2 : Int32)), (.int (0 : Int32))] below meth c s₁ [] 0 0 := Stand.of_body Bd
  have e0 : s₁.heap = h0 := by rw [← hh, Bd.state]; rfl
  have N0 := Fr.nil n0
  have Kh : Keep h0 h0 [w] := Keep.refl _ _
  suffices H : own_R p e below (own_E s below (Q4 Z w kw h0 n0) ({ frames := 1, cells := 0, slots := 0, locals := 14 } : Room).cells ({ frames := 1, cells := 0, slots := 0, locals := 14 } : Room).slots) s₁ (mkF m 0 #[.val (.ref w), .val (.int (0 : Int32)), .val (.int (2 : Int32)), .val (.int (0 : Int32)), .unset] []) by
    obtain ⟨t, hst, hrun, v, L, hend, hQ, hF⟩ := H
    exact ⟨t, _, castTop (ef_4 m w) hst, hrun, hend, v, L, rfl, hQ, hF⟩
  show own_R p e below _ s₁ (mkF m 0 #[.val (.ref w), .val (.int (0 : Int32)), .val (.int (2 : Int32)), .val (.int (0 : Int32)), .unset] [])
  refine own_go (fun t k => XS.aloadN X0.here hx rfl (hb hby d4_0) rfl rfl  k) ?_
  show own_R p e below _ s₁ (mkF m 1 #[.val (.ref w), .val (.int (0 : Int32)), .val (.int (2 : Int32)), .val (.int (0 : Int32)), .unset] [(.ref w)])
  obtain ⟨cl1, Ar1, q1, S1, Nn1, Hh1, G1⟩ := id V_w
  refine own_go (X0.arraylength hx (by rw [e0]; exact Ar1.1) (State.isArrayOf_alike hZ.alike Ar1.2.1) (g := (mkF m 1 #[.val (.ref w), .val (.int (0 : Int32)), .val (.int (2 : Int32)), .val (.int (0 : Int32)), .unset] [(.ref w)])) rfl rfl (hb hby d4_1)) ?_
  rw [len_of S1 Nn1]
  show own_R p e below _ s₁ (mkF m 2 #[.val (.ref w), .val (.int (0 : Int32)), .val (.int (2 : Int32)), .val (.int (0 : Int32)), .unset] [(.int (3 : Int32))])
  refine own_go (fun t k => XS.iloadN X0.here hx rfl (hb hby d4_2) rfl  k) ?_
  show own_R p e below _ s₁ (mkF m 3 #[.val (.ref w), .val (.int (0 : Int32)), .val (.int (2 : Int32)), .val (.int (0 : Int32)), .unset] [(.int (0 : Int32)), (.int (3 : Int32))])
  refine own_go (fun t k => XS.iloadN X0.here hx rfl (hb hby d4_3) rfl  k) ?_
  show own_R p e below _ s₁ (mkF m 4 #[.val (.ref w), .val (.int (0 : Int32)), .val (.int (2 : Int32)), .val (.int (0 : Int32)), .unset] [(.int (2 : Int32)), (.int (0 : Int32)), (.int (3 : Int32))])
  obtain ⟨_, _, ⟨T2, L2, k2, n2⟩, -, X2, ⟨Lc2, hQ2, l2, y2, z2⟩, st2⟩ := Jvm.LawKit.callS X0 hx (y := (⟨"java/util/Arrays", "rangeCheck", "(III)V"⟩ : MethodName)) hown (mvT hZ (hw _ (List.mem_of_getElem? (i := 21) rfl))) (mvT hZ (hw _ (List.mem_of_getElem? (i := 22) rfl))) (mvT hZ (hw _ (List.mem_of_getElem? (i := 19) rfl))) (mvT hZ (hw _ (List.mem_of_getElem? (i := 23) rfl))) (by decide) (backOf (W := 0) (rmrc3 l Z a0 hw []  h0 n0 (Nat.le_trans Z0 Kh.1)) hZ (hw _ (List.mem_of_getElem? (i := 23) rfl)) (hw _ (List.mem_of_getElem? (i := 19) rfl)) (by decide) (by decide)) (g := (mkF m 4 #[.val (.ref w), .val (.int (0 : Int32)), .val (.int (2 : Int32)), .val (.int (0 : Int32)), .unset] [(.int (2 : Int32)), (.int (0 : Int32)), (.int (3 : Int32))])) rfl (by rw [hml]; rfl) (argsL := [(.int (3 : Int32)), (.int (0 : Int32)), (.int (2 : Int32))]) (rest := []) (lenOf pd_3 rfl) rfl (by show 2 * 0 + _ ≤ _; exact Nat.le_of_eq rfl) (hb hby d4_4) (fun _ _ => ⟨rfl, e0, (by decide : 0 + 0 ≤ _), (by decide : 0 + 0 ≤ _)⟩)
  dsimp only [Pt.U, Pt.locs, Pt.cells, Pt.slots] at X2 l2 y2 z2 st2 hQ2
  subst l2 y2 z2
  obtain ⟨rfl, Nq2, e2⟩ := hQ2
  have N2 := Fr.app N0 Nq2
  refine own_go (st2) ?_
  show own_R p e below _ T2 (mkF m 7 #[.val (.ref w), .val (.int (0 : Int32)), .val (.int (2 : Int32)), .val (.int (0 : Int32)), .unset] [])
  refine own_go (fun t k => XS.iloadN X2.here hx rfl (hb hby d4_7) rfl  k) ?_
  show own_R p e below _ T2 (mkF m 8 #[.val (.ref w), .val (.int (0 : Int32)), .val (.int (2 : Int32)), .val (.int (0 : Int32)), .unset] [(.int (0 : Int32))])
  refine own_go (fun t k => XS.istore X2.here hx rfl (hb hby d4_8) rfl (l' := #[.val (.ref w), .val (.int (0 : Int32)), .val (.int (2 : Int32)), .val (.int (0 : Int32)), .val (.int (0 : Int32))]) rfl k) ?_
  show own_R p e below _ T2 (mkF m 10 #[.val (.ref w), .val (.int (0 : Int32)), .val (.int (2 : Int32)), .val (.int (0 : Int32)), .val (.int (0 : Int32))] [])
  refine own_go (fun t k => XS.iload X2.here hx rfl (hb hby d4_10) rfl  k) ?_
  show own_R p e below _ T2 (mkF m 12 #[.val (.ref w), .val (.int (0 : Int32)), .val (.int (2 : Int32)), .val (.int (0 : Int32)), .val (.int (0 : Int32))] [(.int (0 : Int32))])
  refine own_go (fun t k => XS.iloadN X2.here hx rfl (hb hby d4_12) rfl  k) ?_
  show own_R p e below _ T2 (mkF m 13 #[.val (.ref w), .val (.int (0 : Int32)), .val (.int (2 : Int32)), .val (.int (0 : Int32)), .val (.int (0 : Int32))] [(.int (2 : Int32)), (.int (0 : Int32))])
  refine own_go (fun t k => XS.icmpNo X2.here hx rfl (hb hby d4_13) rfl (tlt (by decide : (0 : Int32) < (2 : Int32))).2.1 k) ?_
  show own_R p e below _ T2 (mkF m 16 #[.val (.ref w), .val (.int (0 : Int32)), .val (.int (2 : Int32)), .val (.int (0 : Int32)), .val (.int (0 : Int32))] [])
  refine own_go (fun t k => XS.aloadN X2.here hx rfl (hb hby d4_16) rfl rfl  k) ?_
  show own_R p e below _ T2 (mkF m 17 #[.val (.ref w), .val (.int (0 : Int32)), .val (.int (2 : Int32)), .val (.int (0 : Int32)), .val (.int (0 : Int32))] [(.ref w)])
  refine own_go (fun t k => XS.iload X2.here hx rfl (hb hby d4_17) rfl  k) ?_
  show own_R p e below _ T2 (mkF m 19 #[.val (.ref w), .val (.int (0 : Int32)), .val (.int (2 : Int32)), .val (.int (0 : Int32)), .val (.int (0 : Int32))] [(.int (0 : Int32)), (.ref w)])
  refine own_go (fun t k => XS.iloadN X2.here hx rfl (hb hby d4_19) rfl  k) ?_
  show own_R p e below _ T2 (mkF m 20 #[.val (.ref w), .val (.int (0 : Int32)), .val (.int (2 : Int32)), .val (.int (0 : Int32)), .val (.int (0 : Int32))] [(.int (0 : Int32)), (.int (0 : Int32)), (.ref w)])
  obtain ⟨cl3, Ar3, q3, S3, Nn3, Hh3, G3⟩ := id V_w
  have hin3 : ¬ ((0 : Int32) < 0 ∨ cl3.slots.size ≤ ((0 : Int32)).toNatClampNeg) := inb_of S3 ⟨by decide, by decide⟩
  obtain ⟨T4, h4, X4, e4, W4, st4⟩ := stI X2 hx hZ e2 Ar3 (j := (0 : Int32)) hin3 (g := (mkF m 20 #[.val (.ref w), .val (.int (0 : Int32)), .val (.int (2 : Int32)), .val (.int (0 : Int32)), .val (.int (0 : Int32))] [(.int (0 : Int32)), (.int (0 : Int32)), (.ref w)])) rfl rfl (hb hby d4_20)
  have N4 := Fr.snoc X4 N2 g_w
  replace Kh := Kh.wr W4 (Or.inl (List.mem_of_getElem? (i := 0) rfl))
  have V_w_4 : Arv Z h4 w kw .int (3 : Int32) [(.int (0 : Int32)), (.int (0 : Int32)), (.int (0 : Int32))] (.int (0 : Int32)) := Arv.set Ar3 q3 S3 Nn3 Hh3 G3 rfl W4 0 rfl (Nat.le_of_ble_eq_true rfl)
  refine own_go (st4) ?_
  show own_R p e below _ T4 (mkF m 21 #[.val (.ref w), .val (.int (0 : Int32)), .val (.int (2 : Int32)), .val (.int (0 : Int32)), .val (.int (0 : Int32))] [])
  refine own_go (fun t k => XS.iinc X4.here hx rfl (hb hby d4_21) rfl (l' := #[.val (.ref w), .val (.int (0 : Int32)), .val (.int (2 : Int32)), .val (.int (0 : Int32)), .val (.int (1 : Int32))]) rfl k) ?_
  show own_R p e below _ T4 (mkF m 24 #[.val (.ref w), .val (.int (0 : Int32)), .val (.int (2 : Int32)), .val (.int (0 : Int32)), .val (.int (1 : Int32))] [])
  refine own_go (fun t k => XS.goto X4.here hx rfl (pc0 := 24) (pc' := 10) rfl (hb hby d4_24) (by decide) (by decide) k) ?_
  show own_R p e below _ T4 (mkF m 10 #[.val (.ref w), .val (.int (0 : Int32)), .val (.int (2 : Int32)), .val (.int (0 : Int32)), .val (.int (1 : Int32))] [])
  refine own_go (fun t k => XS.iload X4.here hx rfl (hb hby d4_10) rfl  k) ?_
  show own_R p e below _ T4 (mkF m 12 #[.val (.ref w), .val (.int (0 : Int32)), .val (.int (2 : Int32)), .val (.int (0 : Int32)), .val (.int (1 : Int32))] [(.int (1 : Int32))])
  refine own_go (fun t k => XS.iloadN X4.here hx rfl (hb hby d4_12) rfl  k) ?_
  show own_R p e below _ T4 (mkF m 13 #[.val (.ref w), .val (.int (0 : Int32)), .val (.int (2 : Int32)), .val (.int (0 : Int32)), .val (.int (1 : Int32))] [(.int (2 : Int32)), (.int (1 : Int32))])
  refine own_go (fun t k => XS.icmpNo X4.here hx rfl (hb hby d4_13) rfl (tlt (by decide : (1 : Int32) < (2 : Int32))).2.1 k) ?_
  show own_R p e below _ T4 (mkF m 16 #[.val (.ref w), .val (.int (0 : Int32)), .val (.int (2 : Int32)), .val (.int (0 : Int32)), .val (.int (1 : Int32))] [])
  refine own_go (fun t k => XS.aloadN X4.here hx rfl (hb hby d4_16) rfl rfl  k) ?_
  show own_R p e below _ T4 (mkF m 17 #[.val (.ref w), .val (.int (0 : Int32)), .val (.int (2 : Int32)), .val (.int (0 : Int32)), .val (.int (1 : Int32))] [(.ref w)])
  refine own_go (fun t k => XS.iload X4.here hx rfl (hb hby d4_17) rfl  k) ?_
  show own_R p e below _ T4 (mkF m 19 #[.val (.ref w), .val (.int (0 : Int32)), .val (.int (2 : Int32)), .val (.int (0 : Int32)), .val (.int (1 : Int32))] [(.int (1 : Int32)), (.ref w)])
  refine own_go (fun t k => XS.iloadN X4.here hx rfl (hb hby d4_19) rfl  k) ?_
  show own_R p e below _ T4 (mkF m 20 #[.val (.ref w), .val (.int (0 : Int32)), .val (.int (2 : Int32)), .val (.int (0 : Int32)), .val (.int (1 : Int32))] [(.int (0 : Int32)), (.int (1 : Int32)), (.ref w)])
  obtain ⟨cl5, Ar5, q5, S5, Nn5, Hh5, G5⟩ := id V_w_4
  have hin5 : ¬ ((1 : Int32) < 0 ∨ cl5.slots.size ≤ ((1 : Int32)).toNatClampNeg) := inb_of S5 ⟨by decide, by decide⟩
  obtain ⟨T6, h6, X6, e6, W6, st6⟩ := stI X4 hx hZ e4 Ar5 (j := (1 : Int32)) hin5 (g := (mkF m 20 #[.val (.ref w), .val (.int (0 : Int32)), .val (.int (2 : Int32)), .val (.int (0 : Int32)), .val (.int (1 : Int32))] [(.int (0 : Int32)), (.int (1 : Int32)), (.ref w)])) rfl rfl (hb hby d4_20)
  have N6 := Fr.snoc X6 N4 g_w
  replace Kh := Kh.wr W6 (Or.inl (List.mem_of_getElem? (i := 0) rfl))
  have V_w_6 : Arv Z h6 w kw .int (3 : Int32) [(.int (0 : Int32)), (.int (0 : Int32)), (.int (0 : Int32))] (.int (0 : Int32)) := Arv.set Ar5 q5 S5 Nn5 Hh5 G5 rfl W6 1 rfl (Nat.le_of_ble_eq_true rfl)
  refine own_go (st6) ?_
  show own_R p e below _ T6 (mkF m 21 #[.val (.ref w), .val (.int (0 : Int32)), .val (.int (2 : Int32)), .val (.int (0 : Int32)), .val (.int (1 : Int32))] [])
  refine own_go (fun t k => XS.iinc X6.here hx rfl (hb hby d4_21) rfl (l' := #[.val (.ref w), .val (.int (0 : Int32)), .val (.int (2 : Int32)), .val (.int (0 : Int32)), .val (.int (2 : Int32))]) rfl k) ?_
  show own_R p e below _ T6 (mkF m 24 #[.val (.ref w), .val (.int (0 : Int32)), .val (.int (2 : Int32)), .val (.int (0 : Int32)), .val (.int (2 : Int32))] [])
  refine own_go (fun t k => XS.goto X6.here hx rfl (pc0 := 24) (pc' := 10) rfl (hb hby d4_24) (by decide) (by decide) k) ?_
  show own_R p e below _ T6 (mkF m 10 #[.val (.ref w), .val (.int (0 : Int32)), .val (.int (2 : Int32)), .val (.int (0 : Int32)), .val (.int (2 : Int32))] [])
  refine own_go (fun t k => XS.iload X6.here hx rfl (hb hby d4_10) rfl  k) ?_
  show own_R p e below _ T6 (mkF m 12 #[.val (.ref w), .val (.int (0 : Int32)), .val (.int (2 : Int32)), .val (.int (0 : Int32)), .val (.int (2 : Int32))] [(.int (2 : Int32))])
  refine own_go (fun t k => XS.iloadN X6.here hx rfl (hb hby d4_12) rfl  k) ?_
  show own_R p e below _ T6 (mkF m 13 #[.val (.ref w), .val (.int (0 : Int32)), .val (.int (2 : Int32)), .val (.int (0 : Int32)), .val (.int (2 : Int32))] [(.int (2 : Int32)), (.int (2 : Int32))])
  refine own_go (fun t k => XS.icmpYes X6.here hx rfl (pc0 := 13) (pc' := 27) rfl (hb hby d4_13) rfl (flt (by decide : ¬ ((2 : Int32) < (2 : Int32)))).2.1 (by decide) (by decide) k) ?_
  show own_R p e below _ T6 (mkF m 27 #[.val (.ref w), .val (.int (0 : Int32)), .val (.int (2 : Int32)), .val (.int (0 : Int32)), .val (.int (2 : Int32))] [])
  refine own_retV X6 hx Bd.returns (BodyLoose.notSynchronized Bd) (hb hby d4_27) (by decide) (by decide) ?_
  rw [e6]
  exact ⟨rfl, N6, Kh, V_w_6⟩
theorem d3_0 : decode prog_110_method_2_code 0 = .ok (.aload_n 0, 1) := by decide +kernel
theorem d3_1 : decode prog_110_method_2_code 1 = .ok (.getfield 7, 3) := by decide +kernel
theorem d3_4 : decode prog_110_method_2_code 4 = .ok (.arraylength, 1) := by decide +kernel
theorem d3_5 : decode prog_110_method_2_code 5 = .ok (.iload_n 1, 1) := by decide +kernel
theorem d3_6 : decode prog_110_method_2_code 6 = .ok (.iload_n 2, 1) := by decide +kernel
theorem d3_7 : decode prog_110_method_2_code 7 = .ok (.iadd, 1) := by decide +kernel
theorem d3_8 : decode prog_110_method_2_code 8 = .ok (.if_icmp .ge 12, 3) := by decide +kernel
theorem d3_11 : decode prog_110_method_2_code 11 = .ok (.aload_n 0, 1) := by decide +kernel
theorem d3_12 : decode prog_110_method_2_code 12 = .ok (.iload_n 1, 1) := by decide +kernel
theorem d3_13 : decode prog_110_method_2_code 13 = .ok (.iload_n 2, 1) := by decide +kernel
theorem d3_14 : decode prog_110_method_2_code 14 = .ok (.iadd, 1) := by decide +kernel
theorem d3_15 : decode prog_110_method_2_code 15 = .ok (.newarray .int, 2) := by decide +kernel
theorem d3_17 : decode prog_110_method_2_code 17 = .ok (.putfield 7, 3) := by decide +kernel
theorem d3_20 : decode prog_110_method_2_code 20 = .ok (.aload_n 0, 1) := by decide +kernel
theorem d3_21 : decode prog_110_method_2_code 21 = .ok (.getfield 7, 3) := by decide +kernel
theorem d3_24 : decode prog_110_method_2_code 24 = .ok (.iconst 0, 1) := by decide +kernel
theorem d3_25 : decode prog_110_method_2_code 25 = .ok (.iload_n 1, 1) := by decide +kernel
theorem d3_26 : decode prog_110_method_2_code 26 = .ok (.iconst 0, 1) := by decide +kernel
theorem d3_27 : decode prog_110_method_2_code 27 = .ok (.invokestatic 15, 3) := by decide +kernel
theorem d3_30 : decode prog_110_method_2_code 30 = .ok (.aload_n 0, 1) := by decide +kernel
theorem d3_31 : decode prog_110_method_2_code 31 = .ok (.iload_n 1, 1) := by decide +kernel
theorem d3_32 : decode prog_110_method_2_code 32 = .ok (.putfield 21, 3) := by decide +kernel
theorem d3_35 : decode prog_110_method_2_code 35 = .ok (.aload_n 0, 1) := by decide +kernel
theorem d3_36 : decode prog_110_method_2_code 36 = .ok (.iload_n 2, 1) := by decide +kernel
theorem d3_37 : decode prog_110_method_2_code 37 = .ok (.putfield 25, 3) := by decide +kernel
theorem d3_40 : decode prog_110_method_2_code 40 = .ok (.aload_n 0, 1) := by decide +kernel
theorem d3_41 : decode prog_110_method_2_code 41 = .ok (.iload_n 1, 1) := by decide +kernel
theorem d3_42 : decode prog_110_method_2_code 42 = .ok (.putfield 28, 3) := by decide +kernel
theorem d3_45 : decode prog_110_method_2_code 45 = .ok (.aload_n 0, 1) := by decide +kernel
theorem d3_46 : decode prog_110_method_2_code 46 = .ok (.iconst 0, 1) := by decide +kernel
theorem d3_47 : decode prog_110_method_2_code 47 = .ok (.putfield 31, 3) := by decide +kernel
theorem d3_50 : decode prog_110_method_2_code 50 = .ok (.aload_n 0, 1) := by decide +kernel
theorem d3_51 : decode prog_110_method_2_code 51 = .ok (.dup, 1) := by decide +kernel
theorem d3_52 : decode prog_110_method_2_code 52 = .ok (.getfield 35, 3) := by decide +kernel
theorem d3_55 : decode prog_110_method_2_code 55 = .ok (.iconst 1, 1) := by decide +kernel
theorem d3_56 : decode prog_110_method_2_code 56 = .ok (.iadd, 1) := by decide +kernel
theorem d3_57 : decode prog_110_method_2_code 57 = .ok (.putfield 35, 3) := by decide +kernel
theorem d3_60 : decode prog_110_method_2_code 60 = .ok (.return_, 1) := by decide +kernel
theorem ef_3 (m : MethodId) (x0 : Addr) : entryFrame m #[(.ref x0), (.int (2 : Int32)), (.int (1 : Int32))] 3 = mkF m 0 #[.val (.ref x0), .val (.int (2 : Int32)), .val (.int (1 : Int32))] [] := by first | (simp [entryFrame, mkF, argsToLocals, Value.category]; done) | rfl
def Q3 (Z : State) (a : Addr) (w : Addr) (kw : ClassId) (h0 : Heap) (n0 : Nat) (v : Option Value) (h : Heap) (L : List Loc) : Prop := ∃ (b : Addr) (kb : ClassId), v = none ∧ Fr n0 L ∧ Keep h0 h [a] ∧ h0.size ≤ b ∧ Exa Z h a "com/example/signetry/signetry/card/WordFrame" ∧ Fld Z h a "com/example/signetry/signetry/card/WordFrame" "words" "[I" (.ref b) ∧ Fld Z h a "com/example/signetry/signetry/card/WordFrame" "localCount" "I" (.int (2 : Int32)) ∧ Fld Z h a "com/example/signetry/signetry/card/WordFrame" "maxStack" "I" (.int (1 : Int32)) ∧ Fld Z h a "com/example/signetry/signetry/card/WordFrame" "top" "I" (.int (2 : Int32)) ∧ Fld Z h a "com/example/signetry/signetry/card/WordFrame" "thisUninitialized" "Z" (.int (0 : Int32)) ∧ Fld Z h a "com/example/signetry/signetry/card/WordFrame" "localsVersion" "I" (.int (1 : Int32)) ∧ Arv Z h b kb .int (3 : Int32) [(.int (0 : Int32)), (.int (0 : Int32)), (.int (0 : Int32))] (.int (0 : Int32))
set_option maxRecDepth 65536 in
set_option maxHeartbeats 40000000 in
theorem rm3 (l : Launch) (Z : State) (a0 : Array Value) (hw : ∀ d ∈ tables_1, d.before a0 Z = true) (ws : List Jvm.Cond) (a : Addr) (w : Addr) (kw : ClassId) (h0 : Heap) (n0 : Nat) (Z0 : n0 ≤ h0.size) (F_words_a : Fld Z h0 a "com/example/signetry/signetry/card/WordFrame" "words" "[I" (.ref w)) (F_localCount_a : Fld Z h0 a "com/example/signetry/signetry/card/WordFrame" "localCount" "I" (.int (0 : Int32))) (F_maxStack_a : Fld Z h0 a "com/example/signetry/signetry/card/WordFrame" "maxStack" "I" (.int (0 : Int32))) (F_top_a : Fld Z h0 a "com/example/signetry/signetry/card/WordFrame" "top" "I" (.int (0 : Int32))) (F_thisUninitialized_a : Fld Z h0 a "com/example/signetry/signetry/card/WordFrame" "thisUninitialized" "Z" (.int (0 : Int32))) (F_localsVersion_a : Fld Z h0 a "com/example/signetry/signetry/card/WordFrame" "localsVersion" "I" (.int (0 : Int32))) (E_a : Exa Z h0 a "com/example/signetry/signetry/card/WordFrame") (V_w : Arv Z h0 w kw .int (0 : Int32) [] (.int (0 : Int32))) (g_a : n0 ≤ a) (ne_a_w : a ≠ w) :
    MetFree l (⟨"com/example/signetry/signetry/card/WordFrame", "reset", "(II)V"⟩ : MethodName) (head1 (Jvm.Cond.code (⟨"com/example/signetry/signetry/card/WordFrame", "reset", "(II)V"⟩ : MethodName) prog_110_method_2_code 3 none :: ws) ({ frames := 2, cells := 1, slots := 3, locals := 30 } : Room)) (fun aS U => aS = #[(.ref a), (.int (2 : Int32)), (.int (1 : Int32))] ∧ Z.Warmed39 U.vm ∧ U.heap = h0) (fun _ _ _ _ _ => True) (fun _ U o U' => ∃ v L, o = .returned v ∧ Q3 Z a w kw h0 n0 v U'.heap L ∧ FrameEnd U o U' L ({ frames := 2, cells := 1, slots := 3, locals := 30 } : Room).cells ({ frames := 2, cells := 1, slots := 3, locals := 30 } : Room).slots) := by
  refine MetFree.of_bodySF (plainFor_of_name pn_0) hisR ?_
  intro p e s m args below meth c s₁ Bd hml0 hP hK
  obtain ⟨rfl, hZ, hh⟩ := hP
  have hx := Bd.exec
  have hby := Bd.bytes
  have hml : c.maxLocals = 3 := hml0
  have hown : s.vm.findClass "com/example/signetry/signetry/card/WordFrame" = some m.cls := findClass_of_methodNamed Bd.named
  have hnm := (name_of_methodNamed Bd.named Bd.method).1
  have X0 : Stand p l e ({ frames := 2, cells := 1, slots := 3, locals := 30 } : Room) s m #[(.ref a), (.int (2 : Int32)), (.int (1 : Int32))] below meth c s₁ [] 0 0 := Stand.of_body Bd
  have e0 : s₁.heap = h0 := by rw [← hh, Bd.state]; rfl
  have N0 := Fr.nil n0
  have Kh : Keep h0 h0 [a] := Keep.refl _ _
  suffices H : own_R p e below (own_E s below (Q3 Z a w kw h0 n0) ({ frames := 2, cells := 1, slots := 3, locals := 30 } : Room).cells ({ frames := 2, cells := 1, slots := 3, locals := 30 } : Room).slots) s₁ (mkF m 0 #[.val (.ref a), .val (.int (2 : Int32)), .val (.int (1 : Int32))] []) by
    obtain ⟨t, hst, hrun, v, L, hend, hQ, hF⟩ := H
    exact ⟨t, _, castTop (ef_3 m a) hst, hrun, hend, v, L, rfl, hQ, hF⟩
  show own_R p e below _ s₁ (mkF m 0 #[.val (.ref a), .val (.int (2 : Int32)), .val (.int (1 : Int32))] [])
  refine own_go (fun t k => XS.aloadN X0.here hx rfl (hb hby d3_0) rfl rfl  k) ?_
  show own_R p e below _ s₁ (mkF m 1 #[.val (.ref a), .val (.int (2 : Int32)), .val (.int (1 : Int32))] [(.ref a)])
  obtain ⟨T1, X1, e1, st1⟩ := getF X0 hx hZ hown (host := "") (Or.inl (hw _ (List.mem_of_getElem? (i := 10) rfl))) Via.refl e0 F_words_a (g := (mkF m 1 #[.val (.ref a), .val (.int (2 : Int32)), .val (.int (1 : Int32))] [(.ref a)])) rfl rfl (hb hby d3_1)
  refine own_go (st1) ?_
  show own_R p e below _ T1 (mkF m 4 #[.val (.ref a), .val (.int (2 : Int32)), .val (.int (1 : Int32))] [(.ref w)])
  obtain ⟨cl2, Ar2, q2, S2, Nn2, Hh2, G2⟩ := id V_w
  refine own_go (X1.arraylength hx (by rw [e1]; exact Ar2.1) (State.isArrayOf_alike hZ.alike Ar2.2.1) (g := (mkF m 4 #[.val (.ref a), .val (.int (2 : Int32)), .val (.int (1 : Int32))] [(.ref w)])) rfl rfl (hb hby d3_4)) ?_
  rw [len_of S2 Nn2]
  show own_R p e below _ T1 (mkF m 5 #[.val (.ref a), .val (.int (2 : Int32)), .val (.int (1 : Int32))] [(.int (0 : Int32))])
  refine own_go (fun t k => XS.iloadN X1.here hx rfl (hb hby d3_5) rfl  k) ?_
  show own_R p e below _ T1 (mkF m 6 #[.val (.ref a), .val (.int (2 : Int32)), .val (.int (1 : Int32))] [(.int (2 : Int32)), (.int (0 : Int32))])
  refine own_go (fun t k => XS.iloadN X1.here hx rfl (hb hby d3_6) rfl  k) ?_
  show own_R p e below _ T1 (mkF m 7 #[.val (.ref a), .val (.int (2 : Int32)), .val (.int (1 : Int32))] [(.int (1 : Int32)), (.int (2 : Int32)), (.int (0 : Int32))])
  refine own_go (fun t k => XS.iadd X1.here hx rfl (hb hby d3_7) rfl k) ?_
  show own_R p e below _ T1 (mkF m 8 #[.val (.ref a), .val (.int (2 : Int32)), .val (.int (1 : Int32))] [(.int (3 : Int32)), (.int (0 : Int32))])
  refine own_go (fun t k => XS.icmpNo X1.here hx rfl (hb hby d3_8) rfl (tlt (by decide : (0 : Int32) < (3 : Int32))).2.1 k) ?_
  show own_R p e below _ T1 (mkF m 11 #[.val (.ref a), .val (.int (2 : Int32)), .val (.int (1 : Int32))] [])
  refine own_go (fun t k => XS.aloadN X1.here hx rfl (hb hby d3_11) rfl rfl  k) ?_
  show own_R p e below _ T1 (mkF m 12 #[.val (.ref a), .val (.int (2 : Int32)), .val (.int (1 : Int32))] [(.ref a)])
  refine own_go (fun t k => XS.iloadN X1.here hx rfl (hb hby d3_12) rfl  k) ?_
  show own_R p e below _ T1 (mkF m 13 #[.val (.ref a), .val (.int (2 : Int32)), .val (.int (1 : Int32))] [(.int (2 : Int32)), (.ref a)])
  refine own_go (fun t k => XS.iloadN X1.here hx rfl (hb hby d3_13) rfl  k) ?_
  show own_R p e below _ T1 (mkF m 14 #[.val (.ref a), .val (.int (2 : Int32)), .val (.int (1 : Int32))] [(.int (1 : Int32)), (.int (2 : Int32)), (.ref a)])
  refine own_go (fun t k => XS.iadd X1.here hx rfl (hb hby d3_14) rfl k) ?_
  show own_R p e below _ T1 (mkF m 15 #[.val (.ref a), .val (.int (2 : Int32)), .val (.int (1 : Int32))] [(.int (3 : Int32)), (.ref a)])
  obtain ⟨T3, h3, k3, X3, e3, E3, A3, st3⟩ := newP X1 hx hZ (hw _ (List.mem_of_getElem? (i := 9) rfl)) e1 (g := (mkF m 15 #[.val (.ref a), .val (.int (2 : Int32)), .val (.int (1 : Int32))] [(.int (3 : Int32)), (.ref a)])) rfl (hb hby d3_15) rfl (by decide) (cap := 3) (by decide) (by decide) (by decide) (by decide)
  obtain ⟨b3, g3⟩ : ∃ z, z = h0.size := ⟨_, rfl⟩
  rw [← g3] at A3 st3
  have g_b3 : n0 ≤ b3 := Nat.le_trans (Nat.le_trans Z0 Kh.1) (Nat.le_of_eq g3.symm)
  have sz_b3 : h0.size ≤ b3 := Nat.le_trans Kh.1 (Nat.le_of_eq g3.symm)
  have ne_a_b3 : a ≠ b3 := Nat.ne_of_lt (Nat.lt_of_lt_of_le F_words_a.lt (Nat.le_of_eq g3.symm))
  have ne_w_b3 : w ≠ b3 := Nat.ne_of_lt (Nat.lt_of_lt_of_le V_w.lt (Nat.le_of_eq g3.symm))
  replace F_words_a := Fld.ext E3 F_words_a
  replace F_localCount_a := Fld.ext E3 F_localCount_a
  replace F_maxStack_a := Fld.ext E3 F_maxStack_a
  replace F_top_a := Fld.ext E3 F_top_a
  replace F_thisUninitialized_a := Fld.ext E3 F_thisUninitialized_a
  replace F_localsVersion_a := Fld.ext E3 F_localsVersion_a
  replace E_a := Exa.ext E3 E_a
  replace V_w := V_w.ext E3
  replace Kh := Kh.ext E3
  have V_b3 : Arv Z h3 b3 k3 .int (3 : Int32) [(.int (0 : Int32)), (.int (0 : Int32)), (.int (0 : Int32))] (.int (0 : Int32)) := (Arv.new A3 (by decide)).pad (pad_rep [] (.int (0 : Int32)) 3)
  refine own_go (st3) ?_
  show own_R p e below _ T3 (mkF m 17 #[.val (.ref a), .val (.int (2 : Int32)), .val (.int (1 : Int32))] [(.ref b3), (.ref a)])
  obtain ⟨T4, h4, X4, e4, W4, st4⟩ := putF X3 hx hZ hown (host := "") (Or.inl (hw _ (List.mem_of_getElem? (i := 10) rfl))) Via.refl e3 F_words_a E_a (Or.inl (hw _ (List.mem_of_getElem? (i := 11) rfl))) (hw _ (List.mem_of_getElem? (i := 1) rfl)) (ty := (.array .int)) (by decide) rfl rfl (g := (mkF m 17 #[.val (.ref a), .val (.int (2 : Int32)), .val (.int (1 : Int32))] [(.ref b3), (.ref a)])) rfl rfl (hb hby d3_17)
  have N4 := Fr.snoc X4 N0 g_a
  replace Kh := Kh.wr W4 (Or.inl (List.mem_of_getElem? (i := 0) rfl))
  replace F_words_a := Fld.same W4 F_words_a
  replace F_localCount_a := Fld.other W4 F_localCount_a (Or.inr (slot_ne (Or.inl (hw _ (List.mem_of_getElem? (i := 25) rfl))) (Or.inl (hw _ (List.mem_of_getElem? (i := 11) rfl))) (by decide) (t := .int) (t' := (.array .int)) (by decide) (by decide)))
  replace F_maxStack_a := Fld.other W4 F_maxStack_a (Or.inr (slot_ne (Or.inl (hw _ (List.mem_of_getElem? (i := 27) rfl))) (Or.inl (hw _ (List.mem_of_getElem? (i := 11) rfl))) (by decide) (t := .int) (t' := (.array .int)) (by decide) (by decide)))
  replace F_top_a := Fld.other W4 F_top_a (Or.inr (slot_ne (Or.inl (hw _ (List.mem_of_getElem? (i := 29) rfl))) (Or.inl (hw _ (List.mem_of_getElem? (i := 11) rfl))) (by decide) (t := .int) (t' := (.array .int)) (by decide) (by decide)))
  replace F_thisUninitialized_a := Fld.other W4 F_thisUninitialized_a (Or.inr (slot_ne (Or.inl (hw _ (List.mem_of_getElem? (i := 31) rfl))) (Or.inl (hw _ (List.mem_of_getElem? (i := 11) rfl))) (by decide) (t := .boolean) (t' := (.array .int)) (by decide) (by decide)))
  replace F_localsVersion_a := Fld.other W4 F_localsVersion_a (Or.inr (slot_ne (Or.inl (hw _ (List.mem_of_getElem? (i := 33) rfl))) (Or.inl (hw _ (List.mem_of_getElem? (i := 11) rfl))) (by decide) (t := .int) (t' := (.array .int)) (by decide) (by decide)))
  replace E_a := Exa.wr W4 E_a
  replace V_w := Arv.other V_w W4 (Ne.symm ne_a_w)
  replace V_b3 := Arv.other V_b3 W4 (Ne.symm ne_a_b3)
  refine own_go (st4) ?_
  show own_R p e below _ T4 (mkF m 20 #[.val (.ref a), .val (.int (2 : Int32)), .val (.int (1 : Int32))] [])
  refine own_go (fun t k => XS.aloadN X4.here hx rfl (hb hby d3_20) rfl rfl  k) ?_
  show own_R p e below _ T4 (mkF m 21 #[.val (.ref a), .val (.int (2 : Int32)), .val (.int (1 : Int32))] [(.ref a)])
  obtain ⟨T5, X5, e5, st5⟩ := getF X4 hx hZ hown (host := "") (Or.inl (hw _ (List.mem_of_getElem? (i := 10) rfl))) Via.refl e4 F_words_a (g := (mkF m 21 #[.val (.ref a), .val (.int (2 : Int32)), .val (.int (1 : Int32))] [(.ref a)])) rfl rfl (hb hby d3_21)
  refine own_go (st5) ?_
  show own_R p e below _ T5 (mkF m 24 #[.val (.ref a), .val (.int (2 : Int32)), .val (.int (1 : Int32))] [(.ref b3)])
  refine own_go (fun t k => XS.iconst X5.here hx rfl (hb hby d3_24) k) ?_
  show own_R p e below _ T5 (mkF m 25 #[.val (.ref a), .val (.int (2 : Int32)), .val (.int (1 : Int32))] [(.int (0 : Int32)), (.ref b3)])
  refine own_go (fun t k => XS.iloadN X5.here hx rfl (hb hby d3_25) rfl  k) ?_
  show own_R p e below _ T5 (mkF m 26 #[.val (.ref a), .val (.int (2 : Int32)), .val (.int (1 : Int32))] [(.int (2 : Int32)), (.int (0 : Int32)), (.ref b3)])
  refine own_go (fun t k => XS.iconst X5.here hx rfl (hb hby d3_26) k) ?_
  show own_R p e below _ T5 (mkF m 27 #[.val (.ref a), .val (.int (2 : Int32)), .val (.int (1 : Int32))] [(.int (0 : Int32)), (.int (2 : Int32)), (.int (0 : Int32)), (.ref b3)])
  obtain ⟨_, _, ⟨T6, L6, k6, n6⟩, -, X6, ⟨Lc6, hQ6, l6, y6, z6⟩, st6⟩ := Jvm.LawKit.callS X5 hx (y := (⟨"java/util/Arrays", "fill", "([IIII)V"⟩ : MethodName)) hown (mvT hZ (hw _ (List.mem_of_getElem? (i := 17) rfl))) (mvT hZ (hw _ (List.mem_of_getElem? (i := 18) rfl))) (mvT hZ (hw _ (List.mem_of_getElem? (i := 19) rfl))) (mvT hZ (hw _ (List.mem_of_getElem? (i := 20) rfl))) (by decide) (backOf (W := 0) (rm4 l Z a0 hw [] b3 k3 h4 n0 (Nat.le_trans Z0 Kh.1) V_b3 g_b3) hZ (hw _ (List.mem_of_getElem? (i := 20) rfl)) (hw _ (List.mem_of_getElem? (i := 19) rfl)) (by decide) (by decide)) (g := (mkF m 27 #[.val (.ref a), .val (.int (2 : Int32)), .val (.int (1 : Int32))] [(.int (0 : Int32)), (.int (2 : Int32)), (.int (0 : Int32)), (.ref b3)])) rfl (by rw [hml]; rfl) (argsL := [(.ref b3), (.int (0 : Int32)), (.int (2 : Int32)), (.int (0 : Int32))]) (rest := []) (lenOf pd_2 rfl) rfl (by show 2 * 0 + _ ≤ _; exact Nat.le_of_eq rfl) (hb hby d3_27) (fun _ _ => ⟨rfl, e5, (by decide : 1 + 0 ≤ _), (by decide : 3 + 0 ≤ _)⟩)
  dsimp only [Pt.U, Pt.locs, Pt.cells, Pt.slots] at X6 l6 y6 z6 st6 hQ6
  subst l6 y6 z6
  obtain ⟨rfl, Nq6, K6, V6_w⟩ := hQ6
  have N6 := Fr.app N4 Nq6
  obtain ⟨h6, e6⟩ : ∃ z, T6.heap = z := ⟨_, rfl⟩
  rw [e6] at K6 V6_w
  replace F_words_a := F_words_a.keep K6 (ninS ne_a_b3 nin0)
  replace F_localCount_a := F_localCount_a.keep K6 (ninS ne_a_b3 nin0)
  replace F_maxStack_a := F_maxStack_a.keep K6 (ninS ne_a_b3 nin0)
  replace F_top_a := F_top_a.keep K6 (ninS ne_a_b3 nin0)
  replace F_thisUninitialized_a := F_thisUninitialized_a.keep K6 (ninS ne_a_b3 nin0)
  replace F_localsVersion_a := F_localsVersion_a.keep K6 (ninS ne_a_b3 nin0)
  replace E_a := Exa.keep E_a K6
  replace V_w := V_w.keep K6 (ninS ne_w_b3 nin0)
  replace Kh := Kh.trans K6 (allS (Or.inr sz_b3) all0)
  refine own_go (st6) ?_
  show own_R p e below _ T6 (mkF m 30 #[.val (.ref a), .val (.int (2 : Int32)), .val (.int (1 : Int32))] [])
  refine own_go (fun t k => XS.aloadN X6.here hx rfl (hb hby d3_30) rfl rfl  k) ?_
  show own_R p e below _ T6 (mkF m 31 #[.val (.ref a), .val (.int (2 : Int32)), .val (.int (1 : Int32))] [(.ref a)])
  refine own_go (fun t k => XS.iloadN X6.here hx rfl (hb hby d3_31) rfl  k) ?_
  show own_R p e below _ T6 (mkF m 32 #[.val (.ref a), .val (.int (2 : Int32)), .val (.int (1 : Int32))] [(.int (2 : Int32)), (.ref a)])
  obtain ⟨T7, h7, X7, e7, W7, st7⟩ := putF X6 hx hZ hown (host := "") (Or.inl (hw _ (List.mem_of_getElem? (i := 24) rfl))) Via.refl e6 F_localCount_a E_a (Or.inl (hw _ (List.mem_of_getElem? (i := 25) rfl))) (hw _ (List.mem_of_getElem? (i := 1) rfl)) (ty := .int) (by decide) rfl rfl (g := (mkF m 32 #[.val (.ref a), .val (.int (2 : Int32)), .val (.int (1 : Int32))] [(.int (2 : Int32)), (.ref a)])) rfl rfl (hb hby d3_32)
  have N7 := Fr.snoc X7 N6 g_a
  replace Kh := Kh.wr W7 (Or.inl (List.mem_of_getElem? (i := 0) rfl))
  replace F_words_a := Fld.other W7 F_words_a (Or.inr (slot_ne (Or.inl (hw _ (List.mem_of_getElem? (i := 11) rfl))) (Or.inl (hw _ (List.mem_of_getElem? (i := 25) rfl))) (by decide) (t := (.array .int)) (t' := .int) (by decide) (by decide)))
  replace F_localCount_a := Fld.same W7 F_localCount_a
  replace F_maxStack_a := Fld.other W7 F_maxStack_a (Or.inr (slot_ne (Or.inl (hw _ (List.mem_of_getElem? (i := 27) rfl))) (Or.inl (hw _ (List.mem_of_getElem? (i := 25) rfl))) (by decide) (t := .int) (t' := .int) (by decide) (by decide)))
  replace F_top_a := Fld.other W7 F_top_a (Or.inr (slot_ne (Or.inl (hw _ (List.mem_of_getElem? (i := 29) rfl))) (Or.inl (hw _ (List.mem_of_getElem? (i := 25) rfl))) (by decide) (t := .int) (t' := .int) (by decide) (by decide)))
  replace F_thisUninitialized_a := Fld.other W7 F_thisUninitialized_a (Or.inr (slot_ne (Or.inl (hw _ (List.mem_of_getElem? (i := 31) rfl))) (Or.inl (hw _ (List.mem_of_getElem? (i := 25) rfl))) (by decide) (t := .boolean) (t' := .int) (by decide) (by decide)))
  replace F_localsVersion_a := Fld.other W7 F_localsVersion_a (Or.inr (slot_ne (Or.inl (hw _ (List.mem_of_getElem? (i := 33) rfl))) (Or.inl (hw _ (List.mem_of_getElem? (i := 25) rfl))) (by decide) (t := .int) (t' := .int) (by decide) (by decide)))
  replace E_a := Exa.wr W7 E_a
  replace V_w := Arv.other V_w W7 (Ne.symm ne_a_w)
  replace V6_w := Arv.other V6_w W7 (Ne.symm ne_a_b3)
  refine own_go (st7) ?_
  show own_R p e below _ T7 (mkF m 35 #[.val (.ref a), .val (.int (2 : Int32)), .val (.int (1 : Int32))] [])
  refine own_go (fun t k => XS.aloadN X7.here hx rfl (hb hby d3_35) rfl rfl  k) ?_
  show own_R p e below _ T7 (mkF m 36 #[.val (.ref a), .val (.int (2 : Int32)), .val (.int (1 : Int32))] [(.ref a)])
  refine own_go (fun t k => XS.iloadN X7.here hx rfl (hb hby d3_36) rfl  k) ?_
  show own_R p e below _ T7 (mkF m 37 #[.val (.ref a), .val (.int (2 : Int32)), .val (.int (1 : Int32))] [(.int (1 : Int32)), (.ref a)])
  obtain ⟨T8, h8, X8, e8, W8, st8⟩ := putF X7 hx hZ hown (host := "") (Or.inl (hw _ (List.mem_of_getElem? (i := 26) rfl))) Via.refl e7 F_maxStack_a E_a (Or.inl (hw _ (List.mem_of_getElem? (i := 27) rfl))) (hw _ (List.mem_of_getElem? (i := 1) rfl)) (ty := .int) (by decide) rfl rfl (g := (mkF m 37 #[.val (.ref a), .val (.int (2 : Int32)), .val (.int (1 : Int32))] [(.int (1 : Int32)), (.ref a)])) rfl rfl (hb hby d3_37)
  have N8 := Fr.snoc X8 N7 g_a
  replace Kh := Kh.wr W8 (Or.inl (List.mem_of_getElem? (i := 0) rfl))
  replace F_words_a := Fld.other W8 F_words_a (Or.inr (slot_ne (Or.inl (hw _ (List.mem_of_getElem? (i := 11) rfl))) (Or.inl (hw _ (List.mem_of_getElem? (i := 27) rfl))) (by decide) (t := (.array .int)) (t' := .int) (by decide) (by decide)))
  replace F_localCount_a := Fld.other W8 F_localCount_a (Or.inr (slot_ne (Or.inl (hw _ (List.mem_of_getElem? (i := 25) rfl))) (Or.inl (hw _ (List.mem_of_getElem? (i := 27) rfl))) (by decide) (t := .int) (t' := .int) (by decide) (by decide)))
  replace F_maxStack_a := Fld.same W8 F_maxStack_a
  replace F_top_a := Fld.other W8 F_top_a (Or.inr (slot_ne (Or.inl (hw _ (List.mem_of_getElem? (i := 29) rfl))) (Or.inl (hw _ (List.mem_of_getElem? (i := 27) rfl))) (by decide) (t := .int) (t' := .int) (by decide) (by decide)))
  replace F_thisUninitialized_a := Fld.other W8 F_thisUninitialized_a (Or.inr (slot_ne (Or.inl (hw _ (List.mem_of_getElem? (i := 31) rfl))) (Or.inl (hw _ (List.mem_of_getElem? (i := 27) rfl))) (by decide) (t := .boolean) (t' := .int) (by decide) (by decide)))
  replace F_localsVersion_a := Fld.other W8 F_localsVersion_a (Or.inr (slot_ne (Or.inl (hw _ (List.mem_of_getElem? (i := 33) rfl))) (Or.inl (hw _ (List.mem_of_getElem? (i := 27) rfl))) (by decide) (t := .int) (t' := .int) (by decide) (by decide)))
  replace E_a := Exa.wr W8 E_a
  replace V_w := Arv.other V_w W8 (Ne.symm ne_a_w)
  replace V6_w := Arv.other V6_w W8 (Ne.symm ne_a_b3)
  refine own_go (st8) ?_
  show own_R p e below _ T8 (mkF m 40 #[.val (.ref a), .val (.int (2 : Int32)), .val (.int (1 : Int32))] [])
  refine own_go (fun t k => XS.aloadN X8.here hx rfl (hb hby d3_40) rfl rfl  k) ?_
  show own_R p e below _ T8 (mkF m 41 #[.val (.ref a), .val (.int (2 : Int32)), .val (.int (1 : Int32))] [(.ref a)])
  refine own_go (fun t k => XS.iloadN X8.here hx rfl (hb hby d3_41) rfl  k) ?_
  show own_R p e below _ T8 (mkF m 42 #[.val (.ref a), .val (.int (2 : Int32)), .val (.int (1 : Int32))] [(.int (2 : Int32)), (.ref a)])
  obtain ⟨T9, h9, X9, e9, W9, st9⟩ := putF X8 hx hZ hown (host := "") (Or.inl (hw _ (List.mem_of_getElem? (i := 28) rfl))) Via.refl e8 F_top_a E_a (Or.inl (hw _ (List.mem_of_getElem? (i := 29) rfl))) (hw _ (List.mem_of_getElem? (i := 1) rfl)) (ty := .int) (by decide) rfl rfl (g := (mkF m 42 #[.val (.ref a), .val (.int (2 : Int32)), .val (.int (1 : Int32))] [(.int (2 : Int32)), (.ref a)])) rfl rfl (hb hby d3_42)
  have N9 := Fr.snoc X9 N8 g_a
  replace Kh := Kh.wr W9 (Or.inl (List.mem_of_getElem? (i := 0) rfl))
  replace F_words_a := Fld.other W9 F_words_a (Or.inr (slot_ne (Or.inl (hw _ (List.mem_of_getElem? (i := 11) rfl))) (Or.inl (hw _ (List.mem_of_getElem? (i := 29) rfl))) (by decide) (t := (.array .int)) (t' := .int) (by decide) (by decide)))
  replace F_localCount_a := Fld.other W9 F_localCount_a (Or.inr (slot_ne (Or.inl (hw _ (List.mem_of_getElem? (i := 25) rfl))) (Or.inl (hw _ (List.mem_of_getElem? (i := 29) rfl))) (by decide) (t := .int) (t' := .int) (by decide) (by decide)))
  replace F_maxStack_a := Fld.other W9 F_maxStack_a (Or.inr (slot_ne (Or.inl (hw _ (List.mem_of_getElem? (i := 27) rfl))) (Or.inl (hw _ (List.mem_of_getElem? (i := 29) rfl))) (by decide) (t := .int) (t' := .int) (by decide) (by decide)))
  replace F_top_a := Fld.same W9 F_top_a
  replace F_thisUninitialized_a := Fld.other W9 F_thisUninitialized_a (Or.inr (slot_ne (Or.inl (hw _ (List.mem_of_getElem? (i := 31) rfl))) (Or.inl (hw _ (List.mem_of_getElem? (i := 29) rfl))) (by decide) (t := .boolean) (t' := .int) (by decide) (by decide)))
  replace F_localsVersion_a := Fld.other W9 F_localsVersion_a (Or.inr (slot_ne (Or.inl (hw _ (List.mem_of_getElem? (i := 33) rfl))) (Or.inl (hw _ (List.mem_of_getElem? (i := 29) rfl))) (by decide) (t := .int) (t' := .int) (by decide) (by decide)))
  replace E_a := Exa.wr W9 E_a
  replace V_w := Arv.other V_w W9 (Ne.symm ne_a_w)
  replace V6_w := Arv.other V6_w W9 (Ne.symm ne_a_b3)
  refine own_go (st9) ?_
  show own_R p e below _ T9 (mkF m 45 #[.val (.ref a), .val (.int (2 : Int32)), .val (.int (1 : Int32))] [])
  refine own_go (fun t k => XS.aloadN X9.here hx rfl (hb hby d3_45) rfl rfl  k) ?_
  show own_R p e below _ T9 (mkF m 46 #[.val (.ref a), .val (.int (2 : Int32)), .val (.int (1 : Int32))] [(.ref a)])
  refine own_go (fun t k => XS.iconst X9.here hx rfl (hb hby d3_46) k) ?_
  show own_R p e below _ T9 (mkF m 47 #[.val (.ref a), .val (.int (2 : Int32)), .val (.int (1 : Int32))] [(.int (0 : Int32)), (.ref a)])
  obtain ⟨T10, h10, X10, e10, W10, st10⟩ := putFN X9 hx hZ hown (hw _ (List.mem_of_getElem? (i := 30) rfl)) Via.refl e9 F_thisUninitialized_a E_a (Or.inl (hw _ (List.mem_of_getElem? (i := 31) rfl))) (hw _ (List.mem_of_getElem? (i := 1) rfl)) (ty := .boolean) (v' := (.int (0 : Int32))) (by decide) rfl (by decide) (g := (mkF m 47 #[.val (.ref a), .val (.int (2 : Int32)), .val (.int (1 : Int32))] [(.int (0 : Int32)), (.ref a)])) rfl rfl (hb hby d3_47)
  have N10 := Fr.snoc X10 N9 g_a
  replace Kh := Kh.wr W10 (Or.inl (List.mem_of_getElem? (i := 0) rfl))
  replace F_words_a := Fld.other W10 F_words_a (Or.inr (slot_ne (Or.inl (hw _ (List.mem_of_getElem? (i := 11) rfl))) (Or.inl (hw _ (List.mem_of_getElem? (i := 31) rfl))) (by decide) (t := (.array .int)) (t' := .boolean) (by decide) (by decide)))
  replace F_localCount_a := Fld.other W10 F_localCount_a (Or.inr (slot_ne (Or.inl (hw _ (List.mem_of_getElem? (i := 25) rfl))) (Or.inl (hw _ (List.mem_of_getElem? (i := 31) rfl))) (by decide) (t := .int) (t' := .boolean) (by decide) (by decide)))
  replace F_maxStack_a := Fld.other W10 F_maxStack_a (Or.inr (slot_ne (Or.inl (hw _ (List.mem_of_getElem? (i := 27) rfl))) (Or.inl (hw _ (List.mem_of_getElem? (i := 31) rfl))) (by decide) (t := .int) (t' := .boolean) (by decide) (by decide)))
  replace F_top_a := Fld.other W10 F_top_a (Or.inr (slot_ne (Or.inl (hw _ (List.mem_of_getElem? (i := 29) rfl))) (Or.inl (hw _ (List.mem_of_getElem? (i := 31) rfl))) (by decide) (t := .int) (t' := .boolean) (by decide) (by decide)))
  replace F_thisUninitialized_a := Fld.same W10 F_thisUninitialized_a
  replace F_localsVersion_a := Fld.other W10 F_localsVersion_a (Or.inr (slot_ne (Or.inl (hw _ (List.mem_of_getElem? (i := 33) rfl))) (Or.inl (hw _ (List.mem_of_getElem? (i := 31) rfl))) (by decide) (t := .int) (t' := .boolean) (by decide) (by decide)))
  replace E_a := Exa.wr W10 E_a
  replace V_w := Arv.other V_w W10 (Ne.symm ne_a_w)
  replace V6_w := Arv.other V6_w W10 (Ne.symm ne_a_b3)
  refine own_go (st10) ?_
  show own_R p e below _ T10 (mkF m 50 #[.val (.ref a), .val (.int (2 : Int32)), .val (.int (1 : Int32))] [])
  refine own_go (fun t k => XS.aloadN X10.here hx rfl (hb hby d3_50) rfl rfl  k) ?_
  show own_R p e below _ T10 (mkF m 51 #[.val (.ref a), .val (.int (2 : Int32)), .val (.int (1 : Int32))] [(.ref a)])
  refine own_go (fun t k => XS.dup X10.here hx rfl (hb hby d3_51) rfl rfl k) ?_
  show own_R p e below _ T10 (mkF m 52 #[.val (.ref a), .val (.int (2 : Int32)), .val (.int (1 : Int32))] [(.ref a), (.ref a)])
  obtain ⟨T11, X11, e11, st11⟩ := getF X10 hx hZ hown (host := "") (Or.inl (hw _ (List.mem_of_getElem? (i := 32) rfl))) Via.refl e10 F_localsVersion_a (g := (mkF m 52 #[.val (.ref a), .val (.int (2 : Int32)), .val (.int (1 : Int32))] [(.ref a), (.ref a)])) rfl rfl (hb hby d3_52)
  refine own_go (st11) ?_
  show own_R p e below _ T11 (mkF m 55 #[.val (.ref a), .val (.int (2 : Int32)), .val (.int (1 : Int32))] [(.int (0 : Int32)), (.ref a)])
  refine own_go (fun t k => XS.iconst X11.here hx rfl (hb hby d3_55) k) ?_
  show own_R p e below _ T11 (mkF m 56 #[.val (.ref a), .val (.int (2 : Int32)), .val (.int (1 : Int32))] [(.int (1 : Int32)), (.int (0 : Int32)), (.ref a)])
  refine own_go (fun t k => XS.iadd X11.here hx rfl (hb hby d3_56) rfl k) ?_
  show own_R p e below _ T11 (mkF m 57 #[.val (.ref a), .val (.int (2 : Int32)), .val (.int (1 : Int32))] [(.int (1 : Int32)), (.ref a)])
  obtain ⟨T12, h12, X12, e12, W12, st12⟩ := putF X11 hx hZ hown (host := "") (Or.inl (hw _ (List.mem_of_getElem? (i := 32) rfl))) Via.refl e11 F_localsVersion_a E_a (Or.inl (hw _ (List.mem_of_getElem? (i := 33) rfl))) (hw _ (List.mem_of_getElem? (i := 1) rfl)) (ty := .int) (by decide) rfl rfl (g := (mkF m 57 #[.val (.ref a), .val (.int (2 : Int32)), .val (.int (1 : Int32))] [(.int (1 : Int32)), (.ref a)])) rfl rfl (hb hby d3_57)
  have N12 := Fr.snoc X12 N10 g_a
  replace Kh := Kh.wr W12 (Or.inl (List.mem_of_getElem? (i := 0) rfl))
  replace F_words_a := Fld.other W12 F_words_a (Or.inr (slot_ne (Or.inl (hw _ (List.mem_of_getElem? (i := 11) rfl))) (Or.inl (hw _ (List.mem_of_getElem? (i := 33) rfl))) (by decide) (t := (.array .int)) (t' := .int) (by decide) (by decide)))
  replace F_localCount_a := Fld.other W12 F_localCount_a (Or.inr (slot_ne (Or.inl (hw _ (List.mem_of_getElem? (i := 25) rfl))) (Or.inl (hw _ (List.mem_of_getElem? (i := 33) rfl))) (by decide) (t := .int) (t' := .int) (by decide) (by decide)))
  replace F_maxStack_a := Fld.other W12 F_maxStack_a (Or.inr (slot_ne (Or.inl (hw _ (List.mem_of_getElem? (i := 27) rfl))) (Or.inl (hw _ (List.mem_of_getElem? (i := 33) rfl))) (by decide) (t := .int) (t' := .int) (by decide) (by decide)))
  replace F_top_a := Fld.other W12 F_top_a (Or.inr (slot_ne (Or.inl (hw _ (List.mem_of_getElem? (i := 29) rfl))) (Or.inl (hw _ (List.mem_of_getElem? (i := 33) rfl))) (by decide) (t := .int) (t' := .int) (by decide) (by decide)))
  replace F_thisUninitialized_a := Fld.other W12 F_thisUninitialized_a (Or.inr (slot_ne (Or.inl (hw _ (List.mem_of_getElem? (i := 31) rfl))) (Or.inl (hw _ (List.mem_of_getElem? (i := 33) rfl))) (by decide) (t := .boolean) (t' := .int) (by decide) (by decide)))
  replace F_localsVersion_a := Fld.same W12 F_localsVersion_a
  replace E_a := Exa.wr W12 E_a
  replace V_w := Arv.other V_w W12 (Ne.symm ne_a_w)
  replace V6_w := Arv.other V6_w W12 (Ne.symm ne_a_b3)
  refine own_go (st12) ?_
  show own_R p e below _ T12 (mkF m 60 #[.val (.ref a), .val (.int (2 : Int32)), .val (.int (1 : Int32))] [])
  refine own_retV X12 hx Bd.returns (BodyLoose.notSynchronized Bd) (hb hby d3_60) (by decide) (by decide) ?_
  rw [e12]
  exact ⟨b3, k3, rfl, N12, Kh, sz_b3, E_a, F_words_a, F_localCount_a, F_maxStack_a, F_top_a, F_thisUninitialized_a, F_localsVersion_a, V6_w⟩
theorem d7_0 : decode prog_110_method_13_code 0 = .ok (.iload_n 1, 1) := by decide +kernel
theorem d7_1 : decode prog_110_method_13_code 1 = .ok (.aload_n 0, 1) := by decide +kernel
theorem d7_2 : decode prog_110_method_13_code 2 = .ok (.getfield 21, 3) := by decide +kernel
theorem d7_5 : decode prog_110_method_13_code 5 = .ok (.if_icmp .lt 7, 3) := by decide +kernel
theorem d7_12 : decode prog_110_method_13_code 12 = .ok (.return_, 1) := by decide +kernel
theorem ef_rl_st0 (m : MethodId) (x0 : Addr) : entryFrame m #[(.ref x0), (.int (0 : Int32))] 2 = mkF m 0 #[.val (.ref x0), .val (.int (0 : Int32))] [] := by first | (simp [entryFrame, mkF, argsToLocals, Value.category]; done) | rfl
def Qrl_st0 (Z : State) (a : Addr) (w : Addr) (kw : ClassId) (h0 : Heap) (n0 : Nat) (v : Option Value) (h : Heap) (L : List Loc) : Prop := v = none ∧ Fr n0 L ∧ h = h0
set_option maxRecDepth 65536 in
set_option maxHeartbeats 40000000 in
theorem rmrl_st0 (l : Launch) (Z : State) (a0 : Array Value) (hw : ∀ d ∈ tables_1, d.before a0 Z = true) (ws : List Jvm.Cond) (a : Addr) (w : Addr) (kw : ClassId) (h0 : Heap) (n0 : Nat) (Z0 : n0 ≤ h0.size) (F_words_a : Fld Z h0 a "com/example/signetry/signetry/card/WordFrame" "words" "[I" (.ref w)) (F_localCount_a : Fld Z h0 a "com/example/signetry/signetry/card/WordFrame" "localCount" "I" (.int (2 : Int32))) (F_maxStack_a : Fld Z h0 a "com/example/signetry/signetry/card/WordFrame" "maxStack" "I" (.int (1 : Int32))) (F_top_a : Fld Z h0 a "com/example/signetry/signetry/card/WordFrame" "top" "I" (.int (2 : Int32))) (F_thisUninitialized_a : Fld Z h0 a "com/example/signetry/signetry/card/WordFrame" "thisUninitialized" "Z" (.int (0 : Int32))) (F_localsVersion_a : Fld Z h0 a "com/example/signetry/signetry/card/WordFrame" "localsVersion" "I" (.int (1 : Int32))) (E_a : Exa Z h0 a "com/example/signetry/signetry/card/WordFrame") (V_w : Arv Z h0 w kw .int (3 : Int32) [(.int (0 : Int32)), (.int (0 : Int32)), (.int (0 : Int32))] (.int (0 : Int32))) :
    MetFree l (⟨"com/example/signetry/signetry/card/WordFrame", "requireLocal", "(I)V"⟩ : MethodName) (head1 (Jvm.Cond.code (⟨"com/example/signetry/signetry/card/WordFrame", "requireLocal", "(I)V"⟩ : MethodName) prog_110_method_13_code 2 none :: ws) ({ frames := 0, cells := 0, slots := 0, locals := 0 } : Room)) (fun aS U => aS = #[(.ref a), (.int (0 : Int32))] ∧ Z.Warmed39 U.vm ∧ U.heap = h0) (fun _ _ _ _ _ => True) (fun _ U o U' => ∃ v L, o = .returned v ∧ Qrl_st0 Z a w kw h0 n0 v U'.heap L ∧ FrameEnd U o U' L ({ frames := 0, cells := 0, slots := 0, locals := 0 } : Room).cells ({ frames := 0, cells := 0, slots := 0, locals := 0 } : Room).slots) := by
  refine MetFree.of_bodySF (plainFor_of_name pn_0) hisR ?_
  intro p e s m args below meth c s₁ Bd hml0 hP hK
  obtain ⟨rfl, hZ, hh⟩ := hP
  have hx := Bd.exec
  have hby := Bd.bytes
  have hml : c.maxLocals = 2 := hml0
  have hown : s.vm.findClass "com/example/signetry/signetry/card/WordFrame" = some m.cls := findClass_of_methodNamed Bd.named
  have hnm := (name_of_methodNamed Bd.named Bd.method).1
  have X0 : Stand p l e ({ frames := 0, cells := 0, slots := 0, locals := 0 } : Room) s m #[(.ref a), (.int (0 : Int32))] below meth c s₁ [] 0 0 := Stand.of_body Bd
  have e0 : s₁.heap = h0 := by rw [← hh, Bd.state]; rfl
  have N0 := Fr.nil n0
  have Kh : Keep h0 h0 [] := Keep.refl _ _
  suffices H : own_R p e below (own_E s below (Qrl_st0 Z a w kw h0 n0) ({ frames := 0, cells := 0, slots := 0, locals := 0 } : Room).cells ({ frames := 0, cells := 0, slots := 0, locals := 0 } : Room).slots) s₁ (mkF m 0 #[.val (.ref a), .val (.int (0 : Int32))] []) by
    obtain ⟨t, hst, hrun, v, L, hend, hQ, hF⟩ := H
    exact ⟨t, _, castTop (ef_rl_st0 m a) hst, hrun, hend, v, L, rfl, hQ, hF⟩
  show own_R p e below _ s₁ (mkF m 0 #[.val (.ref a), .val (.int (0 : Int32))] [])
  refine own_go (fun t k => XS.iloadN X0.here hx rfl (hb hby d7_0) rfl  k) ?_
  show own_R p e below _ s₁ (mkF m 1 #[.val (.ref a), .val (.int (0 : Int32))] [(.int (0 : Int32))])
  refine own_go (fun t k => XS.aloadN X0.here hx rfl (hb hby d7_1) rfl rfl  k) ?_
  show own_R p e below _ s₁ (mkF m 2 #[.val (.ref a), .val (.int (0 : Int32))] [(.ref a), (.int (0 : Int32))])
  obtain ⟨T1, X1, e1, st1⟩ := getF X0 hx hZ hown (host := "") (Or.inl (hw _ (List.mem_of_getElem? (i := 24) rfl))) Via.refl e0 F_localCount_a (g := (mkF m 2 #[.val (.ref a), .val (.int (0 : Int32))] [(.ref a), (.int (0 : Int32))])) rfl rfl (hb hby d7_2)
  refine own_go (st1) ?_
  show own_R p e below _ T1 (mkF m 5 #[.val (.ref a), .val (.int (0 : Int32))] [(.int (2 : Int32)), (.int (0 : Int32))])
  refine own_go (fun t k => XS.icmpYes X1.here hx rfl (pc0 := 5) (pc' := 12) rfl (hb hby d7_5) rfl (tlt (by decide : (0 : Int32) < (2 : Int32))).1 (by decide) (by decide) k) ?_
  show own_R p e below _ T1 (mkF m 12 #[.val (.ref a), .val (.int (0 : Int32))] [])
  refine own_retV X1 hx Bd.returns (BodyLoose.notSynchronized Bd) (hb hby d7_12) (by decide) (by decide) ?_
  exact ⟨rfl, N0, e1⟩
theorem d8_0 : decode prog_110_method_12_code 0 = .ok (.aload_n 0, 1) := by decide +kernel
theorem d8_1 : decode prog_110_method_12_code 1 = .ok (.getfield 7, 3) := by decide +kernel
theorem d8_4 : decode prog_110_method_12_code 4 = .ok (.iload_n 1, 1) := by decide +kernel
theorem d8_5 : decode prog_110_method_12_code 5 = .ok (.iaload, 1) := by decide +kernel
theorem d8_6 : decode prog_110_method_12_code 6 = .ok (.iconst 2, 1) := by decide +kernel
theorem d8_7 : decode prog_110_method_12_code 7 = .ok (.if_icmp .ne 22, 3) := by decide +kernel
theorem d8_29 : decode prog_110_method_12_code 29 = .ok (.aload_n 0, 1) := by decide +kernel
theorem d8_30 : decode prog_110_method_12_code 30 = .ok (.getfield 7, 3) := by decide +kernel
theorem d8_33 : decode prog_110_method_12_code 33 = .ok (.iload_n 1, 1) := by decide +kernel
theorem d8_34 : decode prog_110_method_12_code 34 = .ok (.iaload, 1) := by decide +kernel
theorem d8_35 : decode prog_110_method_12_code 35 = .ok (.iconst 3, 1) := by decide +kernel
theorem d8_36 : decode prog_110_method_12_code 36 = .ok (.if_icmp .ne 16, 3) := by decide +kernel
theorem d8_52 : decode prog_110_method_12_code 52 = .ok (.return_, 1) := by decide +kernel
theorem ef_iv_st0 (m : MethodId) (x0 : Addr) : entryFrame m #[(.ref x0), (.int (0 : Int32))] 2 = mkF m 0 #[.val (.ref x0), .val (.int (0 : Int32))] [] := by first | (simp [entryFrame, mkF, argsToLocals, Value.category]; done) | rfl
def Qiv_st0 (Z : State) (a : Addr) (w : Addr) (kw : ClassId) (h0 : Heap) (n0 : Nat) (v : Option Value) (h : Heap) (L : List Loc) : Prop := v = none ∧ Fr n0 L ∧ h = h0
set_option maxRecDepth 65536 in
set_option maxHeartbeats 40000000 in
theorem rmiv_st0 (l : Launch) (Z : State) (a0 : Array Value) (hw : ∀ d ∈ tables_1, d.before a0 Z = true) (ws : List Jvm.Cond) (a : Addr) (w : Addr) (kw : ClassId) (h0 : Heap) (n0 : Nat) (Z0 : n0 ≤ h0.size) (F_words_a : Fld Z h0 a "com/example/signetry/signetry/card/WordFrame" "words" "[I" (.ref w)) (F_localCount_a : Fld Z h0 a "com/example/signetry/signetry/card/WordFrame" "localCount" "I" (.int (2 : Int32))) (F_maxStack_a : Fld Z h0 a "com/example/signetry/signetry/card/WordFrame" "maxStack" "I" (.int (1 : Int32))) (F_top_a : Fld Z h0 a "com/example/signetry/signetry/card/WordFrame" "top" "I" (.int (2 : Int32))) (F_thisUninitialized_a : Fld Z h0 a "com/example/signetry/signetry/card/WordFrame" "thisUninitialized" "Z" (.int (0 : Int32))) (F_localsVersion_a : Fld Z h0 a "com/example/signetry/signetry/card/WordFrame" "localsVersion" "I" (.int (1 : Int32))) (E_a : Exa Z h0 a "com/example/signetry/signetry/card/WordFrame") (V_w : Arv Z h0 w kw .int (3 : Int32) [(.int (0 : Int32)), (.int (0 : Int32)), (.int (0 : Int32))] (.int (0 : Int32))) :
    MetFree l (⟨"com/example/signetry/signetry/card/WordFrame", "invalidateIntAround", "(I)V"⟩ : MethodName) (head1 (Jvm.Cond.code (⟨"com/example/signetry/signetry/card/WordFrame", "invalidateIntAround", "(I)V"⟩ : MethodName) prog_110_method_12_code 2 none :: ws) ({ frames := 0, cells := 0, slots := 0, locals := 0 } : Room)) (fun aS U => aS = #[(.ref a), (.int (0 : Int32))] ∧ Z.Warmed39 U.vm ∧ U.heap = h0) (fun _ _ _ _ _ => True) (fun _ U o U' => ∃ v L, o = .returned v ∧ Qiv_st0 Z a w kw h0 n0 v U'.heap L ∧ FrameEnd U o U' L ({ frames := 0, cells := 0, slots := 0, locals := 0 } : Room).cells ({ frames := 0, cells := 0, slots := 0, locals := 0 } : Room).slots) := by
  refine MetFree.of_bodySF (plainFor_of_name pn_0) hisR ?_
  intro p e s m args below meth c s₁ Bd hml0 hP hK
  obtain ⟨rfl, hZ, hh⟩ := hP
  have hx := Bd.exec
  have hby := Bd.bytes
  have hml : c.maxLocals = 2 := hml0
  have hown : s.vm.findClass "com/example/signetry/signetry/card/WordFrame" = some m.cls := findClass_of_methodNamed Bd.named
  have hnm := (name_of_methodNamed Bd.named Bd.method).1
  have X0 : Stand p l e ({ frames := 0, cells := 0, slots := 0, locals := 0 } : Room) s m #[(.ref a), (.int (0 : Int32))] below meth c s₁ [] 0 0 := Stand.of_body Bd
  have e0 : s₁.heap = h0 := by rw [← hh, Bd.state]; rfl
  have N0 := Fr.nil n0
  have Kh : Keep h0 h0 [] := Keep.refl _ _
  suffices H : own_R p e below (own_E s below (Qiv_st0 Z a w kw h0 n0) ({ frames := 0, cells := 0, slots := 0, locals := 0 } : Room).cells ({ frames := 0, cells := 0, slots := 0, locals := 0 } : Room).slots) s₁ (mkF m 0 #[.val (.ref a), .val (.int (0 : Int32))] []) by
    obtain ⟨t, hst, hrun, v, L, hend, hQ, hF⟩ := H
    exact ⟨t, _, castTop (ef_iv_st0 m a) hst, hrun, hend, v, L, rfl, hQ, hF⟩
  show own_R p e below _ s₁ (mkF m 0 #[.val (.ref a), .val (.int (0 : Int32))] [])
  refine own_go (fun t k => XS.aloadN X0.here hx rfl (hb hby d8_0) rfl rfl  k) ?_
  show own_R p e below _ s₁ (mkF m 1 #[.val (.ref a), .val (.int (0 : Int32))] [(.ref a)])
  obtain ⟨T1, X1, e1, st1⟩ := getF X0 hx hZ hown (host := "") (Or.inl (hw _ (List.mem_of_getElem? (i := 10) rfl))) Via.refl e0 F_words_a (g := (mkF m 1 #[.val (.ref a), .val (.int (0 : Int32))] [(.ref a)])) rfl rfl (hb hby d8_1)
  refine own_go (st1) ?_
  show own_R p e below _ T1 (mkF m 4 #[.val (.ref a), .val (.int (0 : Int32))] [(.ref w)])
  refine own_go (fun t k => XS.iloadN X1.here hx rfl (hb hby d8_4) rfl  k) ?_
  show own_R p e below _ T1 (mkF m 5 #[.val (.ref a), .val (.int (0 : Int32))] [(.int (0 : Int32)), (.ref w)])
  obtain ⟨cl2, Ar2, q2, S2, Nn2, Hh2, G2⟩ := id V_w
  have hin2 : ¬ ((0 : Int32) < 0 ∨ cl2.slots.size ≤ ((0 : Int32)).toNatClampNeg) := inb_of S2 ⟨by decide, by decide⟩
  have hat2 : cl2.slots[((0 : Int32)).toNatClampNeg]? = some (.int (0 : Int32)) := Has.at Hh2 hin2 rfl
  refine own_go (X1.iaload hx (j := (0 : Int32)) (v := (.int (0 : Int32))) (by rw [e1]; exact Ar2.1) (State.isArrayOf_alike hZ.alike Ar2.2.1) Ar2.2.2 hin2 hat2 (g := (mkF m 5 #[.val (.ref a), .val (.int (0 : Int32))] [(.int (0 : Int32)), (.ref w)])) rfl rfl (hb hby d8_5)) ?_
  show own_R p e below _ T1 (mkF m 6 #[.val (.ref a), .val (.int (0 : Int32))] [(.int (0 : Int32))])
  refine own_go (fun t k => XS.iconst X1.here hx rfl (hb hby d8_6) k) ?_
  show own_R p e below _ T1 (mkF m 7 #[.val (.ref a), .val (.int (0 : Int32))] [(.int (2 : Int32)), (.int (0 : Int32))])
  refine own_go (fun t k => XS.icmpYes X1.here hx rfl (pc0 := 7) (pc' := 29) rfl (hb hby d8_7) rfl (feq (by decide : ¬ ((0 : Int32) = (2 : Int32)))).2 (by decide) (by decide) k) ?_
  show own_R p e below _ T1 (mkF m 29 #[.val (.ref a), .val (.int (0 : Int32))] [])
  refine own_go (fun t k => XS.aloadN X1.here hx rfl (hb hby d8_29) rfl rfl  k) ?_
  show own_R p e below _ T1 (mkF m 30 #[.val (.ref a), .val (.int (0 : Int32))] [(.ref a)])
  obtain ⟨T3, X3, e3, st3⟩ := getF X1 hx hZ hown (host := "") (Or.inl (hw _ (List.mem_of_getElem? (i := 10) rfl))) Via.refl e1 F_words_a (g := (mkF m 30 #[.val (.ref a), .val (.int (0 : Int32))] [(.ref a)])) rfl rfl (hb hby d8_30)
  refine own_go (st3) ?_
  show own_R p e below _ T3 (mkF m 33 #[.val (.ref a), .val (.int (0 : Int32))] [(.ref w)])
  refine own_go (fun t k => XS.iloadN X3.here hx rfl (hb hby d8_33) rfl  k) ?_
  show own_R p e below _ T3 (mkF m 34 #[.val (.ref a), .val (.int (0 : Int32))] [(.int (0 : Int32)), (.ref w)])
  obtain ⟨cl4, Ar4, q4, S4, Nn4, Hh4, G4⟩ := id V_w
  have hin4 : ¬ ((0 : Int32) < 0 ∨ cl4.slots.size ≤ ((0 : Int32)).toNatClampNeg) := inb_of S4 ⟨by decide, by decide⟩
  have hat4 : cl4.slots[((0 : Int32)).toNatClampNeg]? = some (.int (0 : Int32)) := Has.at Hh4 hin4 rfl
  refine own_go (X3.iaload hx (j := (0 : Int32)) (v := (.int (0 : Int32))) (by rw [e3]; exact Ar4.1) (State.isArrayOf_alike hZ.alike Ar4.2.1) Ar4.2.2 hin4 hat4 (g := (mkF m 34 #[.val (.ref a), .val (.int (0 : Int32))] [(.int (0 : Int32)), (.ref w)])) rfl rfl (hb hby d8_34)) ?_
  show own_R p e below _ T3 (mkF m 35 #[.val (.ref a), .val (.int (0 : Int32))] [(.int (0 : Int32))])
  refine own_go (fun t k => XS.iconst X3.here hx rfl (hb hby d8_35) k) ?_
  show own_R p e below _ T3 (mkF m 36 #[.val (.ref a), .val (.int (0 : Int32))] [(.int (3 : Int32)), (.int (0 : Int32))])
  refine own_go (fun t k => XS.icmpYes X3.here hx rfl (pc0 := 36) (pc' := 52) rfl (hb hby d8_36) rfl (feq (by decide : ¬ ((0 : Int32) = (3 : Int32)))).2 (by decide) (by decide) k) ?_
  show own_R p e below _ T3 (mkF m 52 #[.val (.ref a), .val (.int (0 : Int32))] [])
  refine own_retV X3 hx Bd.returns (BodyLoose.notSynchronized Bd) (hb hby d8_52) (by decide) (by decide) ?_
  exact ⟨rfl, N0, e3⟩
theorem d6_0 : decode prog_110_method_10_code 0 = .ok (.aload_n 0, 1) := by decide +kernel
theorem d6_1 : decode prog_110_method_10_code 1 = .ok (.iload_n 1, 1) := by decide +kernel
theorem d6_2 : decode prog_110_method_10_code 2 = .ok (.invokevirtual 38, 3) := by decide +kernel
theorem d6_5 : decode prog_110_method_10_code 5 = .ok (.aload_n 0, 1) := by decide +kernel
theorem d6_6 : decode prog_110_method_10_code 6 = .ok (.iload_n 1, 1) := by decide +kernel
theorem d6_7 : decode prog_110_method_10_code 7 = .ok (.invokevirtual 42, 3) := by decide +kernel
theorem d6_10 : decode prog_110_method_10_code 10 = .ok (.aload_n 0, 1) := by decide +kernel
theorem d6_11 : decode prog_110_method_10_code 11 = .ok (.getfield 7, 3) := by decide +kernel
theorem d6_14 : decode prog_110_method_10_code 14 = .ok (.iload_n 1, 1) := by decide +kernel
theorem d6_15 : decode prog_110_method_10_code 15 = .ok (.iload_n 2, 1) := by decide +kernel
theorem d6_16 : decode prog_110_method_10_code 16 = .ok (.iastore, 1) := by decide +kernel
theorem d6_17 : decode prog_110_method_10_code 17 = .ok (.aload_n 0, 1) := by decide +kernel
theorem d6_18 : decode prog_110_method_10_code 18 = .ok (.dup, 1) := by decide +kernel
theorem d6_19 : decode prog_110_method_10_code 19 = .ok (.getfield 35, 3) := by decide +kernel
theorem d6_22 : decode prog_110_method_10_code 22 = .ok (.iconst 1, 1) := by decide +kernel
theorem d6_23 : decode prog_110_method_10_code 23 = .ok (.iadd, 1) := by decide +kernel
theorem d6_24 : decode prog_110_method_10_code 24 = .ok (.putfield 35, 3) := by decide +kernel
theorem d6_27 : decode prog_110_method_10_code 27 = .ok (.return_, 1) := by decide +kernel
theorem ef_store_st0 (m : MethodId) (x0 : Addr) (x2 : Int32) : entryFrame m #[(.ref x0), (.int (0 : Int32)), (.int x2)] 3 = mkF m 0 #[.val (.ref x0), .val (.int (0 : Int32)), .val (.int x2)] [] := by first | (simp [entryFrame, mkF, argsToLocals, Value.category]; done) | rfl
def Qstore_st0 (Z : State) (a : Addr) (y : Int32) (w : Addr) (kw : ClassId) (h0 : Heap) (n0 : Nat) (v : Option Value) (h : Heap) (L : List Loc) : Prop := v = none ∧ Fr n0 L ∧ Keep h0 h [a, w] ∧ Exa Z h a "com/example/signetry/signetry/card/WordFrame" ∧ Fld Z h a "com/example/signetry/signetry/card/WordFrame" "words" "[I" (.ref w) ∧ Fld Z h a "com/example/signetry/signetry/card/WordFrame" "localCount" "I" (.int (2 : Int32)) ∧ Fld Z h a "com/example/signetry/signetry/card/WordFrame" "maxStack" "I" (.int (1 : Int32)) ∧ Fld Z h a "com/example/signetry/signetry/card/WordFrame" "top" "I" (.int (2 : Int32)) ∧ Fld Z h a "com/example/signetry/signetry/card/WordFrame" "thisUninitialized" "Z" (.int (0 : Int32)) ∧ Fld Z h a "com/example/signetry/signetry/card/WordFrame" "localsVersion" "I" (.int (2 : Int32)) ∧ Arv Z h w kw .int (3 : Int32) [(.int y), (.int (0 : Int32)), (.int (0 : Int32))] (.int (0 : Int32))
set_option maxRecDepth 65536 in
set_option maxHeartbeats 40000000 in
theorem rmstore_st0 (l : Launch) (Z : State) (a0 : Array Value) (hw : ∀ d ∈ tables_1, d.before a0 Z = true) (ws : List Jvm.Cond) (a : Addr) (y : Int32) (w : Addr) (kw : ClassId) (h0 : Heap) (n0 : Nat) (Z0 : n0 ≤ h0.size) (F_words_a : Fld Z h0 a "com/example/signetry/signetry/card/WordFrame" "words" "[I" (.ref w)) (F_localCount_a : Fld Z h0 a "com/example/signetry/signetry/card/WordFrame" "localCount" "I" (.int (2 : Int32))) (F_maxStack_a : Fld Z h0 a "com/example/signetry/signetry/card/WordFrame" "maxStack" "I" (.int (1 : Int32))) (F_top_a : Fld Z h0 a "com/example/signetry/signetry/card/WordFrame" "top" "I" (.int (2 : Int32))) (F_thisUninitialized_a : Fld Z h0 a "com/example/signetry/signetry/card/WordFrame" "thisUninitialized" "Z" (.int (0 : Int32))) (F_localsVersion_a : Fld Z h0 a "com/example/signetry/signetry/card/WordFrame" "localsVersion" "I" (.int (1 : Int32))) (E_a : Exa Z h0 a "com/example/signetry/signetry/card/WordFrame") (V_w : Arv Z h0 w kw .int (3 : Int32) [(.int (0 : Int32)), (.int (0 : Int32)), (.int (0 : Int32))] (.int (0 : Int32))) (g_a : n0 ≤ a) (g_w : n0 ≤ w) (ne_a_w : a ≠ w) :
    MetFree l (⟨"com/example/signetry/signetry/card/WordFrame", "store", "(II)V"⟩ : MethodName) (head1 (Jvm.Cond.code (⟨"com/example/signetry/signetry/card/WordFrame", "store", "(II)V"⟩ : MethodName) prog_110_method_10_code 3 none :: ws) ({ frames := 1, cells := 0, slots := 0, locals := 13 } : Room)) (fun aS U => aS = #[(.ref a), (.int (0 : Int32)), (.int y)] ∧ Z.Warmed39 U.vm ∧ U.heap = h0) (fun _ _ _ _ _ => True) (fun _ U o U' => ∃ v L, o = .returned v ∧ Qstore_st0 Z a y w kw h0 n0 v U'.heap L ∧ FrameEnd U o U' L ({ frames := 1, cells := 0, slots := 0, locals := 13 } : Room).cells ({ frames := 1, cells := 0, slots := 0, locals := 13 } : Room).slots) := by
  refine MetFree.of_bodySF (plainFor_of_name pn_0) hisR ?_
  intro p e s m args below meth c s₁ Bd hml0 hP hK
  obtain ⟨rfl, hZ, hh⟩ := hP
  have hx := Bd.exec
  have hby := Bd.bytes
  have hml : c.maxLocals = 3 := hml0
  have hown : s.vm.findClass "com/example/signetry/signetry/card/WordFrame" = some m.cls := findClass_of_methodNamed Bd.named
  have hnm := (name_of_methodNamed Bd.named Bd.method).1
  have X0 : Stand p l e ({ frames := 1, cells := 0, slots := 0, locals := 13 } : Room) s m #[(.ref a), (.int (0 : Int32)), (.int y)] below meth c s₁ [] 0 0 := Stand.of_body Bd
  have e0 : s₁.heap = h0 := by rw [← hh, Bd.state]; rfl
  have N0 := Fr.nil n0
  have Kh : Keep h0 h0 [a, w] := Keep.refl _ _
  suffices H : own_R p e below (own_E s below (Qstore_st0 Z a y w kw h0 n0) ({ frames := 1, cells := 0, slots := 0, locals := 13 } : Room).cells ({ frames := 1, cells := 0, slots := 0, locals := 13 } : Room).slots) s₁ (mkF m 0 #[.val (.ref a), .val (.int (0 : Int32)), .val (.int y)] []) by
    obtain ⟨t, hst, hrun, v, L, hend, hQ, hF⟩ := H
    exact ⟨t, _, castTop (ef_store_st0 m a y) hst, hrun, hend, v, L, rfl, hQ, hF⟩
  show own_R p e below _ s₁ (mkF m 0 #[.val (.ref a), .val (.int (0 : Int32)), .val (.int y)] [])
  refine own_go (fun t k => XS.aloadN X0.here hx rfl (hb hby d6_0) rfl rfl  k) ?_
  show own_R p e below _ s₁ (mkF m 1 #[.val (.ref a), .val (.int (0 : Int32)), .val (.int y)] [(.ref a)])
  refine own_go (fun t k => XS.iloadN X0.here hx rfl (hb hby d6_1) rfl  k) ?_
  show own_R p e below _ s₁ (mkF m 2 #[.val (.ref a), .val (.int (0 : Int32)), .val (.int y)] [(.int (0 : Int32)), (.ref a)])
  obtain ⟨cq1, q1, q1'⟩ := E_a.cell
  obtain ⟨_, _, ⟨T1, L1, k1, n1⟩, -, X1, ⟨Lc1, hQ1, l1, y1, z1⟩, st1⟩ := X0.privateBack hx (y := (⟨"com/example/signetry/signetry/card/WordFrame", "requireLocal", "(I)V"⟩ : MethodName)) hown (mvT hZ (hw _ (List.mem_of_getElem? (i := 39) rfl))) (mvT hZ (hw _ (List.mem_of_getElem? (i := 40) rfl))) (Jvm.Kit.selects_private (by decide) (mvT hZ (hw _ (List.mem_of_getElem? (i := 1) rfl))) (mvP hZ (hw _ (List.mem_of_getElem? (i := 41) rfl))) (mvT hZ (hw _ (List.mem_of_getElem? (i := 40) rfl)))) (Cond.privateMethod_at (mvP hZ (hw _ (List.mem_of_getElem? (i := 41) rfl)) (args := #[]))) (mvT hZ (hw _ (List.mem_of_getElem? (i := 42) rfl))) (by decide) (backOf (W := 0) (rmrl_st0 l Z a0 hw [] a w kw h0 n0 (Nat.le_trans Z0 Kh.1) F_words_a F_localCount_a F_maxStack_a F_top_a F_thisUninitialized_a F_localsVersion_a E_a V_w) hZ (hw _ (List.mem_of_getElem? (i := 42) rfl)) (hw _ (List.mem_of_getElem? (i := 2) rfl)) (by decide) (by decide)) (g := (mkF m 2 #[.val (.ref a), .val (.int (0 : Int32)), .val (.int y)] [(.int (0 : Int32)), (.ref a)])) rfl (by rw [hml]; rfl) (Steps.refl _) (a := a) (by rw [e0]; exact q1) q1' (argsL := [(.int (0 : Int32))]) (rest := []) (lenOf pd_4 rfl) rfl (by show 2 * 0 + _ ≤ _; exact Nat.le_of_eq rfl) (hb hby d6_2) (fun _ _ => ⟨rfl, e0, (by decide : 0 + 0 ≤ _), (by decide : 0 + 0 ≤ _)⟩)
  dsimp only [Pt.U, Pt.locs, Pt.cells, Pt.slots] at X1 l1 y1 z1 st1 hQ1
  subst l1 y1 z1
  obtain ⟨rfl, Nq1, e1⟩ := hQ1
  have N1 := Fr.app N0 Nq1
  refine own_go (fun t k => st1.trans k) ?_
  show own_R p e below _ T1 (mkF m 5 #[.val (.ref a), .val (.int (0 : Int32)), .val (.int y)] [])
  refine own_go (fun t k => XS.aloadN X1.here hx rfl (hb hby d6_5) rfl rfl  k) ?_
  show own_R p e below _ T1 (mkF m 6 #[.val (.ref a), .val (.int (0 : Int32)), .val (.int y)] [(.ref a)])
  refine own_go (fun t k => XS.iloadN X1.here hx rfl (hb hby d6_6) rfl  k) ?_
  show own_R p e below _ T1 (mkF m 7 #[.val (.ref a), .val (.int (0 : Int32)), .val (.int y)] [(.int (0 : Int32)), (.ref a)])
  obtain ⟨cq2, q2, q2'⟩ := E_a.cell
  obtain ⟨_, _, ⟨T2, L2, k2, n2⟩, -, X2, ⟨Lc2, hQ2, l2, y2, z2⟩, st2⟩ := X1.privateBack hx (y := (⟨"com/example/signetry/signetry/card/WordFrame", "invalidateIntAround", "(I)V"⟩ : MethodName)) hown (mvT hZ (hw _ (List.mem_of_getElem? (i := 43) rfl))) (mvT hZ (hw _ (List.mem_of_getElem? (i := 44) rfl))) (Jvm.Kit.selects_private (by decide) (mvT hZ (hw _ (List.mem_of_getElem? (i := 1) rfl))) (mvP hZ (hw _ (List.mem_of_getElem? (i := 45) rfl))) (mvT hZ (hw _ (List.mem_of_getElem? (i := 44) rfl)))) (Cond.privateMethod_at (mvP hZ (hw _ (List.mem_of_getElem? (i := 45) rfl)) (args := #[]))) (mvT hZ (hw _ (List.mem_of_getElem? (i := 46) rfl))) (by decide) (backOf (W := 0) (rmiv_st0 l Z a0 hw [] a w kw h0 n0 (Nat.le_trans Z0 Kh.1) F_words_a F_localCount_a F_maxStack_a F_top_a F_thisUninitialized_a F_localsVersion_a E_a V_w) hZ (hw _ (List.mem_of_getElem? (i := 46) rfl)) (hw _ (List.mem_of_getElem? (i := 2) rfl)) (by decide) (by decide)) (g := (mkF m 7 #[.val (.ref a), .val (.int (0 : Int32)), .val (.int y)] [(.int (0 : Int32)), (.ref a)])) rfl (by rw [hml]; rfl) (Steps.refl _) (a := a) (by rw [e1]; exact q2) q2' (argsL := [(.int (0 : Int32))]) (rest := []) (lenOf pd_4 rfl) rfl (by show 2 * 0 + _ ≤ _; exact Nat.le_of_eq rfl) (hb hby d6_7) (fun _ _ => ⟨rfl, e1, (by decide : 0 + 0 ≤ _), (by decide : 0 + 0 ≤ _)⟩)
  dsimp only [Pt.U, Pt.locs, Pt.cells, Pt.slots] at X2 l2 y2 z2 st2 hQ2
  subst l2 y2 z2
  obtain ⟨rfl, Nq2, e2⟩ := hQ2
  have N2 := Fr.app N1 Nq2
  refine own_go (fun t k => st2.trans k) ?_
  show own_R p e below _ T2 (mkF m 10 #[.val (.ref a), .val (.int (0 : Int32)), .val (.int y)] [])
  refine own_go (fun t k => XS.aloadN X2.here hx rfl (hb hby d6_10) rfl rfl  k) ?_
  show own_R p e below _ T2 (mkF m 11 #[.val (.ref a), .val (.int (0 : Int32)), .val (.int y)] [(.ref a)])
  obtain ⟨T3, X3, e3, st3⟩ := getF X2 hx hZ hown (host := "") (Or.inl (hw _ (List.mem_of_getElem? (i := 10) rfl))) Via.refl e2 F_words_a (g := (mkF m 11 #[.val (.ref a), .val (.int (0 : Int32)), .val (.int y)] [(.ref a)])) rfl rfl (hb hby d6_11)
  refine own_go (st3) ?_
  show own_R p e below _ T3 (mkF m 14 #[.val (.ref a), .val (.int (0 : Int32)), .val (.int y)] [(.ref w)])
  refine own_go (fun t k => XS.iloadN X3.here hx rfl (hb hby d6_14) rfl  k) ?_
  show own_R p e below _ T3 (mkF m 15 #[.val (.ref a), .val (.int (0 : Int32)), .val (.int y)] [(.int (0 : Int32)), (.ref w)])
  refine own_go (fun t k => XS.iloadN X3.here hx rfl (hb hby d6_15) rfl  k) ?_
  show own_R p e below _ T3 (mkF m 16 #[.val (.ref a), .val (.int (0 : Int32)), .val (.int y)] [(.int y), (.int (0 : Int32)), (.ref w)])
  obtain ⟨cl4, Ar4, q4, S4, Nn4, Hh4, G4⟩ := id V_w
  have hin4 : ¬ ((0 : Int32) < 0 ∨ cl4.slots.size ≤ ((0 : Int32)).toNatClampNeg) := inb_of S4 ⟨by decide, by decide⟩
  obtain ⟨T5, h5, X5, e5, W5, st5⟩ := stI X3 hx hZ e3 Ar4 (j := (0 : Int32)) hin4 (g := (mkF m 16 #[.val (.ref a), .val (.int (0 : Int32)), .val (.int y)] [(.int y), (.int (0 : Int32)), (.ref w)])) rfl rfl (hb hby d6_16)
  have N5 := Fr.snoc X5 N2 g_w
  replace Kh := Kh.wr W5 (Or.inl (List.mem_of_getElem? (i := 1) rfl))
  replace F_words_a := Fld.other W5 F_words_a (Or.inl ne_a_w)
  replace F_localCount_a := Fld.other W5 F_localCount_a (Or.inl ne_a_w)
  replace F_maxStack_a := Fld.other W5 F_maxStack_a (Or.inl ne_a_w)
  replace F_top_a := Fld.other W5 F_top_a (Or.inl ne_a_w)
  replace F_thisUninitialized_a := Fld.other W5 F_thisUninitialized_a (Or.inl ne_a_w)
  replace F_localsVersion_a := Fld.other W5 F_localsVersion_a (Or.inl ne_a_w)
  replace E_a := Exa.wr W5 E_a
  have V_w_5 : Arv Z h5 w kw .int (3 : Int32) [(.int y), (.int (0 : Int32)), (.int (0 : Int32))] (.int (0 : Int32)) := Arv.set Ar4 q4 S4 Nn4 Hh4 G4 rfl W5 0 rfl (Nat.le_of_ble_eq_true rfl)
  refine own_go (st5) ?_
  show own_R p e below _ T5 (mkF m 17 #[.val (.ref a), .val (.int (0 : Int32)), .val (.int y)] [])
  refine own_go (fun t k => XS.aloadN X5.here hx rfl (hb hby d6_17) rfl rfl  k) ?_
  show own_R p e below _ T5 (mkF m 18 #[.val (.ref a), .val (.int (0 : Int32)), .val (.int y)] [(.ref a)])
  refine own_go (fun t k => XS.dup X5.here hx rfl (hb hby d6_18) rfl rfl k) ?_
  show own_R p e below _ T5 (mkF m 19 #[.val (.ref a), .val (.int (0 : Int32)), .val (.int y)] [(.ref a), (.ref a)])
  obtain ⟨T6, X6, e6, st6⟩ := getF X5 hx hZ hown (host := "") (Or.inl (hw _ (List.mem_of_getElem? (i := 32) rfl))) Via.refl e5 F_localsVersion_a (g := (mkF m 19 #[.val (.ref a), .val (.int (0 : Int32)), .val (.int y)] [(.ref a), (.ref a)])) rfl rfl (hb hby d6_19)
  refine own_go (st6) ?_
  show own_R p e below _ T6 (mkF m 22 #[.val (.ref a), .val (.int (0 : Int32)), .val (.int y)] [(.int (1 : Int32)), (.ref a)])
  refine own_go (fun t k => XS.iconst X6.here hx rfl (hb hby d6_22) k) ?_
  show own_R p e below _ T6 (mkF m 23 #[.val (.ref a), .val (.int (0 : Int32)), .val (.int y)] [(.int (1 : Int32)), (.int (1 : Int32)), (.ref a)])
  refine own_go (fun t k => XS.iadd X6.here hx rfl (hb hby d6_23) rfl k) ?_
  show own_R p e below _ T6 (mkF m 24 #[.val (.ref a), .val (.int (0 : Int32)), .val (.int y)] [(.int (2 : Int32)), (.ref a)])
  obtain ⟨T7, h7, X7, e7, W7, st7⟩ := putF X6 hx hZ hown (host := "") (Or.inl (hw _ (List.mem_of_getElem? (i := 32) rfl))) Via.refl e6 F_localsVersion_a E_a (Or.inl (hw _ (List.mem_of_getElem? (i := 33) rfl))) (hw _ (List.mem_of_getElem? (i := 1) rfl)) (ty := .int) (by decide) rfl rfl (g := (mkF m 24 #[.val (.ref a), .val (.int (0 : Int32)), .val (.int y)] [(.int (2 : Int32)), (.ref a)])) rfl rfl (hb hby d6_24)
  have N7 := Fr.snoc X7 N5 g_a
  replace Kh := Kh.wr W7 (Or.inl (List.mem_of_getElem? (i := 0) rfl))
  replace F_words_a := Fld.other W7 F_words_a (Or.inr (slot_ne (Or.inl (hw _ (List.mem_of_getElem? (i := 11) rfl))) (Or.inl (hw _ (List.mem_of_getElem? (i := 33) rfl))) (by decide) (t := (.array .int)) (t' := .int) (by decide) (by decide)))
  replace F_localCount_a := Fld.other W7 F_localCount_a (Or.inr (slot_ne (Or.inl (hw _ (List.mem_of_getElem? (i := 25) rfl))) (Or.inl (hw _ (List.mem_of_getElem? (i := 33) rfl))) (by decide) (t := .int) (t' := .int) (by decide) (by decide)))
  replace F_maxStack_a := Fld.other W7 F_maxStack_a (Or.inr (slot_ne (Or.inl (hw _ (List.mem_of_getElem? (i := 27) rfl))) (Or.inl (hw _ (List.mem_of_getElem? (i := 33) rfl))) (by decide) (t := .int) (t' := .int) (by decide) (by decide)))
  replace F_top_a := Fld.other W7 F_top_a (Or.inr (slot_ne (Or.inl (hw _ (List.mem_of_getElem? (i := 29) rfl))) (Or.inl (hw _ (List.mem_of_getElem? (i := 33) rfl))) (by decide) (t := .int) (t' := .int) (by decide) (by decide)))
  replace F_thisUninitialized_a := Fld.other W7 F_thisUninitialized_a (Or.inr (slot_ne (Or.inl (hw _ (List.mem_of_getElem? (i := 31) rfl))) (Or.inl (hw _ (List.mem_of_getElem? (i := 33) rfl))) (by decide) (t := .boolean) (t' := .int) (by decide) (by decide)))
  replace F_localsVersion_a := Fld.same W7 F_localsVersion_a
  replace E_a := Exa.wr W7 E_a
  replace V_w_5 := Arv.other V_w_5 W7 (Ne.symm ne_a_w)
  refine own_go (st7) ?_
  show own_R p e below _ T7 (mkF m 27 #[.val (.ref a), .val (.int (0 : Int32)), .val (.int y)] [])
  refine own_retV X7 hx Bd.returns (BodyLoose.notSynchronized Bd) (hb hby d6_27) (by decide) (by decide) ?_
  rw [e7]
  exact ⟨rfl, N7, Kh, E_a, F_words_a, F_localCount_a, F_maxStack_a, F_top_a, F_thisUninitialized_a, F_localsVersion_a, V_w_5⟩
theorem ef_rl_st1 (m : MethodId) (x0 : Addr) : entryFrame m #[(.ref x0), (.int (1 : Int32))] 2 = mkF m 0 #[.val (.ref x0), .val (.int (1 : Int32))] [] := by first | (simp [entryFrame, mkF, argsToLocals, Value.category]; done) | rfl
def Qrl_st1 (Z : State) (a : Addr) (w : Addr) (kw : ClassId) (x0 : Int32) (h0 : Heap) (n0 : Nat) (v : Option Value) (h : Heap) (L : List Loc) : Prop := v = none ∧ Fr n0 L ∧ h = h0
set_option maxRecDepth 65536 in
set_option maxHeartbeats 40000000 in
theorem rmrl_st1 (l : Launch) (Z : State) (a0 : Array Value) (hw : ∀ d ∈ tables_1, d.before a0 Z = true) (ws : List Jvm.Cond) (a : Addr) (w : Addr) (kw : ClassId) (x0 : Int32) (h0 : Heap) (n0 : Nat) (Z0 : n0 ≤ h0.size) (F_words_a : Fld Z h0 a "com/example/signetry/signetry/card/WordFrame" "words" "[I" (.ref w)) (F_localCount_a : Fld Z h0 a "com/example/signetry/signetry/card/WordFrame" "localCount" "I" (.int (2 : Int32))) (F_maxStack_a : Fld Z h0 a "com/example/signetry/signetry/card/WordFrame" "maxStack" "I" (.int (1 : Int32))) (F_top_a : Fld Z h0 a "com/example/signetry/signetry/card/WordFrame" "top" "I" (.int (2 : Int32))) (F_thisUninitialized_a : Fld Z h0 a "com/example/signetry/signetry/card/WordFrame" "thisUninitialized" "Z" (.int (0 : Int32))) (F_localsVersion_a : Fld Z h0 a "com/example/signetry/signetry/card/WordFrame" "localsVersion" "I" (.int (2 : Int32))) (E_a : Exa Z h0 a "com/example/signetry/signetry/card/WordFrame") (V_w : Arv Z h0 w kw .int (3 : Int32) [(.int x0), (.int (0 : Int32)), (.int (0 : Int32))] (.int (0 : Int32))) :
    MetFree l (⟨"com/example/signetry/signetry/card/WordFrame", "requireLocal", "(I)V"⟩ : MethodName) (head1 (Jvm.Cond.code (⟨"com/example/signetry/signetry/card/WordFrame", "requireLocal", "(I)V"⟩ : MethodName) prog_110_method_13_code 2 none :: ws) ({ frames := 0, cells := 0, slots := 0, locals := 0 } : Room)) (fun aS U => aS = #[(.ref a), (.int (1 : Int32))] ∧ Z.Warmed39 U.vm ∧ U.heap = h0) (fun _ _ _ _ _ => True) (fun _ U o U' => ∃ v L, o = .returned v ∧ Qrl_st1 Z a w kw x0 h0 n0 v U'.heap L ∧ FrameEnd U o U' L ({ frames := 0, cells := 0, slots := 0, locals := 0 } : Room).cells ({ frames := 0, cells := 0, slots := 0, locals := 0 } : Room).slots) := by
  refine MetFree.of_bodySF (plainFor_of_name pn_0) hisR ?_
  intro p e s m args below meth c s₁ Bd hml0 hP hK
  obtain ⟨rfl, hZ, hh⟩ := hP
  have hx := Bd.exec
  have hby := Bd.bytes
  have hml : c.maxLocals = 2 := hml0
  have hown : s.vm.findClass "com/example/signetry/signetry/card/WordFrame" = some m.cls := findClass_of_methodNamed Bd.named
  have hnm := (name_of_methodNamed Bd.named Bd.method).1
  have X0 : Stand p l e ({ frames := 0, cells := 0, slots := 0, locals := 0 } : Room) s m #[(.ref a), (.int (1 : Int32))] below meth c s₁ [] 0 0 := Stand.of_body Bd
  have e0 : s₁.heap = h0 := by rw [← hh, Bd.state]; rfl
  have N0 := Fr.nil n0
  have Kh : Keep h0 h0 [] := Keep.refl _ _
  suffices H : own_R p e below (own_E s below (Qrl_st1 Z a w kw x0 h0 n0) ({ frames := 0, cells := 0, slots := 0, locals := 0 } : Room).cells ({ frames := 0, cells := 0, slots := 0, locals := 0 } : Room).slots) s₁ (mkF m 0 #[.val (.ref a), .val (.int (1 : Int32))] []) by
    obtain ⟨t, hst, hrun, v, L, hend, hQ, hF⟩ := H
    exact ⟨t, _, castTop (ef_rl_st1 m a) hst, hrun, hend, v, L, rfl, hQ, hF⟩
  show own_R p e below _ s₁ (mkF m 0 #[.val (.ref a), .val (.int (1 : Int32))] [])
  refine own_go (fun t k => XS.iloadN X0.here hx rfl (hb hby d7_0) rfl  k) ?_
  show own_R p e below _ s₁ (mkF m 1 #[.val (.ref a), .val (.int (1 : Int32))] [(.int (1 : Int32))])
  refine own_go (fun t k => XS.aloadN X0.here hx rfl (hb hby d7_1) rfl rfl  k) ?_
  show own_R p e below _ s₁ (mkF m 2 #[.val (.ref a), .val (.int (1 : Int32))] [(.ref a), (.int (1 : Int32))])
  obtain ⟨T1, X1, e1, st1⟩ := getF X0 hx hZ hown (host := "") (Or.inl (hw _ (List.mem_of_getElem? (i := 24) rfl))) Via.refl e0 F_localCount_a (g := (mkF m 2 #[.val (.ref a), .val (.int (1 : Int32))] [(.ref a), (.int (1 : Int32))])) rfl rfl (hb hby d7_2)
  refine own_go (st1) ?_
  show own_R p e below _ T1 (mkF m 5 #[.val (.ref a), .val (.int (1 : Int32))] [(.int (2 : Int32)), (.int (1 : Int32))])
  refine own_go (fun t k => XS.icmpYes X1.here hx rfl (pc0 := 5) (pc' := 12) rfl (hb hby d7_5) rfl (tlt (by decide : (1 : Int32) < (2 : Int32))).1 (by decide) (by decide) k) ?_
  show own_R p e below _ T1 (mkF m 12 #[.val (.ref a), .val (.int (1 : Int32))] [])
  refine own_retV X1 hx Bd.returns (BodyLoose.notSynchronized Bd) (hb hby d7_12) (by decide) (by decide) ?_
  exact ⟨rfl, N0, e1⟩
theorem ef_iv_st1 (m : MethodId) (x0 : Addr) : entryFrame m #[(.ref x0), (.int (1 : Int32))] 2 = mkF m 0 #[.val (.ref x0), .val (.int (1 : Int32))] [] := by first | (simp [entryFrame, mkF, argsToLocals, Value.category]; done) | rfl
def Qiv_st1 (Z : State) (a : Addr) (w : Addr) (kw : ClassId) (x0 : Int32) (h0 : Heap) (n0 : Nat) (v : Option Value) (h : Heap) (L : List Loc) : Prop := v = none ∧ Fr n0 L ∧ h = h0
set_option maxRecDepth 65536 in
set_option maxHeartbeats 40000000 in
theorem rmiv_st1 (l : Launch) (Z : State) (a0 : Array Value) (hw : ∀ d ∈ tables_1, d.before a0 Z = true) (ws : List Jvm.Cond) (a : Addr) (w : Addr) (kw : ClassId) (x0 : Int32) (h0 : Heap) (n0 : Nat) (Z0 : n0 ≤ h0.size) (F_words_a : Fld Z h0 a "com/example/signetry/signetry/card/WordFrame" "words" "[I" (.ref w)) (F_localCount_a : Fld Z h0 a "com/example/signetry/signetry/card/WordFrame" "localCount" "I" (.int (2 : Int32))) (F_maxStack_a : Fld Z h0 a "com/example/signetry/signetry/card/WordFrame" "maxStack" "I" (.int (1 : Int32))) (F_top_a : Fld Z h0 a "com/example/signetry/signetry/card/WordFrame" "top" "I" (.int (2 : Int32))) (F_thisUninitialized_a : Fld Z h0 a "com/example/signetry/signetry/card/WordFrame" "thisUninitialized" "Z" (.int (0 : Int32))) (F_localsVersion_a : Fld Z h0 a "com/example/signetry/signetry/card/WordFrame" "localsVersion" "I" (.int (2 : Int32))) (E_a : Exa Z h0 a "com/example/signetry/signetry/card/WordFrame") (V_w : Arv Z h0 w kw .int (3 : Int32) [(.int x0), (.int (0 : Int32)), (.int (0 : Int32))] (.int (0 : Int32))) :
    MetFree l (⟨"com/example/signetry/signetry/card/WordFrame", "invalidateIntAround", "(I)V"⟩ : MethodName) (head1 (Jvm.Cond.code (⟨"com/example/signetry/signetry/card/WordFrame", "invalidateIntAround", "(I)V"⟩ : MethodName) prog_110_method_12_code 2 none :: ws) ({ frames := 0, cells := 0, slots := 0, locals := 0 } : Room)) (fun aS U => aS = #[(.ref a), (.int (1 : Int32))] ∧ Z.Warmed39 U.vm ∧ U.heap = h0) (fun _ _ _ _ _ => True) (fun _ U o U' => ∃ v L, o = .returned v ∧ Qiv_st1 Z a w kw x0 h0 n0 v U'.heap L ∧ FrameEnd U o U' L ({ frames := 0, cells := 0, slots := 0, locals := 0 } : Room).cells ({ frames := 0, cells := 0, slots := 0, locals := 0 } : Room).slots) := by
  refine MetFree.of_bodySF (plainFor_of_name pn_0) hisR ?_
  intro p e s m args below meth c s₁ Bd hml0 hP hK
  obtain ⟨rfl, hZ, hh⟩ := hP
  have hx := Bd.exec
  have hby := Bd.bytes
  have hml : c.maxLocals = 2 := hml0
  have hown : s.vm.findClass "com/example/signetry/signetry/card/WordFrame" = some m.cls := findClass_of_methodNamed Bd.named
  have hnm := (name_of_methodNamed Bd.named Bd.method).1
  have X0 : Stand p l e ({ frames := 0, cells := 0, slots := 0, locals := 0 } : Room) s m #[(.ref a), (.int (1 : Int32))] below meth c s₁ [] 0 0 := Stand.of_body Bd
  have e0 : s₁.heap = h0 := by rw [← hh, Bd.state]; rfl
  have N0 := Fr.nil n0
  have Kh : Keep h0 h0 [] := Keep.refl _ _
  suffices H : own_R p e below (own_E s below (Qiv_st1 Z a w kw x0 h0 n0) ({ frames := 0, cells := 0, slots := 0, locals := 0 } : Room).cells ({ frames := 0, cells := 0, slots := 0, locals := 0 } : Room).slots) s₁ (mkF m 0 #[.val (.ref a), .val (.int (1 : Int32))] []) by
    obtain ⟨t, hst, hrun, v, L, hend, hQ, hF⟩ := H
    exact ⟨t, _, castTop (ef_iv_st1 m a) hst, hrun, hend, v, L, rfl, hQ, hF⟩
  show own_R p e below _ s₁ (mkF m 0 #[.val (.ref a), .val (.int (1 : Int32))] [])
  refine own_go (fun t k => XS.aloadN X0.here hx rfl (hb hby d8_0) rfl rfl  k) ?_
  show own_R p e below _ s₁ (mkF m 1 #[.val (.ref a), .val (.int (1 : Int32))] [(.ref a)])
  obtain ⟨T1, X1, e1, st1⟩ := getF X0 hx hZ hown (host := "") (Or.inl (hw _ (List.mem_of_getElem? (i := 10) rfl))) Via.refl e0 F_words_a (g := (mkF m 1 #[.val (.ref a), .val (.int (1 : Int32))] [(.ref a)])) rfl rfl (hb hby d8_1)
  refine own_go (st1) ?_
  show own_R p e below _ T1 (mkF m 4 #[.val (.ref a), .val (.int (1 : Int32))] [(.ref w)])
  refine own_go (fun t k => XS.iloadN X1.here hx rfl (hb hby d8_4) rfl  k) ?_
  show own_R p e below _ T1 (mkF m 5 #[.val (.ref a), .val (.int (1 : Int32))] [(.int (1 : Int32)), (.ref w)])
  obtain ⟨cl2, Ar2, q2, S2, Nn2, Hh2, G2⟩ := id V_w
  have hin2 : ¬ ((1 : Int32) < 0 ∨ cl2.slots.size ≤ ((1 : Int32)).toNatClampNeg) := inb_of S2 ⟨by decide, by decide⟩
  have hat2 : cl2.slots[((1 : Int32)).toNatClampNeg]? = some (.int (0 : Int32)) := Has.at Hh2 hin2 rfl
  refine own_go (X1.iaload hx (j := (1 : Int32)) (v := (.int (0 : Int32))) (by rw [e1]; exact Ar2.1) (State.isArrayOf_alike hZ.alike Ar2.2.1) Ar2.2.2 hin2 hat2 (g := (mkF m 5 #[.val (.ref a), .val (.int (1 : Int32))] [(.int (1 : Int32)), (.ref w)])) rfl rfl (hb hby d8_5)) ?_
  show own_R p e below _ T1 (mkF m 6 #[.val (.ref a), .val (.int (1 : Int32))] [(.int (0 : Int32))])
  refine own_go (fun t k => XS.iconst X1.here hx rfl (hb hby d8_6) k) ?_
  show own_R p e below _ T1 (mkF m 7 #[.val (.ref a), .val (.int (1 : Int32))] [(.int (2 : Int32)), (.int (0 : Int32))])
  refine own_go (fun t k => XS.icmpYes X1.here hx rfl (pc0 := 7) (pc' := 29) rfl (hb hby d8_7) rfl (feq (by decide : ¬ ((0 : Int32) = (2 : Int32)))).2 (by decide) (by decide) k) ?_
  show own_R p e below _ T1 (mkF m 29 #[.val (.ref a), .val (.int (1 : Int32))] [])
  refine own_go (fun t k => XS.aloadN X1.here hx rfl (hb hby d8_29) rfl rfl  k) ?_
  show own_R p e below _ T1 (mkF m 30 #[.val (.ref a), .val (.int (1 : Int32))] [(.ref a)])
  obtain ⟨T3, X3, e3, st3⟩ := getF X1 hx hZ hown (host := "") (Or.inl (hw _ (List.mem_of_getElem? (i := 10) rfl))) Via.refl e1 F_words_a (g := (mkF m 30 #[.val (.ref a), .val (.int (1 : Int32))] [(.ref a)])) rfl rfl (hb hby d8_30)
  refine own_go (st3) ?_
  show own_R p e below _ T3 (mkF m 33 #[.val (.ref a), .val (.int (1 : Int32))] [(.ref w)])
  refine own_go (fun t k => XS.iloadN X3.here hx rfl (hb hby d8_33) rfl  k) ?_
  show own_R p e below _ T3 (mkF m 34 #[.val (.ref a), .val (.int (1 : Int32))] [(.int (1 : Int32)), (.ref w)])
  obtain ⟨cl4, Ar4, q4, S4, Nn4, Hh4, G4⟩ := id V_w
  have hin4 : ¬ ((1 : Int32) < 0 ∨ cl4.slots.size ≤ ((1 : Int32)).toNatClampNeg) := inb_of S4 ⟨by decide, by decide⟩
  have hat4 : cl4.slots[((1 : Int32)).toNatClampNeg]? = some (.int (0 : Int32)) := Has.at Hh4 hin4 rfl
  refine own_go (X3.iaload hx (j := (1 : Int32)) (v := (.int (0 : Int32))) (by rw [e3]; exact Ar4.1) (State.isArrayOf_alike hZ.alike Ar4.2.1) Ar4.2.2 hin4 hat4 (g := (mkF m 34 #[.val (.ref a), .val (.int (1 : Int32))] [(.int (1 : Int32)), (.ref w)])) rfl rfl (hb hby d8_34)) ?_
  show own_R p e below _ T3 (mkF m 35 #[.val (.ref a), .val (.int (1 : Int32))] [(.int (0 : Int32))])
  refine own_go (fun t k => XS.iconst X3.here hx rfl (hb hby d8_35) k) ?_
  show own_R p e below _ T3 (mkF m 36 #[.val (.ref a), .val (.int (1 : Int32))] [(.int (3 : Int32)), (.int (0 : Int32))])
  refine own_go (fun t k => XS.icmpYes X3.here hx rfl (pc0 := 36) (pc' := 52) rfl (hb hby d8_36) rfl (feq (by decide : ¬ ((0 : Int32) = (3 : Int32)))).2 (by decide) (by decide) k) ?_
  show own_R p e below _ T3 (mkF m 52 #[.val (.ref a), .val (.int (1 : Int32))] [])
  refine own_retV X3 hx Bd.returns (BodyLoose.notSynchronized Bd) (hb hby d8_52) (by decide) (by decide) ?_
  exact ⟨rfl, N0, e3⟩
theorem ef_store_st1 (m : MethodId) (x0 : Addr) (x2 : Int32) : entryFrame m #[(.ref x0), (.int (1 : Int32)), (.int x2)] 3 = mkF m 0 #[.val (.ref x0), .val (.int (1 : Int32)), .val (.int x2)] [] := by first | (simp [entryFrame, mkF, argsToLocals, Value.category]; done) | rfl
def Qstore_st1 (Z : State) (a : Addr) (y : Int32) (w : Addr) (kw : ClassId) (x0 : Int32) (h0 : Heap) (n0 : Nat) (v : Option Value) (h : Heap) (L : List Loc) : Prop := v = none ∧ Fr n0 L ∧ Keep h0 h [a, w] ∧ Exa Z h a "com/example/signetry/signetry/card/WordFrame" ∧ Fld Z h a "com/example/signetry/signetry/card/WordFrame" "words" "[I" (.ref w) ∧ Fld Z h a "com/example/signetry/signetry/card/WordFrame" "localCount" "I" (.int (2 : Int32)) ∧ Fld Z h a "com/example/signetry/signetry/card/WordFrame" "maxStack" "I" (.int (1 : Int32)) ∧ Fld Z h a "com/example/signetry/signetry/card/WordFrame" "top" "I" (.int (2 : Int32)) ∧ Fld Z h a "com/example/signetry/signetry/card/WordFrame" "thisUninitialized" "Z" (.int (0 : Int32)) ∧ Fld Z h a "com/example/signetry/signetry/card/WordFrame" "localsVersion" "I" (.int (3 : Int32)) ∧ Arv Z h w kw .int (3 : Int32) [(.int x0), (.int y), (.int (0 : Int32))] (.int (0 : Int32))
set_option maxRecDepth 65536 in
set_option maxHeartbeats 40000000 in
theorem rmstore_st1 (l : Launch) (Z : State) (a0 : Array Value) (hw : ∀ d ∈ tables_1, d.before a0 Z = true) (ws : List Jvm.Cond) (a : Addr) (y : Int32) (w : Addr) (kw : ClassId) (x0 : Int32) (h0 : Heap) (n0 : Nat) (Z0 : n0 ≤ h0.size) (F_words_a : Fld Z h0 a "com/example/signetry/signetry/card/WordFrame" "words" "[I" (.ref w)) (F_localCount_a : Fld Z h0 a "com/example/signetry/signetry/card/WordFrame" "localCount" "I" (.int (2 : Int32))) (F_maxStack_a : Fld Z h0 a "com/example/signetry/signetry/card/WordFrame" "maxStack" "I" (.int (1 : Int32))) (F_top_a : Fld Z h0 a "com/example/signetry/signetry/card/WordFrame" "top" "I" (.int (2 : Int32))) (F_thisUninitialized_a : Fld Z h0 a "com/example/signetry/signetry/card/WordFrame" "thisUninitialized" "Z" (.int (0 : Int32))) (F_localsVersion_a : Fld Z h0 a "com/example/signetry/signetry/card/WordFrame" "localsVersion" "I" (.int (2 : Int32))) (E_a : Exa Z h0 a "com/example/signetry/signetry/card/WordFrame") (V_w : Arv Z h0 w kw .int (3 : Int32) [(.int x0), (.int (0 : Int32)), (.int (0 : Int32))] (.int (0 : Int32))) (g_a : n0 ≤ a) (g_w : n0 ≤ w) (ne_a_w : a ≠ w) :
    MetFree l (⟨"com/example/signetry/signetry/card/WordFrame", "store", "(II)V"⟩ : MethodName) (head1 (Jvm.Cond.code (⟨"com/example/signetry/signetry/card/WordFrame", "store", "(II)V"⟩ : MethodName) prog_110_method_10_code 3 none :: ws) ({ frames := 1, cells := 0, slots := 0, locals := 13 } : Room)) (fun aS U => aS = #[(.ref a), (.int (1 : Int32)), (.int y)] ∧ Z.Warmed39 U.vm ∧ U.heap = h0) (fun _ _ _ _ _ => True) (fun _ U o U' => ∃ v L, o = .returned v ∧ Qstore_st1 Z a y w kw x0 h0 n0 v U'.heap L ∧ FrameEnd U o U' L ({ frames := 1, cells := 0, slots := 0, locals := 13 } : Room).cells ({ frames := 1, cells := 0, slots := 0, locals := 13 } : Room).slots) := by
  refine MetFree.of_bodySF (plainFor_of_name pn_0) hisR ?_
  intro p e s m args below meth c s₁ Bd hml0 hP hK
  obtain ⟨rfl, hZ, hh⟩ := hP
  have hx := Bd.exec
  have hby := Bd.bytes
  have hml : c.maxLocals = 3 := hml0
  have hown : s.vm.findClass "com/example/signetry/signetry/card/WordFrame" = some m.cls := findClass_of_methodNamed Bd.named
  have hnm := (name_of_methodNamed Bd.named Bd.method).1
  have X0 : Stand p l e ({ frames := 1, cells := 0, slots := 0, locals := 13 } : Room) s m #[(.ref a), (.int (1 : Int32)), (.int y)] below meth c s₁ [] 0 0 := Stand.of_body Bd
  have e0 : s₁.heap = h0 := by rw [← hh, Bd.state]; rfl
  have N0 := Fr.nil n0
  have Kh : Keep h0 h0 [a, w] := Keep.refl _ _
  suffices H : own_R p e below (own_E s below (Qstore_st1 Z a y w kw x0 h0 n0) ({ frames := 1, cells := 0, slots := 0, locals := 13 } : Room).cells ({ frames := 1, cells := 0, slots := 0, locals := 13 } : Room).slots) s₁ (mkF m 0 #[.val (.ref a), .val (.int (1 : Int32)), .val (.int y)] []) by
    obtain ⟨t, hst, hrun, v, L, hend, hQ, hF⟩ := H
    exact ⟨t, _, castTop (ef_store_st1 m a y) hst, hrun, hend, v, L, rfl, hQ, hF⟩
  show own_R p e below _ s₁ (mkF m 0 #[.val (.ref a), .val (.int (1 : Int32)), .val (.int y)] [])
  refine own_go (fun t k => XS.aloadN X0.here hx rfl (hb hby d6_0) rfl rfl  k) ?_
  show own_R p e below _ s₁ (mkF m 1 #[.val (.ref a), .val (.int (1 : Int32)), .val (.int y)] [(.ref a)])
  refine own_go (fun t k => XS.iloadN X0.here hx rfl (hb hby d6_1) rfl  k) ?_
  show own_R p e below _ s₁ (mkF m 2 #[.val (.ref a), .val (.int (1 : Int32)), .val (.int y)] [(.int (1 : Int32)), (.ref a)])
  obtain ⟨cq1, q1, q1'⟩ := E_a.cell
  obtain ⟨_, _, ⟨T1, L1, k1, n1⟩, -, X1, ⟨Lc1, hQ1, l1, y1, z1⟩, st1⟩ := X0.privateBack hx (y := (⟨"com/example/signetry/signetry/card/WordFrame", "requireLocal", "(I)V"⟩ : MethodName)) hown (mvT hZ (hw _ (List.mem_of_getElem? (i := 39) rfl))) (mvT hZ (hw _ (List.mem_of_getElem? (i := 40) rfl))) (Jvm.Kit.selects_private (by decide) (mvT hZ (hw _ (List.mem_of_getElem? (i := 1) rfl))) (mvP hZ (hw _ (List.mem_of_getElem? (i := 41) rfl))) (mvT hZ (hw _ (List.mem_of_getElem? (i := 40) rfl)))) (Cond.privateMethod_at (mvP hZ (hw _ (List.mem_of_getElem? (i := 41) rfl)) (args := #[]))) (mvT hZ (hw _ (List.mem_of_getElem? (i := 42) rfl))) (by decide) (backOf (W := 0) (rmrl_st1 l Z a0 hw [] a w kw x0 h0 n0 (Nat.le_trans Z0 Kh.1) F_words_a F_localCount_a F_maxStack_a F_top_a F_thisUninitialized_a F_localsVersion_a E_a V_w) hZ (hw _ (List.mem_of_getElem? (i := 42) rfl)) (hw _ (List.mem_of_getElem? (i := 2) rfl)) (by decide) (by decide)) (g := (mkF m 2 #[.val (.ref a), .val (.int (1 : Int32)), .val (.int y)] [(.int (1 : Int32)), (.ref a)])) rfl (by rw [hml]; rfl) (Steps.refl _) (a := a) (by rw [e0]; exact q1) q1' (argsL := [(.int (1 : Int32))]) (rest := []) (lenOf pd_4 rfl) rfl (by show 2 * 0 + _ ≤ _; exact Nat.le_of_eq rfl) (hb hby d6_2) (fun _ _ => ⟨rfl, e0, (by decide : 0 + 0 ≤ _), (by decide : 0 + 0 ≤ _)⟩)
  dsimp only [Pt.U, Pt.locs, Pt.cells, Pt.slots] at X1 l1 y1 z1 st1 hQ1
  subst l1 y1 z1
  obtain ⟨rfl, Nq1, e1⟩ := hQ1
  have N1 := Fr.app N0 Nq1
  refine own_go (fun t k => st1.trans k) ?_
  show own_R p e below _ T1 (mkF m 5 #[.val (.ref a), .val (.int (1 : Int32)), .val (.int y)] [])
  refine own_go (fun t k => XS.aloadN X1.here hx rfl (hb hby d6_5) rfl rfl  k) ?_
  show own_R p e below _ T1 (mkF m 6 #[.val (.ref a), .val (.int (1 : Int32)), .val (.int y)] [(.ref a)])
  refine own_go (fun t k => XS.iloadN X1.here hx rfl (hb hby d6_6) rfl  k) ?_
  show own_R p e below _ T1 (mkF m 7 #[.val (.ref a), .val (.int (1 : Int32)), .val (.int y)] [(.int (1 : Int32)), (.ref a)])
  obtain ⟨cq2, q2, q2'⟩ := E_a.cell
  obtain ⟨_, _, ⟨T2, L2, k2, n2⟩, -, X2, ⟨Lc2, hQ2, l2, y2, z2⟩, st2⟩ := X1.privateBack hx (y := (⟨"com/example/signetry/signetry/card/WordFrame", "invalidateIntAround", "(I)V"⟩ : MethodName)) hown (mvT hZ (hw _ (List.mem_of_getElem? (i := 43) rfl))) (mvT hZ (hw _ (List.mem_of_getElem? (i := 44) rfl))) (Jvm.Kit.selects_private (by decide) (mvT hZ (hw _ (List.mem_of_getElem? (i := 1) rfl))) (mvP hZ (hw _ (List.mem_of_getElem? (i := 45) rfl))) (mvT hZ (hw _ (List.mem_of_getElem? (i := 44) rfl)))) (Cond.privateMethod_at (mvP hZ (hw _ (List.mem_of_getElem? (i := 45) rfl)) (args := #[]))) (mvT hZ (hw _ (List.mem_of_getElem? (i := 46) rfl))) (by decide) (backOf (W := 0) (rmiv_st1 l Z a0 hw [] a w kw x0 h0 n0 (Nat.le_trans Z0 Kh.1) F_words_a F_localCount_a F_maxStack_a F_top_a F_thisUninitialized_a F_localsVersion_a E_a V_w) hZ (hw _ (List.mem_of_getElem? (i := 46) rfl)) (hw _ (List.mem_of_getElem? (i := 2) rfl)) (by decide) (by decide)) (g := (mkF m 7 #[.val (.ref a), .val (.int (1 : Int32)), .val (.int y)] [(.int (1 : Int32)), (.ref a)])) rfl (by rw [hml]; rfl) (Steps.refl _) (a := a) (by rw [e1]; exact q2) q2' (argsL := [(.int (1 : Int32))]) (rest := []) (lenOf pd_4 rfl) rfl (by show 2 * 0 + _ ≤ _; exact Nat.le_of_eq rfl) (hb hby d6_7) (fun _ _ => ⟨rfl, e1, (by decide : 0 + 0 ≤ _), (by decide : 0 + 0 ≤ _)⟩)
  dsimp only [Pt.U, Pt.locs, Pt.cells, Pt.slots] at X2 l2 y2 z2 st2 hQ2
  subst l2 y2 z2
  obtain ⟨rfl, Nq2, e2⟩ := hQ2
  have N2 := Fr.app N1 Nq2
  refine own_go (fun t k => st2.trans k) ?_
  show own_R p e below _ T2 (mkF m 10 #[.val (.ref a), .val (.int (1 : Int32)), .val (.int y)] [])
  refine own_go (fun t k => XS.aloadN X2.here hx rfl (hb hby d6_10) rfl rfl  k) ?_
  show own_R p e below _ T2 (mkF m 11 #[.val (.ref a), .val (.int (1 : Int32)), .val (.int y)] [(.ref a)])
  obtain ⟨T3, X3, e3, st3⟩ := getF X2 hx hZ hown (host := "") (Or.inl (hw _ (List.mem_of_getElem? (i := 10) rfl))) Via.refl e2 F_words_a (g := (mkF m 11 #[.val (.ref a), .val (.int (1 : Int32)), .val (.int y)] [(.ref a)])) rfl rfl (hb hby d6_11)
  refine own_go (st3) ?_
  show own_R p e below _ T3 (mkF m 14 #[.val (.ref a), .val (.int (1 : Int32)), .val (.int y)] [(.ref w)])
  refine own_go (fun t k => XS.iloadN X3.here hx rfl (hb hby d6_14) rfl  k) ?_
  show own_R p e below _ T3 (mkF m 15 #[.val (.ref a), .val (.int (1 : Int32)), .val (.int y)] [(.int (1 : Int32)), (.ref w)])
  refine own_go (fun t k => XS.iloadN X3.here hx rfl (hb hby d6_15) rfl  k) ?_
  show own_R p e below _ T3 (mkF m 16 #[.val (.ref a), .val (.int (1 : Int32)), .val (.int y)] [(.int y), (.int (1 : Int32)), (.ref w)])
  obtain ⟨cl4, Ar4, q4, S4, Nn4, Hh4, G4⟩ := id V_w
  have hin4 : ¬ ((1 : Int32) < 0 ∨ cl4.slots.size ≤ ((1 : Int32)).toNatClampNeg) := inb_of S4 ⟨by decide, by decide⟩
  obtain ⟨T5, h5, X5, e5, W5, st5⟩ := stI X3 hx hZ e3 Ar4 (j := (1 : Int32)) hin4 (g := (mkF m 16 #[.val (.ref a), .val (.int (1 : Int32)), .val (.int y)] [(.int y), (.int (1 : Int32)), (.ref w)])) rfl rfl (hb hby d6_16)
  have N5 := Fr.snoc X5 N2 g_w
  replace Kh := Kh.wr W5 (Or.inl (List.mem_of_getElem? (i := 1) rfl))
  replace F_words_a := Fld.other W5 F_words_a (Or.inl ne_a_w)
  replace F_localCount_a := Fld.other W5 F_localCount_a (Or.inl ne_a_w)
  replace F_maxStack_a := Fld.other W5 F_maxStack_a (Or.inl ne_a_w)
  replace F_top_a := Fld.other W5 F_top_a (Or.inl ne_a_w)
  replace F_thisUninitialized_a := Fld.other W5 F_thisUninitialized_a (Or.inl ne_a_w)
  replace F_localsVersion_a := Fld.other W5 F_localsVersion_a (Or.inl ne_a_w)
  replace E_a := Exa.wr W5 E_a
  have V_w_5 : Arv Z h5 w kw .int (3 : Int32) [(.int x0), (.int y), (.int (0 : Int32))] (.int (0 : Int32)) := Arv.set Ar4 q4 S4 Nn4 Hh4 G4 rfl W5 1 rfl (Nat.le_of_ble_eq_true rfl)
  refine own_go (st5) ?_
  show own_R p e below _ T5 (mkF m 17 #[.val (.ref a), .val (.int (1 : Int32)), .val (.int y)] [])
  refine own_go (fun t k => XS.aloadN X5.here hx rfl (hb hby d6_17) rfl rfl  k) ?_
  show own_R p e below _ T5 (mkF m 18 #[.val (.ref a), .val (.int (1 : Int32)), .val (.int y)] [(.ref a)])
  refine own_go (fun t k => XS.dup X5.here hx rfl (hb hby d6_18) rfl rfl k) ?_
  show own_R p e below _ T5 (mkF m 19 #[.val (.ref a), .val (.int (1 : Int32)), .val (.int y)] [(.ref a), (.ref a)])
  obtain ⟨T6, X6, e6, st6⟩ := getF X5 hx hZ hown (host := "") (Or.inl (hw _ (List.mem_of_getElem? (i := 32) rfl))) Via.refl e5 F_localsVersion_a (g := (mkF m 19 #[.val (.ref a), .val (.int (1 : Int32)), .val (.int y)] [(.ref a), (.ref a)])) rfl rfl (hb hby d6_19)
  refine own_go (st6) ?_
  show own_R p e below _ T6 (mkF m 22 #[.val (.ref a), .val (.int (1 : Int32)), .val (.int y)] [(.int (2 : Int32)), (.ref a)])
  refine own_go (fun t k => XS.iconst X6.here hx rfl (hb hby d6_22) k) ?_
  show own_R p e below _ T6 (mkF m 23 #[.val (.ref a), .val (.int (1 : Int32)), .val (.int y)] [(.int (1 : Int32)), (.int (2 : Int32)), (.ref a)])
  refine own_go (fun t k => XS.iadd X6.here hx rfl (hb hby d6_23) rfl k) ?_
  show own_R p e below _ T6 (mkF m 24 #[.val (.ref a), .val (.int (1 : Int32)), .val (.int y)] [(.int (3 : Int32)), (.ref a)])
  obtain ⟨T7, h7, X7, e7, W7, st7⟩ := putF X6 hx hZ hown (host := "") (Or.inl (hw _ (List.mem_of_getElem? (i := 32) rfl))) Via.refl e6 F_localsVersion_a E_a (Or.inl (hw _ (List.mem_of_getElem? (i := 33) rfl))) (hw _ (List.mem_of_getElem? (i := 1) rfl)) (ty := .int) (by decide) rfl rfl (g := (mkF m 24 #[.val (.ref a), .val (.int (1 : Int32)), .val (.int y)] [(.int (3 : Int32)), (.ref a)])) rfl rfl (hb hby d6_24)
  have N7 := Fr.snoc X7 N5 g_a
  replace Kh := Kh.wr W7 (Or.inl (List.mem_of_getElem? (i := 0) rfl))
  replace F_words_a := Fld.other W7 F_words_a (Or.inr (slot_ne (Or.inl (hw _ (List.mem_of_getElem? (i := 11) rfl))) (Or.inl (hw _ (List.mem_of_getElem? (i := 33) rfl))) (by decide) (t := (.array .int)) (t' := .int) (by decide) (by decide)))
  replace F_localCount_a := Fld.other W7 F_localCount_a (Or.inr (slot_ne (Or.inl (hw _ (List.mem_of_getElem? (i := 25) rfl))) (Or.inl (hw _ (List.mem_of_getElem? (i := 33) rfl))) (by decide) (t := .int) (t' := .int) (by decide) (by decide)))
  replace F_maxStack_a := Fld.other W7 F_maxStack_a (Or.inr (slot_ne (Or.inl (hw _ (List.mem_of_getElem? (i := 27) rfl))) (Or.inl (hw _ (List.mem_of_getElem? (i := 33) rfl))) (by decide) (t := .int) (t' := .int) (by decide) (by decide)))
  replace F_top_a := Fld.other W7 F_top_a (Or.inr (slot_ne (Or.inl (hw _ (List.mem_of_getElem? (i := 29) rfl))) (Or.inl (hw _ (List.mem_of_getElem? (i := 33) rfl))) (by decide) (t := .int) (t' := .int) (by decide) (by decide)))
  replace F_thisUninitialized_a := Fld.other W7 F_thisUninitialized_a (Or.inr (slot_ne (Or.inl (hw _ (List.mem_of_getElem? (i := 31) rfl))) (Or.inl (hw _ (List.mem_of_getElem? (i := 33) rfl))) (by decide) (t := .boolean) (t' := .int) (by decide) (by decide)))
  replace F_localsVersion_a := Fld.same W7 F_localsVersion_a
  replace E_a := Exa.wr W7 E_a
  replace V_w_5 := Arv.other V_w_5 W7 (Ne.symm ne_a_w)
  refine own_go (st7) ?_
  show own_R p e below _ T7 (mkF m 27 #[.val (.ref a), .val (.int (1 : Int32)), .val (.int y)] [])
  refine own_retV X7 hx Bd.returns (BodyLoose.notSynchronized Bd) (hb hby d6_27) (by decide) (by decide) ?_
  rw [e7]
  exact ⟨rfl, N7, Kh, E_a, F_words_a, F_localCount_a, F_maxStack_a, F_top_a, F_thisUninitialized_a, F_localsVersion_a, V_w_5⟩
theorem d10_0 : decode prog_110_method_20_code 0 = .ok (.aload_n 0, 1) := by decide +kernel
theorem d10_1 : decode prog_110_method_20_code 1 = .ok (.getfield 28, 3) := by decide +kernel
theorem d10_4 : decode prog_110_method_20_code 4 = .ok (.iload_n 1, 1) := by decide +kernel
theorem d10_5 : decode prog_110_method_20_code 5 = .ok (.iadd, 1) := by decide +kernel
theorem d10_6 : decode prog_110_method_20_code 6 = .ok (.aload_n 0, 1) := by decide +kernel
theorem d10_7 : decode prog_110_method_20_code 7 = .ok (.getfield 21, 3) := by decide +kernel
theorem d10_10 : decode prog_110_method_20_code 10 = .ok (.aload_n 0, 1) := by decide +kernel
theorem d10_11 : decode prog_110_method_20_code 11 = .ok (.getfield 25, 3) := by decide +kernel
theorem d10_14 : decode prog_110_method_20_code 14 = .ok (.iadd, 1) := by decide +kernel
theorem d10_15 : decode prog_110_method_20_code 15 = .ok (.if_icmp .le 7, 3) := by decide +kernel
theorem d10_22 : decode prog_110_method_20_code 22 = .ok (.return_, 1) := by decide +kernel
theorem ef_rr_pu2 (m : MethodId) (x0 : Addr) : entryFrame m #[(.ref x0), (.int (1 : Int32))] 2 = mkF m 0 #[.val (.ref x0), .val (.int (1 : Int32))] [] := by first | (simp [entryFrame, mkF, argsToLocals, Value.category]; done) | rfl
def Qrr_pu2 (Z : State) (a : Addr) (w : Addr) (kw : ClassId) (x0 : Int32) (x1 : Int32) (h0 : Heap) (n0 : Nat) (v : Option Value) (h : Heap) (L : List Loc) : Prop := v = none ∧ Fr n0 L ∧ h = h0
set_option maxRecDepth 65536 in
set_option maxHeartbeats 40000000 in
theorem rmrr_pu2 (l : Launch) (Z : State) (a0 : Array Value) (hw : ∀ d ∈ tables_1, d.before a0 Z = true) (ws : List Jvm.Cond) (a : Addr) (w : Addr) (kw : ClassId) (x0 : Int32) (x1 : Int32) (h0 : Heap) (n0 : Nat) (Z0 : n0 ≤ h0.size) (F_words_a : Fld Z h0 a "com/example/signetry/signetry/card/WordFrame" "words" "[I" (.ref w)) (F_localCount_a : Fld Z h0 a "com/example/signetry/signetry/card/WordFrame" "localCount" "I" (.int (2 : Int32))) (F_maxStack_a : Fld Z h0 a "com/example/signetry/signetry/card/WordFrame" "maxStack" "I" (.int (1 : Int32))) (F_top_a : Fld Z h0 a "com/example/signetry/signetry/card/WordFrame" "top" "I" (.int (2 : Int32))) (F_thisUninitialized_a : Fld Z h0 a "com/example/signetry/signetry/card/WordFrame" "thisUninitialized" "Z" (.int (0 : Int32))) (F_localsVersion_a : Fld Z h0 a "com/example/signetry/signetry/card/WordFrame" "localsVersion" "I" (.int (3 : Int32))) (E_a : Exa Z h0 a "com/example/signetry/signetry/card/WordFrame") (V_w : Arv Z h0 w kw .int (3 : Int32) [(.int x0), (.int x1), (.int (0 : Int32))] (.int (0 : Int32))) :
    MetFree l (⟨"com/example/signetry/signetry/card/WordFrame", "requireRoom", "(I)V"⟩ : MethodName) (head1 (Jvm.Cond.code (⟨"com/example/signetry/signetry/card/WordFrame", "requireRoom", "(I)V"⟩ : MethodName) prog_110_method_20_code 2 none :: ws) ({ frames := 0, cells := 0, slots := 0, locals := 0 } : Room)) (fun aS U => aS = #[(.ref a), (.int (1 : Int32))] ∧ Z.Warmed39 U.vm ∧ U.heap = h0) (fun _ _ _ _ _ => True) (fun _ U o U' => ∃ v L, o = .returned v ∧ Qrr_pu2 Z a w kw x0 x1 h0 n0 v U'.heap L ∧ FrameEnd U o U' L ({ frames := 0, cells := 0, slots := 0, locals := 0 } : Room).cells ({ frames := 0, cells := 0, slots := 0, locals := 0 } : Room).slots) := by
  refine MetFree.of_bodySF (plainFor_of_name pn_0) hisR ?_
  intro p e s m args below meth c s₁ Bd hml0 hP hK
  obtain ⟨rfl, hZ, hh⟩ := hP
  have hx := Bd.exec
  have hby := Bd.bytes
  have hml : c.maxLocals = 2 := hml0
  have hown : s.vm.findClass "com/example/signetry/signetry/card/WordFrame" = some m.cls := findClass_of_methodNamed Bd.named
  have hnm := (name_of_methodNamed Bd.named Bd.method).1
  have X0 : Stand p l e ({ frames := 0, cells := 0, slots := 0, locals := 0 } : Room) s m #[(.ref a), (.int (1 : Int32))] below meth c s₁ [] 0 0 := Stand.of_body Bd
  have e0 : s₁.heap = h0 := by rw [← hh, Bd.state]; rfl
  have N0 := Fr.nil n0
  have Kh : Keep h0 h0 [] := Keep.refl _ _
  suffices H : own_R p e below (own_E s below (Qrr_pu2 Z a w kw x0 x1 h0 n0) ({ frames := 0, cells := 0, slots := 0, locals := 0 } : Room).cells ({ frames := 0, cells := 0, slots := 0, locals := 0 } : Room).slots) s₁ (mkF m 0 #[.val (.ref a), .val (.int (1 : Int32))] []) by
    obtain ⟨t, hst, hrun, v, L, hend, hQ, hF⟩ := H
    exact ⟨t, _, castTop (ef_rr_pu2 m a) hst, hrun, hend, v, L, rfl, hQ, hF⟩
  show own_R p e below _ s₁ (mkF m 0 #[.val (.ref a), .val (.int (1 : Int32))] [])
  refine own_go (fun t k => XS.aloadN X0.here hx rfl (hb hby d10_0) rfl rfl  k) ?_
  show own_R p e below _ s₁ (mkF m 1 #[.val (.ref a), .val (.int (1 : Int32))] [(.ref a)])
  obtain ⟨T1, X1, e1, st1⟩ := getF X0 hx hZ hown (host := "") (Or.inl (hw _ (List.mem_of_getElem? (i := 28) rfl))) Via.refl e0 F_top_a (g := (mkF m 1 #[.val (.ref a), .val (.int (1 : Int32))] [(.ref a)])) rfl rfl (hb hby d10_1)
  refine own_go (st1) ?_
  show own_R p e below _ T1 (mkF m 4 #[.val (.ref a), .val (.int (1 : Int32))] [(.int (2 : Int32))])
  refine own_go (fun t k => XS.iloadN X1.here hx rfl (hb hby d10_4) rfl  k) ?_
  show own_R p e below _ T1 (mkF m 5 #[.val (.ref a), .val (.int (1 : Int32))] [(.int (1 : Int32)), (.int (2 : Int32))])
  refine own_go (fun t k => XS.iadd X1.here hx rfl (hb hby d10_5) rfl k) ?_
  show own_R p e below _ T1 (mkF m 6 #[.val (.ref a), .val (.int (1 : Int32))] [(.int (3 : Int32))])
  refine own_go (fun t k => XS.aloadN X1.here hx rfl (hb hby d10_6) rfl rfl  k) ?_
  show own_R p e below _ T1 (mkF m 7 #[.val (.ref a), .val (.int (1 : Int32))] [(.ref a), (.int (3 : Int32))])
  obtain ⟨T2, X2, e2, st2⟩ := getF X1 hx hZ hown (host := "") (Or.inl (hw _ (List.mem_of_getElem? (i := 24) rfl))) Via.refl e1 F_localCount_a (g := (mkF m 7 #[.val (.ref a), .val (.int (1 : Int32))] [(.ref a), (.int (3 : Int32))])) rfl rfl (hb hby d10_7)
  refine own_go (st2) ?_
  show own_R p e below _ T2 (mkF m 10 #[.val (.ref a), .val (.int (1 : Int32))] [(.int (2 : Int32)), (.int (3 : Int32))])
  refine own_go (fun t k => XS.aloadN X2.here hx rfl (hb hby d10_10) rfl rfl  k) ?_
  show own_R p e below _ T2 (mkF m 11 #[.val (.ref a), .val (.int (1 : Int32))] [(.ref a), (.int (2 : Int32)), (.int (3 : Int32))])
  obtain ⟨T3, X3, e3, st3⟩ := getF X2 hx hZ hown (host := "") (Or.inl (hw _ (List.mem_of_getElem? (i := 26) rfl))) Via.refl e2 F_maxStack_a (g := (mkF m 11 #[.val (.ref a), .val (.int (1 : Int32))] [(.ref a), (.int (2 : Int32)), (.int (3 : Int32))])) rfl rfl (hb hby d10_11)
  refine own_go (st3) ?_
  show own_R p e below _ T3 (mkF m 14 #[.val (.ref a), .val (.int (1 : Int32))] [(.int (1 : Int32)), (.int (2 : Int32)), (.int (3 : Int32))])
  refine own_go (fun t k => XS.iadd X3.here hx rfl (hb hby d10_14) rfl k) ?_
  show own_R p e below _ T3 (mkF m 15 #[.val (.ref a), .val (.int (1 : Int32))] [(.int (3 : Int32)), (.int (3 : Int32))])
  refine own_go (fun t k => XS.icmpYes X3.here hx rfl (pc0 := 15) (pc' := 22) rfl (hb hby d10_15) rfl (flt (by decide : ¬ ((3 : Int32) < (3 : Int32)))).2.2.2 (by decide) (by decide) k) ?_
  show own_R p e below _ T3 (mkF m 22 #[.val (.ref a), .val (.int (1 : Int32))] [])
  refine own_retV X3 hx Bd.returns (BodyLoose.notSynchronized Bd) (hb hby d10_22) (by decide) (by decide) ?_
  exact ⟨rfl, N0, e3⟩
theorem d9_0 : decode prog_110_method_14_code 0 = .ok (.aload_n 0, 1) := by decide +kernel
theorem d9_1 : decode prog_110_method_14_code 1 = .ok (.iconst 1, 1) := by decide +kernel
theorem d9_2 : decode prog_110_method_14_code 2 = .ok (.invokevirtual 51, 3) := by decide +kernel
theorem d9_5 : decode prog_110_method_14_code 5 = .ok (.aload_n 0, 1) := by decide +kernel
theorem d9_6 : decode prog_110_method_14_code 6 = .ok (.getfield 7, 3) := by decide +kernel
theorem d9_9 : decode prog_110_method_14_code 9 = .ok (.aload_n 0, 1) := by decide +kernel
theorem d9_10 : decode prog_110_method_14_code 10 = .ok (.getfield 28, 3) := by decide +kernel
theorem d9_13 : decode prog_110_method_14_code 13 = .ok (.iload_n 1, 1) := by decide +kernel
theorem d9_14 : decode prog_110_method_14_code 14 = .ok (.iastore, 1) := by decide +kernel
theorem d9_15 : decode prog_110_method_14_code 15 = .ok (.aload_n 0, 1) := by decide +kernel
theorem d9_16 : decode prog_110_method_14_code 16 = .ok (.dup, 1) := by decide +kernel
theorem d9_17 : decode prog_110_method_14_code 17 = .ok (.getfield 28, 3) := by decide +kernel
theorem d9_20 : decode prog_110_method_14_code 20 = .ok (.iconst 1, 1) := by decide +kernel
theorem d9_21 : decode prog_110_method_14_code 21 = .ok (.iadd, 1) := by decide +kernel
theorem d9_22 : decode prog_110_method_14_code 22 = .ok (.putfield 28, 3) := by decide +kernel
theorem d9_25 : decode prog_110_method_14_code 25 = .ok (.return_, 1) := by decide +kernel
theorem ef_push_pu2 (m : MethodId) (x0 : Addr) (x1 : Int32) : entryFrame m #[(.ref x0), (.int x1)] 2 = mkF m 0 #[.val (.ref x0), .val (.int x1)] [] := by first | (simp [entryFrame, mkF, argsToLocals, Value.category]; done) | rfl
def Qpush_pu2 (Z : State) (a : Addr) (y : Int32) (w : Addr) (kw : ClassId) (x0 : Int32) (x1 : Int32) (h0 : Heap) (n0 : Nat) (v : Option Value) (h : Heap) (L : List Loc) : Prop := v = none ∧ Fr n0 L ∧ Keep h0 h [a, w] ∧ Exa Z h a "com/example/signetry/signetry/card/WordFrame" ∧ Fld Z h a "com/example/signetry/signetry/card/WordFrame" "words" "[I" (.ref w) ∧ Fld Z h a "com/example/signetry/signetry/card/WordFrame" "localCount" "I" (.int (2 : Int32)) ∧ Fld Z h a "com/example/signetry/signetry/card/WordFrame" "maxStack" "I" (.int (1 : Int32)) ∧ Fld Z h a "com/example/signetry/signetry/card/WordFrame" "top" "I" (.int (3 : Int32)) ∧ Fld Z h a "com/example/signetry/signetry/card/WordFrame" "thisUninitialized" "Z" (.int (0 : Int32)) ∧ Fld Z h a "com/example/signetry/signetry/card/WordFrame" "localsVersion" "I" (.int (3 : Int32)) ∧ Arv Z h w kw .int (3 : Int32) [(.int x0), (.int x1), (.int y)] (.int (0 : Int32))
set_option maxRecDepth 65536 in
set_option maxHeartbeats 40000000 in
theorem rmpush_pu2 (l : Launch) (Z : State) (a0 : Array Value) (hw : ∀ d ∈ tables_1, d.before a0 Z = true) (ws : List Jvm.Cond) (a : Addr) (y : Int32) (w : Addr) (kw : ClassId) (x0 : Int32) (x1 : Int32) (h0 : Heap) (n0 : Nat) (Z0 : n0 ≤ h0.size) (F_words_a : Fld Z h0 a "com/example/signetry/signetry/card/WordFrame" "words" "[I" (.ref w)) (F_localCount_a : Fld Z h0 a "com/example/signetry/signetry/card/WordFrame" "localCount" "I" (.int (2 : Int32))) (F_maxStack_a : Fld Z h0 a "com/example/signetry/signetry/card/WordFrame" "maxStack" "I" (.int (1 : Int32))) (F_top_a : Fld Z h0 a "com/example/signetry/signetry/card/WordFrame" "top" "I" (.int (2 : Int32))) (F_thisUninitialized_a : Fld Z h0 a "com/example/signetry/signetry/card/WordFrame" "thisUninitialized" "Z" (.int (0 : Int32))) (F_localsVersion_a : Fld Z h0 a "com/example/signetry/signetry/card/WordFrame" "localsVersion" "I" (.int (3 : Int32))) (E_a : Exa Z h0 a "com/example/signetry/signetry/card/WordFrame") (V_w : Arv Z h0 w kw .int (3 : Int32) [(.int x0), (.int x1), (.int (0 : Int32))] (.int (0 : Int32))) (g_a : n0 ≤ a) (g_w : n0 ≤ w) (ne_a_w : a ≠ w) :
    MetFree l (⟨"com/example/signetry/signetry/card/WordFrame", "push", "(I)V"⟩ : MethodName) (head1 (Jvm.Cond.code (⟨"com/example/signetry/signetry/card/WordFrame", "push", "(I)V"⟩ : MethodName) prog_110_method_14_code 2 none :: ws) ({ frames := 1, cells := 0, slots := 0, locals := 13 } : Room)) (fun aS U => aS = #[(.ref a), (.int y)] ∧ Z.Warmed39 U.vm ∧ U.heap = h0) (fun _ _ _ _ _ => True) (fun _ U o U' => ∃ v L, o = .returned v ∧ Qpush_pu2 Z a y w kw x0 x1 h0 n0 v U'.heap L ∧ FrameEnd U o U' L ({ frames := 1, cells := 0, slots := 0, locals := 13 } : Room).cells ({ frames := 1, cells := 0, slots := 0, locals := 13 } : Room).slots) := by
  refine MetFree.of_bodySF (plainFor_of_name pn_0) hisR ?_
  intro p e s m args below meth c s₁ Bd hml0 hP hK
  obtain ⟨rfl, hZ, hh⟩ := hP
  have hx := Bd.exec
  have hby := Bd.bytes
  have hml : c.maxLocals = 2 := hml0
  have hown : s.vm.findClass "com/example/signetry/signetry/card/WordFrame" = some m.cls := findClass_of_methodNamed Bd.named
  have hnm := (name_of_methodNamed Bd.named Bd.method).1
  have X0 : Stand p l e ({ frames := 1, cells := 0, slots := 0, locals := 13 } : Room) s m #[(.ref a), (.int y)] below meth c s₁ [] 0 0 := Stand.of_body Bd
  have e0 : s₁.heap = h0 := by rw [← hh, Bd.state]; rfl
  have N0 := Fr.nil n0
  have Kh : Keep h0 h0 [a, w] := Keep.refl _ _
  suffices H : own_R p e below (own_E s below (Qpush_pu2 Z a y w kw x0 x1 h0 n0) ({ frames := 1, cells := 0, slots := 0, locals := 13 } : Room).cells ({ frames := 1, cells := 0, slots := 0, locals := 13 } : Room).slots) s₁ (mkF m 0 #[.val (.ref a), .val (.int y)] []) by
    obtain ⟨t, hst, hrun, v, L, hend, hQ, hF⟩ := H
    exact ⟨t, _, castTop (ef_push_pu2 m a y) hst, hrun, hend, v, L, rfl, hQ, hF⟩
  show own_R p e below _ s₁ (mkF m 0 #[.val (.ref a), .val (.int y)] [])
  refine own_go (fun t k => XS.aloadN X0.here hx rfl (hb hby d9_0) rfl rfl  k) ?_
  show own_R p e below _ s₁ (mkF m 1 #[.val (.ref a), .val (.int y)] [(.ref a)])
  refine own_go (fun t k => XS.iconst X0.here hx rfl (hb hby d9_1) k) ?_
  show own_R p e below _ s₁ (mkF m 2 #[.val (.ref a), .val (.int y)] [(.int (1 : Int32)), (.ref a)])
  obtain ⟨cq1, q1, q1'⟩ := E_a.cell
  obtain ⟨_, _, ⟨T1, L1, k1, n1⟩, -, X1, ⟨Lc1, hQ1, l1, y1, z1⟩, st1⟩ := X0.privateBack hx (y := (⟨"com/example/signetry/signetry/card/WordFrame", "requireRoom", "(I)V"⟩ : MethodName)) hown (mvT hZ (hw _ (List.mem_of_getElem? (i := 52) rfl))) (mvT hZ (hw _ (List.mem_of_getElem? (i := 53) rfl))) (Jvm.Kit.selects_private (by decide) (mvT hZ (hw _ (List.mem_of_getElem? (i := 1) rfl))) (mvP hZ (hw _ (List.mem_of_getElem? (i := 54) rfl))) (mvT hZ (hw _ (List.mem_of_getElem? (i := 53) rfl)))) (Cond.privateMethod_at (mvP hZ (hw _ (List.mem_of_getElem? (i := 54) rfl)) (args := #[]))) (mvT hZ (hw _ (List.mem_of_getElem? (i := 55) rfl))) (by decide) (backOf (W := 0) (rmrr_pu2 l Z a0 hw [] a w kw x0 x1 h0 n0 (Nat.le_trans Z0 Kh.1) F_words_a F_localCount_a F_maxStack_a F_top_a F_thisUninitialized_a F_localsVersion_a E_a V_w) hZ (hw _ (List.mem_of_getElem? (i := 55) rfl)) (hw _ (List.mem_of_getElem? (i := 2) rfl)) (by decide) (by decide)) (g := (mkF m 2 #[.val (.ref a), .val (.int y)] [(.int (1 : Int32)), (.ref a)])) rfl (by rw [hml]; rfl) (Steps.refl _) (a := a) (by rw [e0]; exact q1) q1' (argsL := [(.int (1 : Int32))]) (rest := []) (lenOf pd_4 rfl) rfl (by show 2 * 0 + _ ≤ _; exact Nat.le_of_eq rfl) (hb hby d9_2) (fun _ _ => ⟨rfl, e0, (by decide : 0 + 0 ≤ _), (by decide : 0 + 0 ≤ _)⟩)
  dsimp only [Pt.U, Pt.locs, Pt.cells, Pt.slots] at X1 l1 y1 z1 st1 hQ1
  subst l1 y1 z1
  obtain ⟨rfl, Nq1, e1⟩ := hQ1
  have N1 := Fr.app N0 Nq1
  refine own_go (fun t k => st1.trans k) ?_
  show own_R p e below _ T1 (mkF m 5 #[.val (.ref a), .val (.int y)] [])
  refine own_go (fun t k => XS.aloadN X1.here hx rfl (hb hby d9_5) rfl rfl  k) ?_
  show own_R p e below _ T1 (mkF m 6 #[.val (.ref a), .val (.int y)] [(.ref a)])
  obtain ⟨T2, X2, e2, st2⟩ := getF X1 hx hZ hown (host := "") (Or.inl (hw _ (List.mem_of_getElem? (i := 10) rfl))) Via.refl e1 F_words_a (g := (mkF m 6 #[.val (.ref a), .val (.int y)] [(.ref a)])) rfl rfl (hb hby d9_6)
  refine own_go (st2) ?_
  show own_R p e below _ T2 (mkF m 9 #[.val (.ref a), .val (.int y)] [(.ref w)])
  refine own_go (fun t k => XS.aloadN X2.here hx rfl (hb hby d9_9) rfl rfl  k) ?_
  show own_R p e below _ T2 (mkF m 10 #[.val (.ref a), .val (.int y)] [(.ref a), (.ref w)])
  obtain ⟨T3, X3, e3, st3⟩ := getF X2 hx hZ hown (host := "") (Or.inl (hw _ (List.mem_of_getElem? (i := 28) rfl))) Via.refl e2 F_top_a (g := (mkF m 10 #[.val (.ref a), .val (.int y)] [(.ref a), (.ref w)])) rfl rfl (hb hby d9_10)
  refine own_go (st3) ?_
  show own_R p e below _ T3 (mkF m 13 #[.val (.ref a), .val (.int y)] [(.int (2 : Int32)), (.ref w)])
  refine own_go (fun t k => XS.iloadN X3.here hx rfl (hb hby d9_13) rfl  k) ?_
  show own_R p e below _ T3 (mkF m 14 #[.val (.ref a), .val (.int y)] [(.int y), (.int (2 : Int32)), (.ref w)])
  obtain ⟨cl4, Ar4, q4, S4, Nn4, Hh4, G4⟩ := id V_w
  have hin4 : ¬ ((2 : Int32) < 0 ∨ cl4.slots.size ≤ ((2 : Int32)).toNatClampNeg) := inb_of S4 ⟨by decide, by decide⟩
  obtain ⟨T5, h5, X5, e5, W5, st5⟩ := stI X3 hx hZ e3 Ar4 (j := (2 : Int32)) hin4 (g := (mkF m 14 #[.val (.ref a), .val (.int y)] [(.int y), (.int (2 : Int32)), (.ref w)])) rfl rfl (hb hby d9_14)
  have N5 := Fr.snoc X5 N1 g_w
  replace Kh := Kh.wr W5 (Or.inl (List.mem_of_getElem? (i := 1) rfl))
  replace F_words_a := Fld.other W5 F_words_a (Or.inl ne_a_w)
  replace F_localCount_a := Fld.other W5 F_localCount_a (Or.inl ne_a_w)
  replace F_maxStack_a := Fld.other W5 F_maxStack_a (Or.inl ne_a_w)
  replace F_top_a := Fld.other W5 F_top_a (Or.inl ne_a_w)
  replace F_thisUninitialized_a := Fld.other W5 F_thisUninitialized_a (Or.inl ne_a_w)
  replace F_localsVersion_a := Fld.other W5 F_localsVersion_a (Or.inl ne_a_w)
  replace E_a := Exa.wr W5 E_a
  have V_w_5 : Arv Z h5 w kw .int (3 : Int32) [(.int x0), (.int x1), (.int y)] (.int (0 : Int32)) := Arv.set Ar4 q4 S4 Nn4 Hh4 G4 rfl W5 2 rfl (Nat.le_of_ble_eq_true rfl)
  refine own_go (st5) ?_
  show own_R p e below _ T5 (mkF m 15 #[.val (.ref a), .val (.int y)] [])
  refine own_go (fun t k => XS.aloadN X5.here hx rfl (hb hby d9_15) rfl rfl  k) ?_
  show own_R p e below _ T5 (mkF m 16 #[.val (.ref a), .val (.int y)] [(.ref a)])
  refine own_go (fun t k => XS.dup X5.here hx rfl (hb hby d9_16) rfl rfl k) ?_
  show own_R p e below _ T5 (mkF m 17 #[.val (.ref a), .val (.int y)] [(.ref a), (.ref a)])
  obtain ⟨T6, X6, e6, st6⟩ := getF X5 hx hZ hown (host := "") (Or.inl (hw _ (List.mem_of_getElem? (i := 28) rfl))) Via.refl e5 F_top_a (g := (mkF m 17 #[.val (.ref a), .val (.int y)] [(.ref a), (.ref a)])) rfl rfl (hb hby d9_17)
  refine own_go (st6) ?_
  show own_R p e below _ T6 (mkF m 20 #[.val (.ref a), .val (.int y)] [(.int (2 : Int32)), (.ref a)])
  refine own_go (fun t k => XS.iconst X6.here hx rfl (hb hby d9_20) k) ?_
  show own_R p e below _ T6 (mkF m 21 #[.val (.ref a), .val (.int y)] [(.int (1 : Int32)), (.int (2 : Int32)), (.ref a)])
  refine own_go (fun t k => XS.iadd X6.here hx rfl (hb hby d9_21) rfl k) ?_
  show own_R p e below _ T6 (mkF m 22 #[.val (.ref a), .val (.int y)] [(.int (3 : Int32)), (.ref a)])
  obtain ⟨T7, h7, X7, e7, W7, st7⟩ := putF X6 hx hZ hown (host := "") (Or.inl (hw _ (List.mem_of_getElem? (i := 28) rfl))) Via.refl e6 F_top_a E_a (Or.inl (hw _ (List.mem_of_getElem? (i := 29) rfl))) (hw _ (List.mem_of_getElem? (i := 1) rfl)) (ty := .int) (by decide) rfl rfl (g := (mkF m 22 #[.val (.ref a), .val (.int y)] [(.int (3 : Int32)), (.ref a)])) rfl rfl (hb hby d9_22)
  have N7 := Fr.snoc X7 N5 g_a
  replace Kh := Kh.wr W7 (Or.inl (List.mem_of_getElem? (i := 0) rfl))
  replace F_words_a := Fld.other W7 F_words_a (Or.inr (slot_ne (Or.inl (hw _ (List.mem_of_getElem? (i := 11) rfl))) (Or.inl (hw _ (List.mem_of_getElem? (i := 29) rfl))) (by decide) (t := (.array .int)) (t' := .int) (by decide) (by decide)))
  replace F_localCount_a := Fld.other W7 F_localCount_a (Or.inr (slot_ne (Or.inl (hw _ (List.mem_of_getElem? (i := 25) rfl))) (Or.inl (hw _ (List.mem_of_getElem? (i := 29) rfl))) (by decide) (t := .int) (t' := .int) (by decide) (by decide)))
  replace F_maxStack_a := Fld.other W7 F_maxStack_a (Or.inr (slot_ne (Or.inl (hw _ (List.mem_of_getElem? (i := 27) rfl))) (Or.inl (hw _ (List.mem_of_getElem? (i := 29) rfl))) (by decide) (t := .int) (t' := .int) (by decide) (by decide)))
  replace F_top_a := Fld.same W7 F_top_a
  replace F_thisUninitialized_a := Fld.other W7 F_thisUninitialized_a (Or.inr (slot_ne (Or.inl (hw _ (List.mem_of_getElem? (i := 31) rfl))) (Or.inl (hw _ (List.mem_of_getElem? (i := 29) rfl))) (by decide) (t := .boolean) (t' := .int) (by decide) (by decide)))
  replace F_localsVersion_a := Fld.other W7 F_localsVersion_a (Or.inr (slot_ne (Or.inl (hw _ (List.mem_of_getElem? (i := 33) rfl))) (Or.inl (hw _ (List.mem_of_getElem? (i := 29) rfl))) (by decide) (t := .int) (t' := .int) (by decide) (by decide)))
  replace E_a := Exa.wr W7 E_a
  replace V_w_5 := Arv.other V_w_5 W7 (Ne.symm ne_a_w)
  refine own_go (st7) ?_
  show own_R p e below _ T7 (mkF m 25 #[.val (.ref a), .val (.int y)] [])
  refine own_retV X7 hx Bd.returns (BodyLoose.notSynchronized Bd) (hb hby d9_25) (by decide) (by decide) ?_
  rw [e7]
  exact ⟨rfl, N7, Kh, E_a, F_words_a, F_localCount_a, F_maxStack_a, F_top_a, F_thisUninitialized_a, F_localsVersion_a, V_w_5⟩
theorem d11_0 : decode prog_110_method_6_code 0 = .ok (.aload_n 0, 1) := by decide +kernel
theorem d11_1 : decode prog_110_method_6_code 1 = .ok (.getfield 35, 3) := by decide +kernel
theorem d11_4 : decode prog_110_method_6_code 4 = .ok (.ireturn, 1) := by decide +kernel
theorem ef_ver_1 (m : MethodId) (x0 : Addr) : entryFrame m #[(.ref x0)] 1 = mkF m 0 #[.val (.ref x0)] [] := by first | (simp [entryFrame, mkF, argsToLocals, Value.category]; done) | rfl
def Qver_1 (Z : State) (a : Addr) (w : Addr) (kw : ClassId) (x0 : Int32) (x1 : Int32) (x2 : Int32) (h0 : Heap) (n0 : Nat) (v : Option Value) (h : Heap) (L : List Loc) : Prop := v = some (.int (3 : Int32)) ∧ Fr n0 L ∧ h = h0
set_option maxRecDepth 65536 in
set_option maxHeartbeats 40000000 in
theorem rmver_1 (l : Launch) (Z : State) (a0 : Array Value) (hw : ∀ d ∈ tables_1, d.before a0 Z = true) (ws : List Jvm.Cond) (a : Addr) (w : Addr) (kw : ClassId) (x0 : Int32) (x1 : Int32) (x2 : Int32) (h0 : Heap) (n0 : Nat) (Z0 : n0 ≤ h0.size) (F_words_a : Fld Z h0 a "com/example/signetry/signetry/card/WordFrame" "words" "[I" (.ref w)) (F_localCount_a : Fld Z h0 a "com/example/signetry/signetry/card/WordFrame" "localCount" "I" (.int (2 : Int32))) (F_maxStack_a : Fld Z h0 a "com/example/signetry/signetry/card/WordFrame" "maxStack" "I" (.int (1 : Int32))) (F_top_a : Fld Z h0 a "com/example/signetry/signetry/card/WordFrame" "top" "I" (.int (3 : Int32))) (F_thisUninitialized_a : Fld Z h0 a "com/example/signetry/signetry/card/WordFrame" "thisUninitialized" "Z" (.int (0 : Int32))) (F_localsVersion_a : Fld Z h0 a "com/example/signetry/signetry/card/WordFrame" "localsVersion" "I" (.int (3 : Int32))) (E_a : Exa Z h0 a "com/example/signetry/signetry/card/WordFrame") (V_w : Arv Z h0 w kw .int (3 : Int32) [(.int x0), (.int x1), (.int x2)] (.int (0 : Int32))) :
    MetFree l (⟨"com/example/signetry/signetry/card/WordFrame", "localsVersion", "()I"⟩ : MethodName) (head1 (Jvm.Cond.code (⟨"com/example/signetry/signetry/card/WordFrame", "localsVersion", "()I"⟩ : MethodName) prog_110_method_6_code 1 (some .int) :: ws) ({ frames := 0, cells := 0, slots := 0, locals := 0 } : Room)) (fun aS U => aS = #[(.ref a)] ∧ Z.Warmed39 U.vm ∧ U.heap = h0) (fun _ _ _ _ _ => True) (fun _ U o U' => ∃ v L, o = .returned v ∧ Qver_1 Z a w kw x0 x1 x2 h0 n0 v U'.heap L ∧ FrameEnd U o U' L ({ frames := 0, cells := 0, slots := 0, locals := 0 } : Room).cells ({ frames := 0, cells := 0, slots := 0, locals := 0 } : Room).slots) := by
  refine MetFree.of_bodySF (plainFor_of_name pn_0) hisR ?_
  intro p e s m args below meth c s₁ Bd hml0 hP hK
  obtain ⟨rfl, hZ, hh⟩ := hP
  have hx := Bd.exec
  have hby := Bd.bytes
  have hml : c.maxLocals = 1 := hml0
  have hown : s.vm.findClass "com/example/signetry/signetry/card/WordFrame" = some m.cls := findClass_of_methodNamed Bd.named
  have hnm := (name_of_methodNamed Bd.named Bd.method).1
  have X0 : Stand p l e ({ frames := 0, cells := 0, slots := 0, locals := 0 } : Room) s m #[(.ref a)] below meth c s₁ [] 0 0 := Stand.of_body Bd
  have e0 : s₁.heap = h0 := by rw [← hh, Bd.state]; rfl
  have N0 := Fr.nil n0
  have Kh : Keep h0 h0 [] := Keep.refl _ _
  suffices H : own_R p e below (own_E s below (Qver_1 Z a w kw x0 x1 x2 h0 n0) ({ frames := 0, cells := 0, slots := 0, locals := 0 } : Room).cells ({ frames := 0, cells := 0, slots := 0, locals := 0 } : Room).slots) s₁ (mkF m 0 #[.val (.ref a)] []) by
    obtain ⟨t, hst, hrun, v, L, hend, hQ, hF⟩ := H
    exact ⟨t, _, castTop (ef_ver_1 m a) hst, hrun, hend, v, L, rfl, hQ, hF⟩
  show own_R p e below _ s₁ (mkF m 0 #[.val (.ref a)] [])
  refine own_go (fun t k => XS.aloadN X0.here hx rfl (hb hby d11_0) rfl rfl  k) ?_
  show own_R p e below _ s₁ (mkF m 1 #[.val (.ref a)] [(.ref a)])
  obtain ⟨T1, X1, e1, st1⟩ := getF X0 hx hZ hown (host := "") (Or.inl (hw _ (List.mem_of_getElem? (i := 32) rfl))) Via.refl e0 F_localsVersion_a (g := (mkF m 1 #[.val (.ref a)] [(.ref a)])) rfl rfl (hb hby d11_1)
  refine own_go (st1) ?_
  show own_R p e below _ T1 (mkF m 4 #[.val (.ref a)] [(.int (3 : Int32))])
  refine own_retW X1 hx Bd.returns rfl (Or.inl ⟨rfl, Or.inl rfl, _, rfl⟩) (BodyLoose.notSynchronized Bd) (hb hby d11_4) (by decide) (by decide) ?_
  exact ⟨rfl, N0, e1⟩
theorem d12_0 : decode prog_110_method_23_code 0 = .ok (.iconst 0, 1) := by decide +kernel
theorem d12_1 : decode prog_110_method_23_code 1 = .ok (.istore_n 3, 1) := by decide +kernel
theorem d12_2 : decode prog_110_method_23_code 2 = .ok (.iload_n 3, 1) := by decide +kernel
theorem d12_3 : decode prog_110_method_23_code 3 = .ok (.aload_n 0, 1) := by decide +kernel
theorem d12_4 : decode prog_110_method_23_code 4 = .ok (.getfield 28, 3) := by decide +kernel
theorem d12_7 : decode prog_110_method_23_code 7 = .ok (.if_icmp .ge 36, 3) := by decide +kernel
theorem d12_10 : decode prog_110_method_23_code 10 = .ok (.aload_n 0, 1) := by decide +kernel
theorem d12_11 : decode prog_110_method_23_code 11 = .ok (.getfield 7, 3) := by decide +kernel
theorem d12_14 : decode prog_110_method_23_code 14 = .ok (.iload_n 3, 1) := by decide +kernel
theorem d12_15 : decode prog_110_method_23_code 15 = .ok (.iaload, 1) := by decide +kernel
theorem d12_16 : decode prog_110_method_23_code 16 = .ok (.iload_n 1, 1) := by decide +kernel
theorem d12_17 : decode prog_110_method_23_code 17 = .ok (.if_icmp .ne 20, 3) := by decide +kernel
theorem d12_20 : decode prog_110_method_23_code 20 = .ok (.aload_n 0, 1) := by decide +kernel
theorem d12_21 : decode prog_110_method_23_code 21 = .ok (.getfield 7, 3) := by decide +kernel
theorem d12_24 : decode prog_110_method_23_code 24 = .ok (.iload_n 3, 1) := by decide +kernel
theorem d12_25 : decode prog_110_method_23_code 25 = .ok (.iload_n 2, 1) := by decide +kernel
theorem d12_26 : decode prog_110_method_23_code 26 = .ok (.iastore, 1) := by decide +kernel
theorem d12_27 : decode prog_110_method_23_code 27 = .ok (.aload_n 0, 1) := by decide +kernel
theorem d12_28 : decode prog_110_method_23_code 28 = .ok (.dup, 1) := by decide +kernel
theorem d12_29 : decode prog_110_method_23_code 29 = .ok (.getfield 35, 3) := by decide +kernel
theorem d12_32 : decode prog_110_method_23_code 32 = .ok (.iconst 1, 1) := by decide +kernel
theorem d12_33 : decode prog_110_method_23_code 33 = .ok (.iadd, 1) := by decide +kernel
theorem d12_34 : decode prog_110_method_23_code 34 = .ok (.putfield 35, 3) := by decide +kernel
theorem d12_37 : decode prog_110_method_23_code 37 = .ok (.iinc 3 1, 3) := by decide +kernel
theorem d12_40 : decode prog_110_method_23_code 40 = .ok (.goto (-38), 3) := by decide +kernel
theorem d12_43 : decode prog_110_method_23_code 43 = .ok (.return_, 1) := by decide +kernel
theorem ef_repl (m : MethodId) (x0 : Addr) (x1 : Int32) (x2 : Int32) : entryFrame m #[(.ref x0), (.int x1), (.int x2)] 4 = mkF m 0 #[.val (.ref x0), .val (.int x1), .val (.int x2), .unset] [] := by first | (simp [entryFrame, mkF, argsToLocals, Value.category]; done) | rfl
def Qrepl (Z : State) (a : Addr) (f : Int32) (y : Int32) (w : Addr) (kw : ClassId) (x0 : Int32) (x1 : Int32) (x2 : Int32) (h0 : Heap) (n0 : Nat) (v : Option Value) (h : Heap) (L : List Loc) : Prop := v = none ∧ Fr n0 L ∧ Keep h0 h [a, w] ∧ Exa Z h a "com/example/signetry/signetry/card/WordFrame" ∧ Fld Z h a "com/example/signetry/signetry/card/WordFrame" "words" "[I" (.ref w) ∧ Fld Z h a "com/example/signetry/signetry/card/WordFrame" "localCount" "I" (.int (2 : Int32)) ∧ Fld Z h a "com/example/signetry/signetry/card/WordFrame" "maxStack" "I" (.int (1 : Int32)) ∧ Fld Z h a "com/example/signetry/signetry/card/WordFrame" "top" "I" (.int (3 : Int32)) ∧ Fld Z h a "com/example/signetry/signetry/card/WordFrame" "thisUninitialized" "Z" (.int (0 : Int32)) ∧ Fld Z h a "com/example/signetry/signetry/card/WordFrame" "localsVersion" "I" (.int ((((3 : Int32) + (if x0 = f then (1 : Int32) else (0 : Int32))) + (if x1 = f then (1 : Int32) else (0 : Int32))) + (if x2 = f then (1 : Int32) else (0 : Int32)))) ∧ Arv Z h w kw .int (3 : Int32) [(.int (if x0 = f then y else x0)), (.int (if x1 = f then y else x1)), (.int (if x2 = f then y else x2))] (.int (0 : Int32))
set_option maxRecDepth 65536 in
set_option maxHeartbeats 40000000 in
theorem rmrepl (l : Launch) (Z : State) (a0 : Array Value) (hw : ∀ d ∈ tables_1, d.before a0 Z = true) (ws : List Jvm.Cond) (a : Addr) (f : Int32) (y : Int32) (w : Addr) (kw : ClassId) (x0 : Int32) (x1 : Int32) (x2 : Int32) (h0 : Heap) (n0 : Nat) (Z0 : n0 ≤ h0.size) (F_words_a : Fld Z h0 a "com/example/signetry/signetry/card/WordFrame" "words" "[I" (.ref w)) (F_localCount_a : Fld Z h0 a "com/example/signetry/signetry/card/WordFrame" "localCount" "I" (.int (2 : Int32))) (F_maxStack_a : Fld Z h0 a "com/example/signetry/signetry/card/WordFrame" "maxStack" "I" (.int (1 : Int32))) (F_top_a : Fld Z h0 a "com/example/signetry/signetry/card/WordFrame" "top" "I" (.int (3 : Int32))) (F_thisUninitialized_a : Fld Z h0 a "com/example/signetry/signetry/card/WordFrame" "thisUninitialized" "Z" (.int (0 : Int32))) (F_localsVersion_a : Fld Z h0 a "com/example/signetry/signetry/card/WordFrame" "localsVersion" "I" (.int (3 : Int32))) (E_a : Exa Z h0 a "com/example/signetry/signetry/card/WordFrame") (V_w : Arv Z h0 w kw .int (3 : Int32) [(.int x0), (.int x1), (.int x2)] (.int (0 : Int32))) (g_a : n0 ≤ a) (g_w : n0 ≤ w) (ne_a_w : a ≠ w) :
    MetFree l (⟨"com/example/signetry/signetry/card/WordFrame", "replaceAll", "(II)V"⟩ : MethodName) (head1 (Jvm.Cond.code (⟨"com/example/signetry/signetry/card/WordFrame", "replaceAll", "(II)V"⟩ : MethodName) prog_110_method_23_code 4 none :: ws) ({ frames := 0, cells := 0, slots := 0, locals := 0 } : Room)) (fun aS U => aS = #[(.ref a), (.int f), (.int y)] ∧ Z.Warmed39 U.vm ∧ U.heap = h0) (fun _ _ _ _ _ => True) (fun _ U o U' => ∃ v L, o = .returned v ∧ Qrepl Z a f y w kw x0 x1 x2 h0 n0 v U'.heap L ∧ FrameEnd U o U' L ({ frames := 0, cells := 0, slots := 0, locals := 0 } : Room).cells ({ frames := 0, cells := 0, slots := 0, locals := 0 } : Room).slots) := by
  refine MetFree.of_bodySF (plainFor_of_name pn_0) hisR ?_
  intro p e s m args below meth c s₁ Bd hml0 hP hK
  obtain ⟨rfl, hZ, hh⟩ := hP
  have hx := Bd.exec
  have hby := Bd.bytes
  have hml : c.maxLocals = 4 := hml0
  have hown : s.vm.findClass "com/example/signetry/signetry/card/WordFrame" = some m.cls := findClass_of_methodNamed Bd.named
  have hnm := (name_of_methodNamed Bd.named Bd.method).1
  have X0 : Stand p l e ({ frames := 0, cells := 0, slots := 0, locals := 0 } : Room) s m #[(.ref a), (.int f), (.int y)] below meth c s₁ [] 0 0 := Stand.of_body Bd
  have e0 : s₁.heap = h0 := by rw [← hh, Bd.state]; rfl
  have N0 := Fr.nil n0
  have Kh : Keep h0 h0 [a, w] := Keep.refl _ _
  suffices H : own_R p e below (own_E s below (Qrepl Z a f y w kw x0 x1 x2 h0 n0) ({ frames := 0, cells := 0, slots := 0, locals := 0 } : Room).cells ({ frames := 0, cells := 0, slots := 0, locals := 0 } : Room).slots) s₁ (mkF m 0 #[.val (.ref a), .val (.int f), .val (.int y), .unset] []) by
    obtain ⟨t, hst, hrun, v, L, hend, hQ, hF⟩ := H
    exact ⟨t, _, castTop (ef_repl m a f y) hst, hrun, hend, v, L, rfl, hQ, hF⟩
  show own_R p e below _ s₁ (mkF m 0 #[.val (.ref a), .val (.int f), .val (.int y), .unset] [])
  refine own_go (fun t k => XS.iconst X0.here hx rfl (hb hby d12_0) k) ?_
  show own_R p e below _ s₁ (mkF m 1 #[.val (.ref a), .val (.int f), .val (.int y), .unset] [(.int (0 : Int32))])
  refine own_go (fun t k => XS.istoreN X0.here hx rfl (hb hby d12_1) rfl (l' := #[.val (.ref a), .val (.int f), .val (.int y), .val (.int (0 : Int32))]) rfl k) ?_
  show own_R p e below _ s₁ (mkF m 2 #[.val (.ref a), .val (.int f), .val (.int y), .val (.int (0 : Int32))] [])
  refine own_go (fun t k => XS.iloadN X0.here hx rfl (hb hby d12_2) rfl  k) ?_
  show own_R p e below _ s₁ (mkF m 3 #[.val (.ref a), .val (.int f), .val (.int y), .val (.int (0 : Int32))] [(.int (0 : Int32))])
  refine own_go (fun t k => XS.aloadN X0.here hx rfl (hb hby d12_3) rfl rfl  k) ?_
  show own_R p e below _ s₁ (mkF m 4 #[.val (.ref a), .val (.int f), .val (.int y), .val (.int (0 : Int32))] [(.ref a), (.int (0 : Int32))])
  obtain ⟨T1, X1, e1, st1⟩ := getF X0 hx hZ hown (host := "") (Or.inl (hw _ (List.mem_of_getElem? (i := 28) rfl))) Via.refl e0 F_top_a (g := (mkF m 4 #[.val (.ref a), .val (.int f), .val (.int y), .val (.int (0 : Int32))] [(.ref a), (.int (0 : Int32))])) rfl rfl (hb hby d12_4)
  refine own_go (st1) ?_
  show own_R p e below _ T1 (mkF m 7 #[.val (.ref a), .val (.int f), .val (.int y), .val (.int (0 : Int32))] [(.int (3 : Int32)), (.int (0 : Int32))])
  refine own_go (fun t k => XS.icmpNo X1.here hx rfl (hb hby d12_7) rfl (tlt (by decide : (0 : Int32) < (3 : Int32))).2.1 k) ?_
  show own_R p e below _ T1 (mkF m 10 #[.val (.ref a), .val (.int f), .val (.int y), .val (.int (0 : Int32))] [])
  refine own_go (fun t k => XS.aloadN X1.here hx rfl (hb hby d12_10) rfl rfl  k) ?_
  show own_R p e below _ T1 (mkF m 11 #[.val (.ref a), .val (.int f), .val (.int y), .val (.int (0 : Int32))] [(.ref a)])
  obtain ⟨T2, X2, e2, st2⟩ := getF X1 hx hZ hown (host := "") (Or.inl (hw _ (List.mem_of_getElem? (i := 10) rfl))) Via.refl e1 F_words_a (g := (mkF m 11 #[.val (.ref a), .val (.int f), .val (.int y), .val (.int (0 : Int32))] [(.ref a)])) rfl rfl (hb hby d12_11)
  refine own_go (st2) ?_
  show own_R p e below _ T2 (mkF m 14 #[.val (.ref a), .val (.int f), .val (.int y), .val (.int (0 : Int32))] [(.ref w)])
  refine own_go (fun t k => XS.iloadN X2.here hx rfl (hb hby d12_14) rfl  k) ?_
  show own_R p e below _ T2 (mkF m 15 #[.val (.ref a), .val (.int f), .val (.int y), .val (.int (0 : Int32))] [(.int (0 : Int32)), (.ref w)])
  obtain ⟨cl3, Ar3, q3, S3, Nn3, Hh3, G3⟩ := id V_w
  have hin3 : ¬ ((0 : Int32) < 0 ∨ cl3.slots.size ≤ ((0 : Int32)).toNatClampNeg) := inb_of S3 ⟨by decide, by decide⟩
  have hat3 : cl3.slots[((0 : Int32)).toNatClampNeg]? = some (.int x0) := Has.at Hh3 hin3 rfl
  refine own_go (X2.iaload hx (j := (0 : Int32)) (v := (.int x0)) (by rw [e2]; exact Ar3.1) (State.isArrayOf_alike hZ.alike Ar3.2.1) Ar3.2.2 hin3 hat3 (g := (mkF m 15 #[.val (.ref a), .val (.int f), .val (.int y), .val (.int (0 : Int32))] [(.int (0 : Int32)), (.ref w)])) rfl rfl (hb hby d12_15)) ?_
  show own_R p e below _ T2 (mkF m 16 #[.val (.ref a), .val (.int f), .val (.int y), .val (.int (0 : Int32))] [(.int x0)])
  refine own_go (fun t k => XS.iloadN X2.here hx rfl (hb hby d12_16) rfl  k) ?_
  show own_R p e below _ T2 (mkF m 17 #[.val (.ref a), .val (.int f), .val (.int y), .val (.int (0 : Int32))] [(.int f), (.int x0)])
  by_cases hc17_4 : x0 = f
  · -- pc 17: yes
    refine own_go (fun t k => XS.icmpNo X2.here hx rfl (hb hby d12_17) rfl (teq hc17_4).2 k) ?_
    show own_R p e below _ T2 (mkF m 20 #[.val (.ref a), .val (.int f), .val (.int y), .val (.int (0 : Int32))] [])
    refine own_go (fun t k => XS.aloadN X2.here hx rfl (hb hby d12_20) rfl rfl  k) ?_
    show own_R p e below _ T2 (mkF m 21 #[.val (.ref a), .val (.int f), .val (.int y), .val (.int (0 : Int32))] [(.ref a)])
    obtain ⟨T5, X5, e5, st5⟩ := getF X2 hx hZ hown (host := "") (Or.inl (hw _ (List.mem_of_getElem? (i := 10) rfl))) Via.refl e2 F_words_a (g := (mkF m 21 #[.val (.ref a), .val (.int f), .val (.int y), .val (.int (0 : Int32))] [(.ref a)])) rfl rfl (hb hby d12_21)
    refine own_go (st5) ?_
    show own_R p e below _ T5 (mkF m 24 #[.val (.ref a), .val (.int f), .val (.int y), .val (.int (0 : Int32))] [(.ref w)])
    refine own_go (fun t k => XS.iloadN X5.here hx rfl (hb hby d12_24) rfl  k) ?_
    show own_R p e below _ T5 (mkF m 25 #[.val (.ref a), .val (.int f), .val (.int y), .val (.int (0 : Int32))] [(.int (0 : Int32)), (.ref w)])
    refine own_go (fun t k => XS.iloadN X5.here hx rfl (hb hby d12_25) rfl  k) ?_
    show own_R p e below _ T5 (mkF m 26 #[.val (.ref a), .val (.int f), .val (.int y), .val (.int (0 : Int32))] [(.int y), (.int (0 : Int32)), (.ref w)])
    obtain ⟨cl6, Ar6, q6, S6, Nn6, Hh6, G6⟩ := id V_w
    have hin6 : ¬ ((0 : Int32) < 0 ∨ cl6.slots.size ≤ ((0 : Int32)).toNatClampNeg) := inb_of S6 ⟨by decide, by decide⟩
    obtain ⟨T7, h7, X7, e7, W7, st7⟩ := stI X5 hx hZ e5 Ar6 (j := (0 : Int32)) hin6 (g := (mkF m 26 #[.val (.ref a), .val (.int f), .val (.int y), .val (.int (0 : Int32))] [(.int y), (.int (0 : Int32)), (.ref w)])) rfl rfl (hb hby d12_26)
    have N7 := Fr.snoc X7 N0 g_w
    replace Kh := Kh.wr W7 (Or.inl (List.mem_of_getElem? (i := 1) rfl))
    replace F_words_a := Fld.other W7 F_words_a (Or.inl ne_a_w)
    replace F_localCount_a := Fld.other W7 F_localCount_a (Or.inl ne_a_w)
    replace F_maxStack_a := Fld.other W7 F_maxStack_a (Or.inl ne_a_w)
    replace F_top_a := Fld.other W7 F_top_a (Or.inl ne_a_w)
    replace F_thisUninitialized_a := Fld.other W7 F_thisUninitialized_a (Or.inl ne_a_w)
    replace F_localsVersion_a := Fld.other W7 F_localsVersion_a (Or.inl ne_a_w)
    replace E_a := Exa.wr W7 E_a
    have V_w_7 : Arv Z h7 w kw .int (3 : Int32) [(.int y), (.int x1), (.int x2)] (.int (0 : Int32)) := Arv.set Ar6 q6 S6 Nn6 Hh6 G6 rfl W7 0 rfl (Nat.le_of_ble_eq_true rfl)
    refine own_go (st7) ?_
    show own_R p e below _ T7 (mkF m 27 #[.val (.ref a), .val (.int f), .val (.int y), .val (.int (0 : Int32))] [])
    refine own_go (fun t k => XS.aloadN X7.here hx rfl (hb hby d12_27) rfl rfl  k) ?_
    show own_R p e below _ T7 (mkF m 28 #[.val (.ref a), .val (.int f), .val (.int y), .val (.int (0 : Int32))] [(.ref a)])
    refine own_go (fun t k => XS.dup X7.here hx rfl (hb hby d12_28) rfl rfl k) ?_
    show own_R p e below _ T7 (mkF m 29 #[.val (.ref a), .val (.int f), .val (.int y), .val (.int (0 : Int32))] [(.ref a), (.ref a)])
    obtain ⟨T8, X8, e8, st8⟩ := getF X7 hx hZ hown (host := "") (Or.inl (hw _ (List.mem_of_getElem? (i := 32) rfl))) Via.refl e7 F_localsVersion_a (g := (mkF m 29 #[.val (.ref a), .val (.int f), .val (.int y), .val (.int (0 : Int32))] [(.ref a), (.ref a)])) rfl rfl (hb hby d12_29)
    refine own_go (st8) ?_
    show own_R p e below _ T8 (mkF m 32 #[.val (.ref a), .val (.int f), .val (.int y), .val (.int (0 : Int32))] [(.int (3 : Int32)), (.ref a)])
    refine own_go (fun t k => XS.iconst X8.here hx rfl (hb hby d12_32) k) ?_
    show own_R p e below _ T8 (mkF m 33 #[.val (.ref a), .val (.int f), .val (.int y), .val (.int (0 : Int32))] [(.int (1 : Int32)), (.int (3 : Int32)), (.ref a)])
    refine own_go (fun t k => XS.iadd X8.here hx rfl (hb hby d12_33) rfl k) ?_
    show own_R p e below _ T8 (mkF m 34 #[.val (.ref a), .val (.int f), .val (.int y), .val (.int (0 : Int32))] [(.int (4 : Int32)), (.ref a)])
    obtain ⟨T9, h9, X9, e9, W9, st9⟩ := putF X8 hx hZ hown (host := "") (Or.inl (hw _ (List.mem_of_getElem? (i := 32) rfl))) Via.refl e8 F_localsVersion_a E_a (Or.inl (hw _ (List.mem_of_getElem? (i := 33) rfl))) (hw _ (List.mem_of_getElem? (i := 1) rfl)) (ty := .int) (by decide) rfl rfl (g := (mkF m 34 #[.val (.ref a), .val (.int f), .val (.int y), .val (.int (0 : Int32))] [(.int (4 : Int32)), (.ref a)])) rfl rfl (hb hby d12_34)
    have N9 := Fr.snoc X9 N7 g_a
    replace Kh := Kh.wr W9 (Or.inl (List.mem_of_getElem? (i := 0) rfl))
    replace F_words_a := Fld.other W9 F_words_a (Or.inr (slot_ne (Or.inl (hw _ (List.mem_of_getElem? (i := 11) rfl))) (Or.inl (hw _ (List.mem_of_getElem? (i := 33) rfl))) (by decide) (t := (.array .int)) (t' := .int) (by decide) (by decide)))
    replace F_localCount_a := Fld.other W9 F_localCount_a (Or.inr (slot_ne (Or.inl (hw _ (List.mem_of_getElem? (i := 25) rfl))) (Or.inl (hw _ (List.mem_of_getElem? (i := 33) rfl))) (by decide) (t := .int) (t' := .int) (by decide) (by decide)))
    replace F_maxStack_a := Fld.other W9 F_maxStack_a (Or.inr (slot_ne (Or.inl (hw _ (List.mem_of_getElem? (i := 27) rfl))) (Or.inl (hw _ (List.mem_of_getElem? (i := 33) rfl))) (by decide) (t := .int) (t' := .int) (by decide) (by decide)))
    replace F_top_a := Fld.other W9 F_top_a (Or.inr (slot_ne (Or.inl (hw _ (List.mem_of_getElem? (i := 29) rfl))) (Or.inl (hw _ (List.mem_of_getElem? (i := 33) rfl))) (by decide) (t := .int) (t' := .int) (by decide) (by decide)))
    replace F_thisUninitialized_a := Fld.other W9 F_thisUninitialized_a (Or.inr (slot_ne (Or.inl (hw _ (List.mem_of_getElem? (i := 31) rfl))) (Or.inl (hw _ (List.mem_of_getElem? (i := 33) rfl))) (by decide) (t := .boolean) (t' := .int) (by decide) (by decide)))
    replace F_localsVersion_a := Fld.same W9 F_localsVersion_a
    replace E_a := Exa.wr W9 E_a
    replace V_w_7 := Arv.other V_w_7 W9 (Ne.symm ne_a_w)
    refine own_go (st9) ?_
    show own_R p e below _ T9 (mkF m 37 #[.val (.ref a), .val (.int f), .val (.int y), .val (.int (0 : Int32))] [])
    refine own_go (fun t k => XS.iinc X9.here hx rfl (hb hby d12_37) rfl (l' := #[.val (.ref a), .val (.int f), .val (.int y), .val (.int (1 : Int32))]) rfl k) ?_
    show own_R p e below _ T9 (mkF m 40 #[.val (.ref a), .val (.int f), .val (.int y), .val (.int (1 : Int32))] [])
    refine own_go (fun t k => XS.goto X9.here hx rfl (pc0 := 40) (pc' := 2) rfl (hb hby d12_40) (by decide) (by decide) k) ?_
    show own_R p e below _ T9 (mkF m 2 #[.val (.ref a), .val (.int f), .val (.int y), .val (.int (1 : Int32))] [])
    refine own_go (fun t k => XS.iloadN X9.here hx rfl (hb hby d12_2) rfl  k) ?_
    show own_R p e below _ T9 (mkF m 3 #[.val (.ref a), .val (.int f), .val (.int y), .val (.int (1 : Int32))] [(.int (1 : Int32))])
    refine own_go (fun t k => XS.aloadN X9.here hx rfl (hb hby d12_3) rfl rfl  k) ?_
    show own_R p e below _ T9 (mkF m 4 #[.val (.ref a), .val (.int f), .val (.int y), .val (.int (1 : Int32))] [(.ref a), (.int (1 : Int32))])
    obtain ⟨T10, X10, e10, st10⟩ := getF X9 hx hZ hown (host := "") (Or.inl (hw _ (List.mem_of_getElem? (i := 28) rfl))) Via.refl e9 F_top_a (g := (mkF m 4 #[.val (.ref a), .val (.int f), .val (.int y), .val (.int (1 : Int32))] [(.ref a), (.int (1 : Int32))])) rfl rfl (hb hby d12_4)
    refine own_go (st10) ?_
    show own_R p e below _ T10 (mkF m 7 #[.val (.ref a), .val (.int f), .val (.int y), .val (.int (1 : Int32))] [(.int (3 : Int32)), (.int (1 : Int32))])
    refine own_go (fun t k => XS.icmpNo X10.here hx rfl (hb hby d12_7) rfl (tlt (by decide : (1 : Int32) < (3 : Int32))).2.1 k) ?_
    show own_R p e below _ T10 (mkF m 10 #[.val (.ref a), .val (.int f), .val (.int y), .val (.int (1 : Int32))] [])
    refine own_go (fun t k => XS.aloadN X10.here hx rfl (hb hby d12_10) rfl rfl  k) ?_
    show own_R p e below _ T10 (mkF m 11 #[.val (.ref a), .val (.int f), .val (.int y), .val (.int (1 : Int32))] [(.ref a)])
    obtain ⟨T11, X11, e11, st11⟩ := getF X10 hx hZ hown (host := "") (Or.inl (hw _ (List.mem_of_getElem? (i := 10) rfl))) Via.refl e10 F_words_a (g := (mkF m 11 #[.val (.ref a), .val (.int f), .val (.int y), .val (.int (1 : Int32))] [(.ref a)])) rfl rfl (hb hby d12_11)
    refine own_go (st11) ?_
    show own_R p e below _ T11 (mkF m 14 #[.val (.ref a), .val (.int f), .val (.int y), .val (.int (1 : Int32))] [(.ref w)])
    refine own_go (fun t k => XS.iloadN X11.here hx rfl (hb hby d12_14) rfl  k) ?_
    show own_R p e below _ T11 (mkF m 15 #[.val (.ref a), .val (.int f), .val (.int y), .val (.int (1 : Int32))] [(.int (1 : Int32)), (.ref w)])
    obtain ⟨cl12, Ar12, q12, S12, Nn12, Hh12, G12⟩ := id V_w_7
    have hin12 : ¬ ((1 : Int32) < 0 ∨ cl12.slots.size ≤ ((1 : Int32)).toNatClampNeg) := inb_of S12 ⟨by decide, by decide⟩
    have hat12 : cl12.slots[((1 : Int32)).toNatClampNeg]? = some (.int x1) := Has.at Hh12 hin12 rfl
    refine own_go (X11.iaload hx (j := (1 : Int32)) (v := (.int x1)) (by rw [e11]; exact Ar12.1) (State.isArrayOf_alike hZ.alike Ar12.2.1) Ar12.2.2 hin12 hat12 (g := (mkF m 15 #[.val (.ref a), .val (.int f), .val (.int y), .val (.int (1 : Int32))] [(.int (1 : Int32)), (.ref w)])) rfl rfl (hb hby d12_15)) ?_
    show own_R p e below _ T11 (mkF m 16 #[.val (.ref a), .val (.int f), .val (.int y), .val (.int (1 : Int32))] [(.int x1)])
    refine own_go (fun t k => XS.iloadN X11.here hx rfl (hb hby d12_16) rfl  k) ?_
    show own_R p e below _ T11 (mkF m 17 #[.val (.ref a), .val (.int f), .val (.int y), .val (.int (1 : Int32))] [(.int f), (.int x1)])
    by_cases hc17_13 : x1 = f
    · -- pc 17: yes
      refine own_go (fun t k => XS.icmpNo X11.here hx rfl (hb hby d12_17) rfl (teq hc17_13).2 k) ?_
      show own_R p e below _ T11 (mkF m 20 #[.val (.ref a), .val (.int f), .val (.int y), .val (.int (1 : Int32))] [])
      refine own_go (fun t k => XS.aloadN X11.here hx rfl (hb hby d12_20) rfl rfl  k) ?_
      show own_R p e below _ T11 (mkF m 21 #[.val (.ref a), .val (.int f), .val (.int y), .val (.int (1 : Int32))] [(.ref a)])
      obtain ⟨T14, X14, e14, st14⟩ := getF X11 hx hZ hown (host := "") (Or.inl (hw _ (List.mem_of_getElem? (i := 10) rfl))) Via.refl e11 F_words_a (g := (mkF m 21 #[.val (.ref a), .val (.int f), .val (.int y), .val (.int (1 : Int32))] [(.ref a)])) rfl rfl (hb hby d12_21)
      refine own_go (st14) ?_
      show own_R p e below _ T14 (mkF m 24 #[.val (.ref a), .val (.int f), .val (.int y), .val (.int (1 : Int32))] [(.ref w)])
      refine own_go (fun t k => XS.iloadN X14.here hx rfl (hb hby d12_24) rfl  k) ?_
      show own_R p e below _ T14 (mkF m 25 #[.val (.ref a), .val (.int f), .val (.int y), .val (.int (1 : Int32))] [(.int (1 : Int32)), (.ref w)])
      refine own_go (fun t k => XS.iloadN X14.here hx rfl (hb hby d12_25) rfl  k) ?_
      show own_R p e below _ T14 (mkF m 26 #[.val (.ref a), .val (.int f), .val (.int y), .val (.int (1 : Int32))] [(.int y), (.int (1 : Int32)), (.ref w)])
      obtain ⟨cl15, Ar15, q15, S15, Nn15, Hh15, G15⟩ := id V_w_7
      have hin15 : ¬ ((1 : Int32) < 0 ∨ cl15.slots.size ≤ ((1 : Int32)).toNatClampNeg) := inb_of S15 ⟨by decide, by decide⟩
      obtain ⟨T16, h16, X16, e16, W16, st16⟩ := stI X14 hx hZ e14 Ar15 (j := (1 : Int32)) hin15 (g := (mkF m 26 #[.val (.ref a), .val (.int f), .val (.int y), .val (.int (1 : Int32))] [(.int y), (.int (1 : Int32)), (.ref w)])) rfl rfl (hb hby d12_26)
      have N16 := Fr.snoc X16 N9 g_w
      replace Kh := Kh.wr W16 (Or.inl (List.mem_of_getElem? (i := 1) rfl))
      replace F_words_a := Fld.other W16 F_words_a (Or.inl ne_a_w)
      replace F_localCount_a := Fld.other W16 F_localCount_a (Or.inl ne_a_w)
      replace F_maxStack_a := Fld.other W16 F_maxStack_a (Or.inl ne_a_w)
      replace F_top_a := Fld.other W16 F_top_a (Or.inl ne_a_w)
      replace F_thisUninitialized_a := Fld.other W16 F_thisUninitialized_a (Or.inl ne_a_w)
      replace F_localsVersion_a := Fld.other W16 F_localsVersion_a (Or.inl ne_a_w)
      replace E_a := Exa.wr W16 E_a
      have V_w_16 : Arv Z h16 w kw .int (3 : Int32) [(.int y), (.int y), (.int x2)] (.int (0 : Int32)) := Arv.set Ar15 q15 S15 Nn15 Hh15 G15 rfl W16 1 rfl (Nat.le_of_ble_eq_true rfl)
      refine own_go (st16) ?_
      show own_R p e below _ T16 (mkF m 27 #[.val (.ref a), .val (.int f), .val (.int y), .val (.int (1 : Int32))] [])
      refine own_go (fun t k => XS.aloadN X16.here hx rfl (hb hby d12_27) rfl rfl  k) ?_
      show own_R p e below _ T16 (mkF m 28 #[.val (.ref a), .val (.int f), .val (.int y), .val (.int (1 : Int32))] [(.ref a)])
      refine own_go (fun t k => XS.dup X16.here hx rfl (hb hby d12_28) rfl rfl k) ?_
      show own_R p e below _ T16 (mkF m 29 #[.val (.ref a), .val (.int f), .val (.int y), .val (.int (1 : Int32))] [(.ref a), (.ref a)])
      obtain ⟨T17, X17, e17, st17⟩ := getF X16 hx hZ hown (host := "") (Or.inl (hw _ (List.mem_of_getElem? (i := 32) rfl))) Via.refl e16 F_localsVersion_a (g := (mkF m 29 #[.val (.ref a), .val (.int f), .val (.int y), .val (.int (1 : Int32))] [(.ref a), (.ref a)])) rfl rfl (hb hby d12_29)
      refine own_go (st17) ?_
      show own_R p e below _ T17 (mkF m 32 #[.val (.ref a), .val (.int f), .val (.int y), .val (.int (1 : Int32))] [(.int (4 : Int32)), (.ref a)])
      refine own_go (fun t k => XS.iconst X17.here hx rfl (hb hby d12_32) k) ?_
      show own_R p e below _ T17 (mkF m 33 #[.val (.ref a), .val (.int f), .val (.int y), .val (.int (1 : Int32))] [(.int (1 : Int32)), (.int (4 : Int32)), (.ref a)])
      refine own_go (fun t k => XS.iadd X17.here hx rfl (hb hby d12_33) rfl k) ?_
      show own_R p e below _ T17 (mkF m 34 #[.val (.ref a), .val (.int f), .val (.int y), .val (.int (1 : Int32))] [(.int (5 : Int32)), (.ref a)])
      obtain ⟨T18, h18, X18, e18, W18, st18⟩ := putF X17 hx hZ hown (host := "") (Or.inl (hw _ (List.mem_of_getElem? (i := 32) rfl))) Via.refl e17 F_localsVersion_a E_a (Or.inl (hw _ (List.mem_of_getElem? (i := 33) rfl))) (hw _ (List.mem_of_getElem? (i := 1) rfl)) (ty := .int) (by decide) rfl rfl (g := (mkF m 34 #[.val (.ref a), .val (.int f), .val (.int y), .val (.int (1 : Int32))] [(.int (5 : Int32)), (.ref a)])) rfl rfl (hb hby d12_34)
      have N18 := Fr.snoc X18 N16 g_a
      replace Kh := Kh.wr W18 (Or.inl (List.mem_of_getElem? (i := 0) rfl))
      replace F_words_a := Fld.other W18 F_words_a (Or.inr (slot_ne (Or.inl (hw _ (List.mem_of_getElem? (i := 11) rfl))) (Or.inl (hw _ (List.mem_of_getElem? (i := 33) rfl))) (by decide) (t := (.array .int)) (t' := .int) (by decide) (by decide)))
      replace F_localCount_a := Fld.other W18 F_localCount_a (Or.inr (slot_ne (Or.inl (hw _ (List.mem_of_getElem? (i := 25) rfl))) (Or.inl (hw _ (List.mem_of_getElem? (i := 33) rfl))) (by decide) (t := .int) (t' := .int) (by decide) (by decide)))
      replace F_maxStack_a := Fld.other W18 F_maxStack_a (Or.inr (slot_ne (Or.inl (hw _ (List.mem_of_getElem? (i := 27) rfl))) (Or.inl (hw _ (List.mem_of_getElem? (i := 33) rfl))) (by decide) (t := .int) (t' := .int) (by decide) (by decide)))
      replace F_top_a := Fld.other W18 F_top_a (Or.inr (slot_ne (Or.inl (hw _ (List.mem_of_getElem? (i := 29) rfl))) (Or.inl (hw _ (List.mem_of_getElem? (i := 33) rfl))) (by decide) (t := .int) (t' := .int) (by decide) (by decide)))
      replace F_thisUninitialized_a := Fld.other W18 F_thisUninitialized_a (Or.inr (slot_ne (Or.inl (hw _ (List.mem_of_getElem? (i := 31) rfl))) (Or.inl (hw _ (List.mem_of_getElem? (i := 33) rfl))) (by decide) (t := .boolean) (t' := .int) (by decide) (by decide)))
      replace F_localsVersion_a := Fld.same W18 F_localsVersion_a
      replace E_a := Exa.wr W18 E_a
      replace V_w_16 := Arv.other V_w_16 W18 (Ne.symm ne_a_w)
      refine own_go (st18) ?_
      show own_R p e below _ T18 (mkF m 37 #[.val (.ref a), .val (.int f), .val (.int y), .val (.int (1 : Int32))] [])
      refine own_go (fun t k => XS.iinc X18.here hx rfl (hb hby d12_37) rfl (l' := #[.val (.ref a), .val (.int f), .val (.int y), .val (.int (2 : Int32))]) rfl k) ?_
      show own_R p e below _ T18 (mkF m 40 #[.val (.ref a), .val (.int f), .val (.int y), .val (.int (2 : Int32))] [])
      refine own_go (fun t k => XS.goto X18.here hx rfl (pc0 := 40) (pc' := 2) rfl (hb hby d12_40) (by decide) (by decide) k) ?_
      show own_R p e below _ T18 (mkF m 2 #[.val (.ref a), .val (.int f), .val (.int y), .val (.int (2 : Int32))] [])
      refine own_go (fun t k => XS.iloadN X18.here hx rfl (hb hby d12_2) rfl  k) ?_
      show own_R p e below _ T18 (mkF m 3 #[.val (.ref a), .val (.int f), .val (.int y), .val (.int (2 : Int32))] [(.int (2 : Int32))])
      refine own_go (fun t k => XS.aloadN X18.here hx rfl (hb hby d12_3) rfl rfl  k) ?_
      show own_R p e below _ T18 (mkF m 4 #[.val (.ref a), .val (.int f), .val (.int y), .val (.int (2 : Int32))] [(.ref a), (.int (2 : Int32))])
      obtain ⟨T19, X19, e19, st19⟩ := getF X18 hx hZ hown (host := "") (Or.inl (hw _ (List.mem_of_getElem? (i := 28) rfl))) Via.refl e18 F_top_a (g := (mkF m 4 #[.val (.ref a), .val (.int f), .val (.int y), .val (.int (2 : Int32))] [(.ref a), (.int (2 : Int32))])) rfl rfl (hb hby d12_4)
      refine own_go (st19) ?_
      show own_R p e below _ T19 (mkF m 7 #[.val (.ref a), .val (.int f), .val (.int y), .val (.int (2 : Int32))] [(.int (3 : Int32)), (.int (2 : Int32))])
      refine own_go (fun t k => XS.icmpNo X19.here hx rfl (hb hby d12_7) rfl (tlt (by decide : (2 : Int32) < (3 : Int32))).2.1 k) ?_
      show own_R p e below _ T19 (mkF m 10 #[.val (.ref a), .val (.int f), .val (.int y), .val (.int (2 : Int32))] [])
      refine own_go (fun t k => XS.aloadN X19.here hx rfl (hb hby d12_10) rfl rfl  k) ?_
      show own_R p e below _ T19 (mkF m 11 #[.val (.ref a), .val (.int f), .val (.int y), .val (.int (2 : Int32))] [(.ref a)])
      obtain ⟨T20, X20, e20, st20⟩ := getF X19 hx hZ hown (host := "") (Or.inl (hw _ (List.mem_of_getElem? (i := 10) rfl))) Via.refl e19 F_words_a (g := (mkF m 11 #[.val (.ref a), .val (.int f), .val (.int y), .val (.int (2 : Int32))] [(.ref a)])) rfl rfl (hb hby d12_11)
      refine own_go (st20) ?_
      show own_R p e below _ T20 (mkF m 14 #[.val (.ref a), .val (.int f), .val (.int y), .val (.int (2 : Int32))] [(.ref w)])
      refine own_go (fun t k => XS.iloadN X20.here hx rfl (hb hby d12_14) rfl  k) ?_
      show own_R p e below _ T20 (mkF m 15 #[.val (.ref a), .val (.int f), .val (.int y), .val (.int (2 : Int32))] [(.int (2 : Int32)), (.ref w)])
      obtain ⟨cl21, Ar21, q21, S21, Nn21, Hh21, G21⟩ := id V_w_16
      have hin21 : ¬ ((2 : Int32) < 0 ∨ cl21.slots.size ≤ ((2 : Int32)).toNatClampNeg) := inb_of S21 ⟨by decide, by decide⟩
      have hat21 : cl21.slots[((2 : Int32)).toNatClampNeg]? = some (.int x2) := Has.at Hh21 hin21 rfl
      refine own_go (X20.iaload hx (j := (2 : Int32)) (v := (.int x2)) (by rw [e20]; exact Ar21.1) (State.isArrayOf_alike hZ.alike Ar21.2.1) Ar21.2.2 hin21 hat21 (g := (mkF m 15 #[.val (.ref a), .val (.int f), .val (.int y), .val (.int (2 : Int32))] [(.int (2 : Int32)), (.ref w)])) rfl rfl (hb hby d12_15)) ?_
      show own_R p e below _ T20 (mkF m 16 #[.val (.ref a), .val (.int f), .val (.int y), .val (.int (2 : Int32))] [(.int x2)])
      refine own_go (fun t k => XS.iloadN X20.here hx rfl (hb hby d12_16) rfl  k) ?_
      show own_R p e below _ T20 (mkF m 17 #[.val (.ref a), .val (.int f), .val (.int y), .val (.int (2 : Int32))] [(.int f), (.int x2)])
      by_cases hc17_22 : x2 = f
      · -- pc 17: yes
        refine own_go (fun t k => XS.icmpNo X20.here hx rfl (hb hby d12_17) rfl (teq hc17_22).2 k) ?_
        show own_R p e below _ T20 (mkF m 20 #[.val (.ref a), .val (.int f), .val (.int y), .val (.int (2 : Int32))] [])
        refine own_go (fun t k => XS.aloadN X20.here hx rfl (hb hby d12_20) rfl rfl  k) ?_
        show own_R p e below _ T20 (mkF m 21 #[.val (.ref a), .val (.int f), .val (.int y), .val (.int (2 : Int32))] [(.ref a)])
        obtain ⟨T23, X23, e23, st23⟩ := getF X20 hx hZ hown (host := "") (Or.inl (hw _ (List.mem_of_getElem? (i := 10) rfl))) Via.refl e20 F_words_a (g := (mkF m 21 #[.val (.ref a), .val (.int f), .val (.int y), .val (.int (2 : Int32))] [(.ref a)])) rfl rfl (hb hby d12_21)
        refine own_go (st23) ?_
        show own_R p e below _ T23 (mkF m 24 #[.val (.ref a), .val (.int f), .val (.int y), .val (.int (2 : Int32))] [(.ref w)])
        refine own_go (fun t k => XS.iloadN X23.here hx rfl (hb hby d12_24) rfl  k) ?_
        show own_R p e below _ T23 (mkF m 25 #[.val (.ref a), .val (.int f), .val (.int y), .val (.int (2 : Int32))] [(.int (2 : Int32)), (.ref w)])
        refine own_go (fun t k => XS.iloadN X23.here hx rfl (hb hby d12_25) rfl  k) ?_
        show own_R p e below _ T23 (mkF m 26 #[.val (.ref a), .val (.int f), .val (.int y), .val (.int (2 : Int32))] [(.int y), (.int (2 : Int32)), (.ref w)])
        obtain ⟨cl24, Ar24, q24, S24, Nn24, Hh24, G24⟩ := id V_w_16
        have hin24 : ¬ ((2 : Int32) < 0 ∨ cl24.slots.size ≤ ((2 : Int32)).toNatClampNeg) := inb_of S24 ⟨by decide, by decide⟩
        obtain ⟨T25, h25, X25, e25, W25, st25⟩ := stI X23 hx hZ e23 Ar24 (j := (2 : Int32)) hin24 (g := (mkF m 26 #[.val (.ref a), .val (.int f), .val (.int y), .val (.int (2 : Int32))] [(.int y), (.int (2 : Int32)), (.ref w)])) rfl rfl (hb hby d12_26)
        have N25 := Fr.snoc X25 N18 g_w
        replace Kh := Kh.wr W25 (Or.inl (List.mem_of_getElem? (i := 1) rfl))
        replace F_words_a := Fld.other W25 F_words_a (Or.inl ne_a_w)
        replace F_localCount_a := Fld.other W25 F_localCount_a (Or.inl ne_a_w)
        replace F_maxStack_a := Fld.other W25 F_maxStack_a (Or.inl ne_a_w)
        replace F_top_a := Fld.other W25 F_top_a (Or.inl ne_a_w)
        replace F_thisUninitialized_a := Fld.other W25 F_thisUninitialized_a (Or.inl ne_a_w)
        replace F_localsVersion_a := Fld.other W25 F_localsVersion_a (Or.inl ne_a_w)
        replace E_a := Exa.wr W25 E_a
        have V_w_25 : Arv Z h25 w kw .int (3 : Int32) [(.int y), (.int y), (.int y)] (.int (0 : Int32)) := Arv.set Ar24 q24 S24 Nn24 Hh24 G24 rfl W25 2 rfl (Nat.le_of_ble_eq_true rfl)
        refine own_go (st25) ?_
        show own_R p e below _ T25 (mkF m 27 #[.val (.ref a), .val (.int f), .val (.int y), .val (.int (2 : Int32))] [])
        refine own_go (fun t k => XS.aloadN X25.here hx rfl (hb hby d12_27) rfl rfl  k) ?_
        show own_R p e below _ T25 (mkF m 28 #[.val (.ref a), .val (.int f), .val (.int y), .val (.int (2 : Int32))] [(.ref a)])
        refine own_go (fun t k => XS.dup X25.here hx rfl (hb hby d12_28) rfl rfl k) ?_
        show own_R p e below _ T25 (mkF m 29 #[.val (.ref a), .val (.int f), .val (.int y), .val (.int (2 : Int32))] [(.ref a), (.ref a)])
        obtain ⟨T26, X26, e26, st26⟩ := getF X25 hx hZ hown (host := "") (Or.inl (hw _ (List.mem_of_getElem? (i := 32) rfl))) Via.refl e25 F_localsVersion_a (g := (mkF m 29 #[.val (.ref a), .val (.int f), .val (.int y), .val (.int (2 : Int32))] [(.ref a), (.ref a)])) rfl rfl (hb hby d12_29)
        refine own_go (st26) ?_
        show own_R p e below _ T26 (mkF m 32 #[.val (.ref a), .val (.int f), .val (.int y), .val (.int (2 : Int32))] [(.int (5 : Int32)), (.ref a)])
        refine own_go (fun t k => XS.iconst X26.here hx rfl (hb hby d12_32) k) ?_
        show own_R p e below _ T26 (mkF m 33 #[.val (.ref a), .val (.int f), .val (.int y), .val (.int (2 : Int32))] [(.int (1 : Int32)), (.int (5 : Int32)), (.ref a)])
        refine own_go (fun t k => XS.iadd X26.here hx rfl (hb hby d12_33) rfl k) ?_
        show own_R p e below _ T26 (mkF m 34 #[.val (.ref a), .val (.int f), .val (.int y), .val (.int (2 : Int32))] [(.int (6 : Int32)), (.ref a)])
        obtain ⟨T27, h27, X27, e27, W27, st27⟩ := putF X26 hx hZ hown (host := "") (Or.inl (hw _ (List.mem_of_getElem? (i := 32) rfl))) Via.refl e26 F_localsVersion_a E_a (Or.inl (hw _ (List.mem_of_getElem? (i := 33) rfl))) (hw _ (List.mem_of_getElem? (i := 1) rfl)) (ty := .int) (by decide) rfl rfl (g := (mkF m 34 #[.val (.ref a), .val (.int f), .val (.int y), .val (.int (2 : Int32))] [(.int (6 : Int32)), (.ref a)])) rfl rfl (hb hby d12_34)
        have N27 := Fr.snoc X27 N25 g_a
        replace Kh := Kh.wr W27 (Or.inl (List.mem_of_getElem? (i := 0) rfl))
        replace F_words_a := Fld.other W27 F_words_a (Or.inr (slot_ne (Or.inl (hw _ (List.mem_of_getElem? (i := 11) rfl))) (Or.inl (hw _ (List.mem_of_getElem? (i := 33) rfl))) (by decide) (t := (.array .int)) (t' := .int) (by decide) (by decide)))
        replace F_localCount_a := Fld.other W27 F_localCount_a (Or.inr (slot_ne (Or.inl (hw _ (List.mem_of_getElem? (i := 25) rfl))) (Or.inl (hw _ (List.mem_of_getElem? (i := 33) rfl))) (by decide) (t := .int) (t' := .int) (by decide) (by decide)))
        replace F_maxStack_a := Fld.other W27 F_maxStack_a (Or.inr (slot_ne (Or.inl (hw _ (List.mem_of_getElem? (i := 27) rfl))) (Or.inl (hw _ (List.mem_of_getElem? (i := 33) rfl))) (by decide) (t := .int) (t' := .int) (by decide) (by decide)))
        replace F_top_a := Fld.other W27 F_top_a (Or.inr (slot_ne (Or.inl (hw _ (List.mem_of_getElem? (i := 29) rfl))) (Or.inl (hw _ (List.mem_of_getElem? (i := 33) rfl))) (by decide) (t := .int) (t' := .int) (by decide) (by decide)))
        replace F_thisUninitialized_a := Fld.other W27 F_thisUninitialized_a (Or.inr (slot_ne (Or.inl (hw _ (List.mem_of_getElem? (i := 31) rfl))) (Or.inl (hw _ (List.mem_of_getElem? (i := 33) rfl))) (by decide) (t := .boolean) (t' := .int) (by decide) (by decide)))
        replace F_localsVersion_a := Fld.same W27 F_localsVersion_a
        replace E_a := Exa.wr W27 E_a
        replace V_w_25 := Arv.other V_w_25 W27 (Ne.symm ne_a_w)
        refine own_go (st27) ?_
        show own_R p e below _ T27 (mkF m 37 #[.val (.ref a), .val (.int f), .val (.int y), .val (.int (2 : Int32))] [])
        refine own_go (fun t k => XS.iinc X27.here hx rfl (hb hby d12_37) rfl (l' := #[.val (.ref a), .val (.int f), .val (.int y), .val (.int (3 : Int32))]) rfl k) ?_
        show own_R p e below _ T27 (mkF m 40 #[.val (.ref a), .val (.int f), .val (.int y), .val (.int (3 : Int32))] [])
        refine own_go (fun t k => XS.goto X27.here hx rfl (pc0 := 40) (pc' := 2) rfl (hb hby d12_40) (by decide) (by decide) k) ?_
        show own_R p e below _ T27 (mkF m 2 #[.val (.ref a), .val (.int f), .val (.int y), .val (.int (3 : Int32))] [])
        refine own_go (fun t k => XS.iloadN X27.here hx rfl (hb hby d12_2) rfl  k) ?_
        show own_R p e below _ T27 (mkF m 3 #[.val (.ref a), .val (.int f), .val (.int y), .val (.int (3 : Int32))] [(.int (3 : Int32))])
        refine own_go (fun t k => XS.aloadN X27.here hx rfl (hb hby d12_3) rfl rfl  k) ?_
        show own_R p e below _ T27 (mkF m 4 #[.val (.ref a), .val (.int f), .val (.int y), .val (.int (3 : Int32))] [(.ref a), (.int (3 : Int32))])
        obtain ⟨T28, X28, e28, st28⟩ := getF X27 hx hZ hown (host := "") (Or.inl (hw _ (List.mem_of_getElem? (i := 28) rfl))) Via.refl e27 F_top_a (g := (mkF m 4 #[.val (.ref a), .val (.int f), .val (.int y), .val (.int (3 : Int32))] [(.ref a), (.int (3 : Int32))])) rfl rfl (hb hby d12_4)
        refine own_go (st28) ?_
        show own_R p e below _ T28 (mkF m 7 #[.val (.ref a), .val (.int f), .val (.int y), .val (.int (3 : Int32))] [(.int (3 : Int32)), (.int (3 : Int32))])
        refine own_go (fun t k => XS.icmpYes X28.here hx rfl (pc0 := 7) (pc' := 43) rfl (hb hby d12_7) rfl (flt (by decide : ¬ ((3 : Int32) < (3 : Int32)))).2.1 (by decide) (by decide) k) ?_
        show own_R p e below _ T28 (mkF m 43 #[.val (.ref a), .val (.int f), .val (.int y), .val (.int (3 : Int32))] [])
        refine own_retV X28 hx Bd.returns (BodyLoose.notSynchronized Bd) (hb hby d12_43) (by decide) (by decide) ?_
        rw [e28]
        have hv29 : ((((3 : Int32) + (if x0 = f then (1 : Int32) else (0 : Int32))) + (if x1 = f then (1 : Int32) else (0 : Int32))) + (if x2 = f then (1 : Int32) else (0 : Int32))) = (6 : Int32) := by first | rfl | (simp only [if_pos hc17_4, if_pos hc17_13, if_pos hc17_22]; done) | (simp only [if_pos hc17_4, if_pos hc17_13, if_pos hc17_22]; rfl)
        have hv30 : (if x0 = f then y else x0) = y := by first | rfl | (simp only [if_pos hc17_4, if_pos hc17_13, if_pos hc17_22]; done) | (simp only [if_pos hc17_4, if_pos hc17_13, if_pos hc17_22]; rfl)
        have hv31 : (if x1 = f then y else x1) = y := by first | rfl | (simp only [if_pos hc17_4, if_pos hc17_13, if_pos hc17_22]; done) | (simp only [if_pos hc17_4, if_pos hc17_13, if_pos hc17_22]; rfl)
        have hv32 : (if x2 = f then y else x2) = y := by first | rfl | (simp only [if_pos hc17_4, if_pos hc17_13, if_pos hc17_22]; done) | (simp only [if_pos hc17_4, if_pos hc17_13, if_pos hc17_22]; rfl)
        exact ⟨rfl, N27, Kh, E_a, F_words_a, F_localCount_a, F_maxStack_a, F_top_a, F_thisUninitialized_a, (by rw [hv29]; exact F_localsVersion_a), (by rw [hv30, hv31, hv32]; exact V_w_25)⟩
      · -- pc 17: no
        refine own_go (fun t k => XS.icmpYes X20.here hx rfl (pc0 := 17) (pc' := 37) rfl (hb hby d12_17) rfl (feq hc17_22).2 (by decide) (by decide) k) ?_
        show own_R p e below _ T20 (mkF m 37 #[.val (.ref a), .val (.int f), .val (.int y), .val (.int (2 : Int32))] [])
        refine own_go (fun t k => XS.iinc X20.here hx rfl (hb hby d12_37) rfl (l' := #[.val (.ref a), .val (.int f), .val (.int y), .val (.int (3 : Int32))]) rfl k) ?_
        show own_R p e below _ T20 (mkF m 40 #[.val (.ref a), .val (.int f), .val (.int y), .val (.int (3 : Int32))] [])
        refine own_go (fun t k => XS.goto X20.here hx rfl (pc0 := 40) (pc' := 2) rfl (hb hby d12_40) (by decide) (by decide) k) ?_
        show own_R p e below _ T20 (mkF m 2 #[.val (.ref a), .val (.int f), .val (.int y), .val (.int (3 : Int32))] [])
        refine own_go (fun t k => XS.iloadN X20.here hx rfl (hb hby d12_2) rfl  k) ?_
        show own_R p e below _ T20 (mkF m 3 #[.val (.ref a), .val (.int f), .val (.int y), .val (.int (3 : Int32))] [(.int (3 : Int32))])
        refine own_go (fun t k => XS.aloadN X20.here hx rfl (hb hby d12_3) rfl rfl  k) ?_
        show own_R p e below _ T20 (mkF m 4 #[.val (.ref a), .val (.int f), .val (.int y), .val (.int (3 : Int32))] [(.ref a), (.int (3 : Int32))])
        obtain ⟨T33, X33, e33, st33⟩ := getF X20 hx hZ hown (host := "") (Or.inl (hw _ (List.mem_of_getElem? (i := 28) rfl))) Via.refl e20 F_top_a (g := (mkF m 4 #[.val (.ref a), .val (.int f), .val (.int y), .val (.int (3 : Int32))] [(.ref a), (.int (3 : Int32))])) rfl rfl (hb hby d12_4)
        refine own_go (st33) ?_
        show own_R p e below _ T33 (mkF m 7 #[.val (.ref a), .val (.int f), .val (.int y), .val (.int (3 : Int32))] [(.int (3 : Int32)), (.int (3 : Int32))])
        refine own_go (fun t k => XS.icmpYes X33.here hx rfl (pc0 := 7) (pc' := 43) rfl (hb hby d12_7) rfl (flt (by decide : ¬ ((3 : Int32) < (3 : Int32)))).2.1 (by decide) (by decide) k) ?_
        show own_R p e below _ T33 (mkF m 43 #[.val (.ref a), .val (.int f), .val (.int y), .val (.int (3 : Int32))] [])
        refine own_retV X33 hx Bd.returns (BodyLoose.notSynchronized Bd) (hb hby d12_43) (by decide) (by decide) ?_
        rw [e33]
        have hv34 : ((((3 : Int32) + (if x0 = f then (1 : Int32) else (0 : Int32))) + (if x1 = f then (1 : Int32) else (0 : Int32))) + (if x2 = f then (1 : Int32) else (0 : Int32))) = (5 : Int32) := by first | rfl | (simp only [if_pos hc17_4, if_pos hc17_13, if_neg hc17_22]; done) | (simp only [if_pos hc17_4, if_pos hc17_13, if_neg hc17_22]; rfl)
        have hv35 : (if x0 = f then y else x0) = y := by first | rfl | (simp only [if_pos hc17_4, if_pos hc17_13, if_neg hc17_22]; done) | (simp only [if_pos hc17_4, if_pos hc17_13, if_neg hc17_22]; rfl)
        have hv36 : (if x1 = f then y else x1) = y := by first | rfl | (simp only [if_pos hc17_4, if_pos hc17_13, if_neg hc17_22]; done) | (simp only [if_pos hc17_4, if_pos hc17_13, if_neg hc17_22]; rfl)
        have hv37 : (if x2 = f then y else x2) = x2 := by first | rfl | (simp only [if_pos hc17_4, if_pos hc17_13, if_neg hc17_22]; done) | (simp only [if_pos hc17_4, if_pos hc17_13, if_neg hc17_22]; rfl)
        exact ⟨rfl, N18, Kh, E_a, F_words_a, F_localCount_a, F_maxStack_a, F_top_a, F_thisUninitialized_a, (by rw [hv34]; exact F_localsVersion_a), (by rw [hv35, hv36, hv37]; exact V_w_16)⟩
    · -- pc 17: no
      refine own_go (fun t k => XS.icmpYes X11.here hx rfl (pc0 := 17) (pc' := 37) rfl (hb hby d12_17) rfl (feq hc17_13).2 (by decide) (by decide) k) ?_
      show own_R p e below _ T11 (mkF m 37 #[.val (.ref a), .val (.int f), .val (.int y), .val (.int (1 : Int32))] [])
      refine own_go (fun t k => XS.iinc X11.here hx rfl (hb hby d12_37) rfl (l' := #[.val (.ref a), .val (.int f), .val (.int y), .val (.int (2 : Int32))]) rfl k) ?_
      show own_R p e below _ T11 (mkF m 40 #[.val (.ref a), .val (.int f), .val (.int y), .val (.int (2 : Int32))] [])
      refine own_go (fun t k => XS.goto X11.here hx rfl (pc0 := 40) (pc' := 2) rfl (hb hby d12_40) (by decide) (by decide) k) ?_
      show own_R p e below _ T11 (mkF m 2 #[.val (.ref a), .val (.int f), .val (.int y), .val (.int (2 : Int32))] [])
      refine own_go (fun t k => XS.iloadN X11.here hx rfl (hb hby d12_2) rfl  k) ?_
      show own_R p e below _ T11 (mkF m 3 #[.val (.ref a), .val (.int f), .val (.int y), .val (.int (2 : Int32))] [(.int (2 : Int32))])
      refine own_go (fun t k => XS.aloadN X11.here hx rfl (hb hby d12_3) rfl rfl  k) ?_
      show own_R p e below _ T11 (mkF m 4 #[.val (.ref a), .val (.int f), .val (.int y), .val (.int (2 : Int32))] [(.ref a), (.int (2 : Int32))])
      obtain ⟨T38, X38, e38, st38⟩ := getF X11 hx hZ hown (host := "") (Or.inl (hw _ (List.mem_of_getElem? (i := 28) rfl))) Via.refl e11 F_top_a (g := (mkF m 4 #[.val (.ref a), .val (.int f), .val (.int y), .val (.int (2 : Int32))] [(.ref a), (.int (2 : Int32))])) rfl rfl (hb hby d12_4)
      refine own_go (st38) ?_
      show own_R p e below _ T38 (mkF m 7 #[.val (.ref a), .val (.int f), .val (.int y), .val (.int (2 : Int32))] [(.int (3 : Int32)), (.int (2 : Int32))])
      refine own_go (fun t k => XS.icmpNo X38.here hx rfl (hb hby d12_7) rfl (tlt (by decide : (2 : Int32) < (3 : Int32))).2.1 k) ?_
      show own_R p e below _ T38 (mkF m 10 #[.val (.ref a), .val (.int f), .val (.int y), .val (.int (2 : Int32))] [])
      refine own_go (fun t k => XS.aloadN X38.here hx rfl (hb hby d12_10) rfl rfl  k) ?_
      show own_R p e below _ T38 (mkF m 11 #[.val (.ref a), .val (.int f), .val (.int y), .val (.int (2 : Int32))] [(.ref a)])
      obtain ⟨T39, X39, e39, st39⟩ := getF X38 hx hZ hown (host := "") (Or.inl (hw _ (List.mem_of_getElem? (i := 10) rfl))) Via.refl e38 F_words_a (g := (mkF m 11 #[.val (.ref a), .val (.int f), .val (.int y), .val (.int (2 : Int32))] [(.ref a)])) rfl rfl (hb hby d12_11)
      refine own_go (st39) ?_
      show own_R p e below _ T39 (mkF m 14 #[.val (.ref a), .val (.int f), .val (.int y), .val (.int (2 : Int32))] [(.ref w)])
      refine own_go (fun t k => XS.iloadN X39.here hx rfl (hb hby d12_14) rfl  k) ?_
      show own_R p e below _ T39 (mkF m 15 #[.val (.ref a), .val (.int f), .val (.int y), .val (.int (2 : Int32))] [(.int (2 : Int32)), (.ref w)])
      obtain ⟨cl40, Ar40, q40, S40, Nn40, Hh40, G40⟩ := id V_w_7
      have hin40 : ¬ ((2 : Int32) < 0 ∨ cl40.slots.size ≤ ((2 : Int32)).toNatClampNeg) := inb_of S40 ⟨by decide, by decide⟩
      have hat40 : cl40.slots[((2 : Int32)).toNatClampNeg]? = some (.int x2) := Has.at Hh40 hin40 rfl
      refine own_go (X39.iaload hx (j := (2 : Int32)) (v := (.int x2)) (by rw [e39]; exact Ar40.1) (State.isArrayOf_alike hZ.alike Ar40.2.1) Ar40.2.2 hin40 hat40 (g := (mkF m 15 #[.val (.ref a), .val (.int f), .val (.int y), .val (.int (2 : Int32))] [(.int (2 : Int32)), (.ref w)])) rfl rfl (hb hby d12_15)) ?_
      show own_R p e below _ T39 (mkF m 16 #[.val (.ref a), .val (.int f), .val (.int y), .val (.int (2 : Int32))] [(.int x2)])
      refine own_go (fun t k => XS.iloadN X39.here hx rfl (hb hby d12_16) rfl  k) ?_
      show own_R p e below _ T39 (mkF m 17 #[.val (.ref a), .val (.int f), .val (.int y), .val (.int (2 : Int32))] [(.int f), (.int x2)])
      by_cases hc17_41 : x2 = f
      · -- pc 17: yes
        refine own_go (fun t k => XS.icmpNo X39.here hx rfl (hb hby d12_17) rfl (teq hc17_41).2 k) ?_
        show own_R p e below _ T39 (mkF m 20 #[.val (.ref a), .val (.int f), .val (.int y), .val (.int (2 : Int32))] [])
        refine own_go (fun t k => XS.aloadN X39.here hx rfl (hb hby d12_20) rfl rfl  k) ?_
        show own_R p e below _ T39 (mkF m 21 #[.val (.ref a), .val (.int f), .val (.int y), .val (.int (2 : Int32))] [(.ref a)])
        obtain ⟨T42, X42, e42, st42⟩ := getF X39 hx hZ hown (host := "") (Or.inl (hw _ (List.mem_of_getElem? (i := 10) rfl))) Via.refl e39 F_words_a (g := (mkF m 21 #[.val (.ref a), .val (.int f), .val (.int y), .val (.int (2 : Int32))] [(.ref a)])) rfl rfl (hb hby d12_21)
        refine own_go (st42) ?_
        show own_R p e below _ T42 (mkF m 24 #[.val (.ref a), .val (.int f), .val (.int y), .val (.int (2 : Int32))] [(.ref w)])
        refine own_go (fun t k => XS.iloadN X42.here hx rfl (hb hby d12_24) rfl  k) ?_
        show own_R p e below _ T42 (mkF m 25 #[.val (.ref a), .val (.int f), .val (.int y), .val (.int (2 : Int32))] [(.int (2 : Int32)), (.ref w)])
        refine own_go (fun t k => XS.iloadN X42.here hx rfl (hb hby d12_25) rfl  k) ?_
        show own_R p e below _ T42 (mkF m 26 #[.val (.ref a), .val (.int f), .val (.int y), .val (.int (2 : Int32))] [(.int y), (.int (2 : Int32)), (.ref w)])
        obtain ⟨cl43, Ar43, q43, S43, Nn43, Hh43, G43⟩ := id V_w_7
        have hin43 : ¬ ((2 : Int32) < 0 ∨ cl43.slots.size ≤ ((2 : Int32)).toNatClampNeg) := inb_of S43 ⟨by decide, by decide⟩
        obtain ⟨T44, h44, X44, e44, W44, st44⟩ := stI X42 hx hZ e42 Ar43 (j := (2 : Int32)) hin43 (g := (mkF m 26 #[.val (.ref a), .val (.int f), .val (.int y), .val (.int (2 : Int32))] [(.int y), (.int (2 : Int32)), (.ref w)])) rfl rfl (hb hby d12_26)
        have N44 := Fr.snoc X44 N9 g_w
        replace Kh := Kh.wr W44 (Or.inl (List.mem_of_getElem? (i := 1) rfl))
        replace F_words_a := Fld.other W44 F_words_a (Or.inl ne_a_w)
        replace F_localCount_a := Fld.other W44 F_localCount_a (Or.inl ne_a_w)
        replace F_maxStack_a := Fld.other W44 F_maxStack_a (Or.inl ne_a_w)
        replace F_top_a := Fld.other W44 F_top_a (Or.inl ne_a_w)
        replace F_thisUninitialized_a := Fld.other W44 F_thisUninitialized_a (Or.inl ne_a_w)
        replace F_localsVersion_a := Fld.other W44 F_localsVersion_a (Or.inl ne_a_w)
        replace E_a := Exa.wr W44 E_a
        have V_w_44 : Arv Z h44 w kw .int (3 : Int32) [(.int y), (.int x1), (.int y)] (.int (0 : Int32)) := Arv.set Ar43 q43 S43 Nn43 Hh43 G43 rfl W44 2 rfl (Nat.le_of_ble_eq_true rfl)
        refine own_go (st44) ?_
        show own_R p e below _ T44 (mkF m 27 #[.val (.ref a), .val (.int f), .val (.int y), .val (.int (2 : Int32))] [])
        refine own_go (fun t k => XS.aloadN X44.here hx rfl (hb hby d12_27) rfl rfl  k) ?_
        show own_R p e below _ T44 (mkF m 28 #[.val (.ref a), .val (.int f), .val (.int y), .val (.int (2 : Int32))] [(.ref a)])
        refine own_go (fun t k => XS.dup X44.here hx rfl (hb hby d12_28) rfl rfl k) ?_
        show own_R p e below _ T44 (mkF m 29 #[.val (.ref a), .val (.int f), .val (.int y), .val (.int (2 : Int32))] [(.ref a), (.ref a)])
        obtain ⟨T45, X45, e45, st45⟩ := getF X44 hx hZ hown (host := "") (Or.inl (hw _ (List.mem_of_getElem? (i := 32) rfl))) Via.refl e44 F_localsVersion_a (g := (mkF m 29 #[.val (.ref a), .val (.int f), .val (.int y), .val (.int (2 : Int32))] [(.ref a), (.ref a)])) rfl rfl (hb hby d12_29)
        refine own_go (st45) ?_
        show own_R p e below _ T45 (mkF m 32 #[.val (.ref a), .val (.int f), .val (.int y), .val (.int (2 : Int32))] [(.int (4 : Int32)), (.ref a)])
        refine own_go (fun t k => XS.iconst X45.here hx rfl (hb hby d12_32) k) ?_
        show own_R p e below _ T45 (mkF m 33 #[.val (.ref a), .val (.int f), .val (.int y), .val (.int (2 : Int32))] [(.int (1 : Int32)), (.int (4 : Int32)), (.ref a)])
        refine own_go (fun t k => XS.iadd X45.here hx rfl (hb hby d12_33) rfl k) ?_
        show own_R p e below _ T45 (mkF m 34 #[.val (.ref a), .val (.int f), .val (.int y), .val (.int (2 : Int32))] [(.int (5 : Int32)), (.ref a)])
        obtain ⟨T46, h46, X46, e46, W46, st46⟩ := putF X45 hx hZ hown (host := "") (Or.inl (hw _ (List.mem_of_getElem? (i := 32) rfl))) Via.refl e45 F_localsVersion_a E_a (Or.inl (hw _ (List.mem_of_getElem? (i := 33) rfl))) (hw _ (List.mem_of_getElem? (i := 1) rfl)) (ty := .int) (by decide) rfl rfl (g := (mkF m 34 #[.val (.ref a), .val (.int f), .val (.int y), .val (.int (2 : Int32))] [(.int (5 : Int32)), (.ref a)])) rfl rfl (hb hby d12_34)
        have N46 := Fr.snoc X46 N44 g_a
        replace Kh := Kh.wr W46 (Or.inl (List.mem_of_getElem? (i := 0) rfl))
        replace F_words_a := Fld.other W46 F_words_a (Or.inr (slot_ne (Or.inl (hw _ (List.mem_of_getElem? (i := 11) rfl))) (Or.inl (hw _ (List.mem_of_getElem? (i := 33) rfl))) (by decide) (t := (.array .int)) (t' := .int) (by decide) (by decide)))
        replace F_localCount_a := Fld.other W46 F_localCount_a (Or.inr (slot_ne (Or.inl (hw _ (List.mem_of_getElem? (i := 25) rfl))) (Or.inl (hw _ (List.mem_of_getElem? (i := 33) rfl))) (by decide) (t := .int) (t' := .int) (by decide) (by decide)))
        replace F_maxStack_a := Fld.other W46 F_maxStack_a (Or.inr (slot_ne (Or.inl (hw _ (List.mem_of_getElem? (i := 27) rfl))) (Or.inl (hw _ (List.mem_of_getElem? (i := 33) rfl))) (by decide) (t := .int) (t' := .int) (by decide) (by decide)))
        replace F_top_a := Fld.other W46 F_top_a (Or.inr (slot_ne (Or.inl (hw _ (List.mem_of_getElem? (i := 29) rfl))) (Or.inl (hw _ (List.mem_of_getElem? (i := 33) rfl))) (by decide) (t := .int) (t' := .int) (by decide) (by decide)))
        replace F_thisUninitialized_a := Fld.other W46 F_thisUninitialized_a (Or.inr (slot_ne (Or.inl (hw _ (List.mem_of_getElem? (i := 31) rfl))) (Or.inl (hw _ (List.mem_of_getElem? (i := 33) rfl))) (by decide) (t := .boolean) (t' := .int) (by decide) (by decide)))
        replace F_localsVersion_a := Fld.same W46 F_localsVersion_a
        replace E_a := Exa.wr W46 E_a
        replace V_w_44 := Arv.other V_w_44 W46 (Ne.symm ne_a_w)
        refine own_go (st46) ?_
        show own_R p e below _ T46 (mkF m 37 #[.val (.ref a), .val (.int f), .val (.int y), .val (.int (2 : Int32))] [])
        refine own_go (fun t k => XS.iinc X46.here hx rfl (hb hby d12_37) rfl (l' := #[.val (.ref a), .val (.int f), .val (.int y), .val (.int (3 : Int32))]) rfl k) ?_
        show own_R p e below _ T46 (mkF m 40 #[.val (.ref a), .val (.int f), .val (.int y), .val (.int (3 : Int32))] [])
        refine own_go (fun t k => XS.goto X46.here hx rfl (pc0 := 40) (pc' := 2) rfl (hb hby d12_40) (by decide) (by decide) k) ?_
        show own_R p e below _ T46 (mkF m 2 #[.val (.ref a), .val (.int f), .val (.int y), .val (.int (3 : Int32))] [])
        refine own_go (fun t k => XS.iloadN X46.here hx rfl (hb hby d12_2) rfl  k) ?_
        show own_R p e below _ T46 (mkF m 3 #[.val (.ref a), .val (.int f), .val (.int y), .val (.int (3 : Int32))] [(.int (3 : Int32))])
        refine own_go (fun t k => XS.aloadN X46.here hx rfl (hb hby d12_3) rfl rfl  k) ?_
        show own_R p e below _ T46 (mkF m 4 #[.val (.ref a), .val (.int f), .val (.int y), .val (.int (3 : Int32))] [(.ref a), (.int (3 : Int32))])
        obtain ⟨T47, X47, e47, st47⟩ := getF X46 hx hZ hown (host := "") (Or.inl (hw _ (List.mem_of_getElem? (i := 28) rfl))) Via.refl e46 F_top_a (g := (mkF m 4 #[.val (.ref a), .val (.int f), .val (.int y), .val (.int (3 : Int32))] [(.ref a), (.int (3 : Int32))])) rfl rfl (hb hby d12_4)
        refine own_go (st47) ?_
        show own_R p e below _ T47 (mkF m 7 #[.val (.ref a), .val (.int f), .val (.int y), .val (.int (3 : Int32))] [(.int (3 : Int32)), (.int (3 : Int32))])
        refine own_go (fun t k => XS.icmpYes X47.here hx rfl (pc0 := 7) (pc' := 43) rfl (hb hby d12_7) rfl (flt (by decide : ¬ ((3 : Int32) < (3 : Int32)))).2.1 (by decide) (by decide) k) ?_
        show own_R p e below _ T47 (mkF m 43 #[.val (.ref a), .val (.int f), .val (.int y), .val (.int (3 : Int32))] [])
        refine own_retV X47 hx Bd.returns (BodyLoose.notSynchronized Bd) (hb hby d12_43) (by decide) (by decide) ?_
        rw [e47]
        have hv48 : ((((3 : Int32) + (if x0 = f then (1 : Int32) else (0 : Int32))) + (if x1 = f then (1 : Int32) else (0 : Int32))) + (if x2 = f then (1 : Int32) else (0 : Int32))) = (5 : Int32) := by first | rfl | (simp only [if_pos hc17_4, if_neg hc17_13, if_pos hc17_41]; done) | (simp only [if_pos hc17_4, if_neg hc17_13, if_pos hc17_41]; rfl)
        have hv49 : (if x0 = f then y else x0) = y := by first | rfl | (simp only [if_pos hc17_4, if_neg hc17_13, if_pos hc17_41]; done) | (simp only [if_pos hc17_4, if_neg hc17_13, if_pos hc17_41]; rfl)
        have hv50 : (if x1 = f then y else x1) = x1 := by first | rfl | (simp only [if_pos hc17_4, if_neg hc17_13, if_pos hc17_41]; done) | (simp only [if_pos hc17_4, if_neg hc17_13, if_pos hc17_41]; rfl)
        have hv51 : (if x2 = f then y else x2) = y := by first | rfl | (simp only [if_pos hc17_4, if_neg hc17_13, if_pos hc17_41]; done) | (simp only [if_pos hc17_4, if_neg hc17_13, if_pos hc17_41]; rfl)
        exact ⟨rfl, N46, Kh, E_a, F_words_a, F_localCount_a, F_maxStack_a, F_top_a, F_thisUninitialized_a, (by rw [hv48]; exact F_localsVersion_a), (by rw [hv49, hv50, hv51]; exact V_w_44)⟩
      · -- pc 17: no
        refine own_go (fun t k => XS.icmpYes X39.here hx rfl (pc0 := 17) (pc' := 37) rfl (hb hby d12_17) rfl (feq hc17_41).2 (by decide) (by decide) k) ?_
        show own_R p e below _ T39 (mkF m 37 #[.val (.ref a), .val (.int f), .val (.int y), .val (.int (2 : Int32))] [])
        refine own_go (fun t k => XS.iinc X39.here hx rfl (hb hby d12_37) rfl (l' := #[.val (.ref a), .val (.int f), .val (.int y), .val (.int (3 : Int32))]) rfl k) ?_
        show own_R p e below _ T39 (mkF m 40 #[.val (.ref a), .val (.int f), .val (.int y), .val (.int (3 : Int32))] [])
        refine own_go (fun t k => XS.goto X39.here hx rfl (pc0 := 40) (pc' := 2) rfl (hb hby d12_40) (by decide) (by decide) k) ?_
        show own_R p e below _ T39 (mkF m 2 #[.val (.ref a), .val (.int f), .val (.int y), .val (.int (3 : Int32))] [])
        refine own_go (fun t k => XS.iloadN X39.here hx rfl (hb hby d12_2) rfl  k) ?_
        show own_R p e below _ T39 (mkF m 3 #[.val (.ref a), .val (.int f), .val (.int y), .val (.int (3 : Int32))] [(.int (3 : Int32))])
        refine own_go (fun t k => XS.aloadN X39.here hx rfl (hb hby d12_3) rfl rfl  k) ?_
        show own_R p e below _ T39 (mkF m 4 #[.val (.ref a), .val (.int f), .val (.int y), .val (.int (3 : Int32))] [(.ref a), (.int (3 : Int32))])
        obtain ⟨T52, X52, e52, st52⟩ := getF X39 hx hZ hown (host := "") (Or.inl (hw _ (List.mem_of_getElem? (i := 28) rfl))) Via.refl e39 F_top_a (g := (mkF m 4 #[.val (.ref a), .val (.int f), .val (.int y), .val (.int (3 : Int32))] [(.ref a), (.int (3 : Int32))])) rfl rfl (hb hby d12_4)
        refine own_go (st52) ?_
        show own_R p e below _ T52 (mkF m 7 #[.val (.ref a), .val (.int f), .val (.int y), .val (.int (3 : Int32))] [(.int (3 : Int32)), (.int (3 : Int32))])
        refine own_go (fun t k => XS.icmpYes X52.here hx rfl (pc0 := 7) (pc' := 43) rfl (hb hby d12_7) rfl (flt (by decide : ¬ ((3 : Int32) < (3 : Int32)))).2.1 (by decide) (by decide) k) ?_
        show own_R p e below _ T52 (mkF m 43 #[.val (.ref a), .val (.int f), .val (.int y), .val (.int (3 : Int32))] [])
        refine own_retV X52 hx Bd.returns (BodyLoose.notSynchronized Bd) (hb hby d12_43) (by decide) (by decide) ?_
        rw [e52]
        have hv53 : ((((3 : Int32) + (if x0 = f then (1 : Int32) else (0 : Int32))) + (if x1 = f then (1 : Int32) else (0 : Int32))) + (if x2 = f then (1 : Int32) else (0 : Int32))) = (4 : Int32) := by first | rfl | (simp only [if_pos hc17_4, if_neg hc17_13, if_neg hc17_41]; done) | (simp only [if_pos hc17_4, if_neg hc17_13, if_neg hc17_41]; rfl)
        have hv54 : (if x0 = f then y else x0) = y := by first | rfl | (simp only [if_pos hc17_4, if_neg hc17_13, if_neg hc17_41]; done) | (simp only [if_pos hc17_4, if_neg hc17_13, if_neg hc17_41]; rfl)
        have hv55 : (if x1 = f then y else x1) = x1 := by first | rfl | (simp only [if_pos hc17_4, if_neg hc17_13, if_neg hc17_41]; done) | (simp only [if_pos hc17_4, if_neg hc17_13, if_neg hc17_41]; rfl)
        have hv56 : (if x2 = f then y else x2) = x2 := by first | rfl | (simp only [if_pos hc17_4, if_neg hc17_13, if_neg hc17_41]; done) | (simp only [if_pos hc17_4, if_neg hc17_13, if_neg hc17_41]; rfl)
        exact ⟨rfl, N9, Kh, E_a, F_words_a, F_localCount_a, F_maxStack_a, F_top_a, F_thisUninitialized_a, (by rw [hv53]; exact F_localsVersion_a), (by rw [hv54, hv55, hv56]; exact V_w_7)⟩
  · -- pc 17: no
    refine own_go (fun t k => XS.icmpYes X2.here hx rfl (pc0 := 17) (pc' := 37) rfl (hb hby d12_17) rfl (feq hc17_4).2 (by decide) (by decide) k) ?_
    show own_R p e below _ T2 (mkF m 37 #[.val (.ref a), .val (.int f), .val (.int y), .val (.int (0 : Int32))] [])
    refine own_go (fun t k => XS.iinc X2.here hx rfl (hb hby d12_37) rfl (l' := #[.val (.ref a), .val (.int f), .val (.int y), .val (.int (1 : Int32))]) rfl k) ?_
    show own_R p e below _ T2 (mkF m 40 #[.val (.ref a), .val (.int f), .val (.int y), .val (.int (1 : Int32))] [])
    refine own_go (fun t k => XS.goto X2.here hx rfl (pc0 := 40) (pc' := 2) rfl (hb hby d12_40) (by decide) (by decide) k) ?_
    show own_R p e below _ T2 (mkF m 2 #[.val (.ref a), .val (.int f), .val (.int y), .val (.int (1 : Int32))] [])
    refine own_go (fun t k => XS.iloadN X2.here hx rfl (hb hby d12_2) rfl  k) ?_
    show own_R p e below _ T2 (mkF m 3 #[.val (.ref a), .val (.int f), .val (.int y), .val (.int (1 : Int32))] [(.int (1 : Int32))])
    refine own_go (fun t k => XS.aloadN X2.here hx rfl (hb hby d12_3) rfl rfl  k) ?_
    show own_R p e below _ T2 (mkF m 4 #[.val (.ref a), .val (.int f), .val (.int y), .val (.int (1 : Int32))] [(.ref a), (.int (1 : Int32))])
    obtain ⟨T57, X57, e57, st57⟩ := getF X2 hx hZ hown (host := "") (Or.inl (hw _ (List.mem_of_getElem? (i := 28) rfl))) Via.refl e2 F_top_a (g := (mkF m 4 #[.val (.ref a), .val (.int f), .val (.int y), .val (.int (1 : Int32))] [(.ref a), (.int (1 : Int32))])) rfl rfl (hb hby d12_4)
    refine own_go (st57) ?_
    show own_R p e below _ T57 (mkF m 7 #[.val (.ref a), .val (.int f), .val (.int y), .val (.int (1 : Int32))] [(.int (3 : Int32)), (.int (1 : Int32))])
    refine own_go (fun t k => XS.icmpNo X57.here hx rfl (hb hby d12_7) rfl (tlt (by decide : (1 : Int32) < (3 : Int32))).2.1 k) ?_
    show own_R p e below _ T57 (mkF m 10 #[.val (.ref a), .val (.int f), .val (.int y), .val (.int (1 : Int32))] [])
    refine own_go (fun t k => XS.aloadN X57.here hx rfl (hb hby d12_10) rfl rfl  k) ?_
    show own_R p e below _ T57 (mkF m 11 #[.val (.ref a), .val (.int f), .val (.int y), .val (.int (1 : Int32))] [(.ref a)])
    obtain ⟨T58, X58, e58, st58⟩ := getF X57 hx hZ hown (host := "") (Or.inl (hw _ (List.mem_of_getElem? (i := 10) rfl))) Via.refl e57 F_words_a (g := (mkF m 11 #[.val (.ref a), .val (.int f), .val (.int y), .val (.int (1 : Int32))] [(.ref a)])) rfl rfl (hb hby d12_11)
    refine own_go (st58) ?_
    show own_R p e below _ T58 (mkF m 14 #[.val (.ref a), .val (.int f), .val (.int y), .val (.int (1 : Int32))] [(.ref w)])
    refine own_go (fun t k => XS.iloadN X58.here hx rfl (hb hby d12_14) rfl  k) ?_
    show own_R p e below _ T58 (mkF m 15 #[.val (.ref a), .val (.int f), .val (.int y), .val (.int (1 : Int32))] [(.int (1 : Int32)), (.ref w)])
    obtain ⟨cl59, Ar59, q59, S59, Nn59, Hh59, G59⟩ := id V_w
    have hin59 : ¬ ((1 : Int32) < 0 ∨ cl59.slots.size ≤ ((1 : Int32)).toNatClampNeg) := inb_of S59 ⟨by decide, by decide⟩
    have hat59 : cl59.slots[((1 : Int32)).toNatClampNeg]? = some (.int x1) := Has.at Hh59 hin59 rfl
    refine own_go (X58.iaload hx (j := (1 : Int32)) (v := (.int x1)) (by rw [e58]; exact Ar59.1) (State.isArrayOf_alike hZ.alike Ar59.2.1) Ar59.2.2 hin59 hat59 (g := (mkF m 15 #[.val (.ref a), .val (.int f), .val (.int y), .val (.int (1 : Int32))] [(.int (1 : Int32)), (.ref w)])) rfl rfl (hb hby d12_15)) ?_
    show own_R p e below _ T58 (mkF m 16 #[.val (.ref a), .val (.int f), .val (.int y), .val (.int (1 : Int32))] [(.int x1)])
    refine own_go (fun t k => XS.iloadN X58.here hx rfl (hb hby d12_16) rfl  k) ?_
    show own_R p e below _ T58 (mkF m 17 #[.val (.ref a), .val (.int f), .val (.int y), .val (.int (1 : Int32))] [(.int f), (.int x1)])
    by_cases hc17_60 : x1 = f
    · -- pc 17: yes
      refine own_go (fun t k => XS.icmpNo X58.here hx rfl (hb hby d12_17) rfl (teq hc17_60).2 k) ?_
      show own_R p e below _ T58 (mkF m 20 #[.val (.ref a), .val (.int f), .val (.int y), .val (.int (1 : Int32))] [])
      refine own_go (fun t k => XS.aloadN X58.here hx rfl (hb hby d12_20) rfl rfl  k) ?_
      show own_R p e below _ T58 (mkF m 21 #[.val (.ref a), .val (.int f), .val (.int y), .val (.int (1 : Int32))] [(.ref a)])
      obtain ⟨T61, X61, e61, st61⟩ := getF X58 hx hZ hown (host := "") (Or.inl (hw _ (List.mem_of_getElem? (i := 10) rfl))) Via.refl e58 F_words_a (g := (mkF m 21 #[.val (.ref a), .val (.int f), .val (.int y), .val (.int (1 : Int32))] [(.ref a)])) rfl rfl (hb hby d12_21)
      refine own_go (st61) ?_
      show own_R p e below _ T61 (mkF m 24 #[.val (.ref a), .val (.int f), .val (.int y), .val (.int (1 : Int32))] [(.ref w)])
      refine own_go (fun t k => XS.iloadN X61.here hx rfl (hb hby d12_24) rfl  k) ?_
      show own_R p e below _ T61 (mkF m 25 #[.val (.ref a), .val (.int f), .val (.int y), .val (.int (1 : Int32))] [(.int (1 : Int32)), (.ref w)])
      refine own_go (fun t k => XS.iloadN X61.here hx rfl (hb hby d12_25) rfl  k) ?_
      show own_R p e below _ T61 (mkF m 26 #[.val (.ref a), .val (.int f), .val (.int y), .val (.int (1 : Int32))] [(.int y), (.int (1 : Int32)), (.ref w)])
      obtain ⟨cl62, Ar62, q62, S62, Nn62, Hh62, G62⟩ := id V_w
      have hin62 : ¬ ((1 : Int32) < 0 ∨ cl62.slots.size ≤ ((1 : Int32)).toNatClampNeg) := inb_of S62 ⟨by decide, by decide⟩
      obtain ⟨T63, h63, X63, e63, W63, st63⟩ := stI X61 hx hZ e61 Ar62 (j := (1 : Int32)) hin62 (g := (mkF m 26 #[.val (.ref a), .val (.int f), .val (.int y), .val (.int (1 : Int32))] [(.int y), (.int (1 : Int32)), (.ref w)])) rfl rfl (hb hby d12_26)
      have N63 := Fr.snoc X63 N0 g_w
      replace Kh := Kh.wr W63 (Or.inl (List.mem_of_getElem? (i := 1) rfl))
      replace F_words_a := Fld.other W63 F_words_a (Or.inl ne_a_w)
      replace F_localCount_a := Fld.other W63 F_localCount_a (Or.inl ne_a_w)
      replace F_maxStack_a := Fld.other W63 F_maxStack_a (Or.inl ne_a_w)
      replace F_top_a := Fld.other W63 F_top_a (Or.inl ne_a_w)
      replace F_thisUninitialized_a := Fld.other W63 F_thisUninitialized_a (Or.inl ne_a_w)
      replace F_localsVersion_a := Fld.other W63 F_localsVersion_a (Or.inl ne_a_w)
      replace E_a := Exa.wr W63 E_a
      have V_w_63 : Arv Z h63 w kw .int (3 : Int32) [(.int x0), (.int y), (.int x2)] (.int (0 : Int32)) := Arv.set Ar62 q62 S62 Nn62 Hh62 G62 rfl W63 1 rfl (Nat.le_of_ble_eq_true rfl)
      refine own_go (st63) ?_
      show own_R p e below _ T63 (mkF m 27 #[.val (.ref a), .val (.int f), .val (.int y), .val (.int (1 : Int32))] [])
      refine own_go (fun t k => XS.aloadN X63.here hx rfl (hb hby d12_27) rfl rfl  k) ?_
      show own_R p e below _ T63 (mkF m 28 #[.val (.ref a), .val (.int f), .val (.int y), .val (.int (1 : Int32))] [(.ref a)])
      refine own_go (fun t k => XS.dup X63.here hx rfl (hb hby d12_28) rfl rfl k) ?_
      show own_R p e below _ T63 (mkF m 29 #[.val (.ref a), .val (.int f), .val (.int y), .val (.int (1 : Int32))] [(.ref a), (.ref a)])
      obtain ⟨T64, X64, e64, st64⟩ := getF X63 hx hZ hown (host := "") (Or.inl (hw _ (List.mem_of_getElem? (i := 32) rfl))) Via.refl e63 F_localsVersion_a (g := (mkF m 29 #[.val (.ref a), .val (.int f), .val (.int y), .val (.int (1 : Int32))] [(.ref a), (.ref a)])) rfl rfl (hb hby d12_29)
      refine own_go (st64) ?_
      show own_R p e below _ T64 (mkF m 32 #[.val (.ref a), .val (.int f), .val (.int y), .val (.int (1 : Int32))] [(.int (3 : Int32)), (.ref a)])
      refine own_go (fun t k => XS.iconst X64.here hx rfl (hb hby d12_32) k) ?_
      show own_R p e below _ T64 (mkF m 33 #[.val (.ref a), .val (.int f), .val (.int y), .val (.int (1 : Int32))] [(.int (1 : Int32)), (.int (3 : Int32)), (.ref a)])
      refine own_go (fun t k => XS.iadd X64.here hx rfl (hb hby d12_33) rfl k) ?_
      show own_R p e below _ T64 (mkF m 34 #[.val (.ref a), .val (.int f), .val (.int y), .val (.int (1 : Int32))] [(.int (4 : Int32)), (.ref a)])
      obtain ⟨T65, h65, X65, e65, W65, st65⟩ := putF X64 hx hZ hown (host := "") (Or.inl (hw _ (List.mem_of_getElem? (i := 32) rfl))) Via.refl e64 F_localsVersion_a E_a (Or.inl (hw _ (List.mem_of_getElem? (i := 33) rfl))) (hw _ (List.mem_of_getElem? (i := 1) rfl)) (ty := .int) (by decide) rfl rfl (g := (mkF m 34 #[.val (.ref a), .val (.int f), .val (.int y), .val (.int (1 : Int32))] [(.int (4 : Int32)), (.ref a)])) rfl rfl (hb hby d12_34)
      have N65 := Fr.snoc X65 N63 g_a
      replace Kh := Kh.wr W65 (Or.inl (List.mem_of_getElem? (i := 0) rfl))
      replace F_words_a := Fld.other W65 F_words_a (Or.inr (slot_ne (Or.inl (hw _ (List.mem_of_getElem? (i := 11) rfl))) (Or.inl (hw _ (List.mem_of_getElem? (i := 33) rfl))) (by decide) (t := (.array .int)) (t' := .int) (by decide) (by decide)))
      replace F_localCount_a := Fld.other W65 F_localCount_a (Or.inr (slot_ne (Or.inl (hw _ (List.mem_of_getElem? (i := 25) rfl))) (Or.inl (hw _ (List.mem_of_getElem? (i := 33) rfl))) (by decide) (t := .int) (t' := .int) (by decide) (by decide)))
      replace F_maxStack_a := Fld.other W65 F_maxStack_a (Or.inr (slot_ne (Or.inl (hw _ (List.mem_of_getElem? (i := 27) rfl))) (Or.inl (hw _ (List.mem_of_getElem? (i := 33) rfl))) (by decide) (t := .int) (t' := .int) (by decide) (by decide)))
      replace F_top_a := Fld.other W65 F_top_a (Or.inr (slot_ne (Or.inl (hw _ (List.mem_of_getElem? (i := 29) rfl))) (Or.inl (hw _ (List.mem_of_getElem? (i := 33) rfl))) (by decide) (t := .int) (t' := .int) (by decide) (by decide)))
      replace F_thisUninitialized_a := Fld.other W65 F_thisUninitialized_a (Or.inr (slot_ne (Or.inl (hw _ (List.mem_of_getElem? (i := 31) rfl))) (Or.inl (hw _ (List.mem_of_getElem? (i := 33) rfl))) (by decide) (t := .boolean) (t' := .int) (by decide) (by decide)))
      replace F_localsVersion_a := Fld.same W65 F_localsVersion_a
      replace E_a := Exa.wr W65 E_a
      replace V_w_63 := Arv.other V_w_63 W65 (Ne.symm ne_a_w)
      refine own_go (st65) ?_
      show own_R p e below _ T65 (mkF m 37 #[.val (.ref a), .val (.int f), .val (.int y), .val (.int (1 : Int32))] [])
      refine own_go (fun t k => XS.iinc X65.here hx rfl (hb hby d12_37) rfl (l' := #[.val (.ref a), .val (.int f), .val (.int y), .val (.int (2 : Int32))]) rfl k) ?_
      show own_R p e below _ T65 (mkF m 40 #[.val (.ref a), .val (.int f), .val (.int y), .val (.int (2 : Int32))] [])
      refine own_go (fun t k => XS.goto X65.here hx rfl (pc0 := 40) (pc' := 2) rfl (hb hby d12_40) (by decide) (by decide) k) ?_
      show own_R p e below _ T65 (mkF m 2 #[.val (.ref a), .val (.int f), .val (.int y), .val (.int (2 : Int32))] [])
      refine own_go (fun t k => XS.iloadN X65.here hx rfl (hb hby d12_2) rfl  k) ?_
      show own_R p e below _ T65 (mkF m 3 #[.val (.ref a), .val (.int f), .val (.int y), .val (.int (2 : Int32))] [(.int (2 : Int32))])
      refine own_go (fun t k => XS.aloadN X65.here hx rfl (hb hby d12_3) rfl rfl  k) ?_
      show own_R p e below _ T65 (mkF m 4 #[.val (.ref a), .val (.int f), .val (.int y), .val (.int (2 : Int32))] [(.ref a), (.int (2 : Int32))])
      obtain ⟨T66, X66, e66, st66⟩ := getF X65 hx hZ hown (host := "") (Or.inl (hw _ (List.mem_of_getElem? (i := 28) rfl))) Via.refl e65 F_top_a (g := (mkF m 4 #[.val (.ref a), .val (.int f), .val (.int y), .val (.int (2 : Int32))] [(.ref a), (.int (2 : Int32))])) rfl rfl (hb hby d12_4)
      refine own_go (st66) ?_
      show own_R p e below _ T66 (mkF m 7 #[.val (.ref a), .val (.int f), .val (.int y), .val (.int (2 : Int32))] [(.int (3 : Int32)), (.int (2 : Int32))])
      refine own_go (fun t k => XS.icmpNo X66.here hx rfl (hb hby d12_7) rfl (tlt (by decide : (2 : Int32) < (3 : Int32))).2.1 k) ?_
      show own_R p e below _ T66 (mkF m 10 #[.val (.ref a), .val (.int f), .val (.int y), .val (.int (2 : Int32))] [])
      refine own_go (fun t k => XS.aloadN X66.here hx rfl (hb hby d12_10) rfl rfl  k) ?_
      show own_R p e below _ T66 (mkF m 11 #[.val (.ref a), .val (.int f), .val (.int y), .val (.int (2 : Int32))] [(.ref a)])
      obtain ⟨T67, X67, e67, st67⟩ := getF X66 hx hZ hown (host := "") (Or.inl (hw _ (List.mem_of_getElem? (i := 10) rfl))) Via.refl e66 F_words_a (g := (mkF m 11 #[.val (.ref a), .val (.int f), .val (.int y), .val (.int (2 : Int32))] [(.ref a)])) rfl rfl (hb hby d12_11)
      refine own_go (st67) ?_
      show own_R p e below _ T67 (mkF m 14 #[.val (.ref a), .val (.int f), .val (.int y), .val (.int (2 : Int32))] [(.ref w)])
      refine own_go (fun t k => XS.iloadN X67.here hx rfl (hb hby d12_14) rfl  k) ?_
      show own_R p e below _ T67 (mkF m 15 #[.val (.ref a), .val (.int f), .val (.int y), .val (.int (2 : Int32))] [(.int (2 : Int32)), (.ref w)])
      obtain ⟨cl68, Ar68, q68, S68, Nn68, Hh68, G68⟩ := id V_w_63
      have hin68 : ¬ ((2 : Int32) < 0 ∨ cl68.slots.size ≤ ((2 : Int32)).toNatClampNeg) := inb_of S68 ⟨by decide, by decide⟩
      have hat68 : cl68.slots[((2 : Int32)).toNatClampNeg]? = some (.int x2) := Has.at Hh68 hin68 rfl
      refine own_go (X67.iaload hx (j := (2 : Int32)) (v := (.int x2)) (by rw [e67]; exact Ar68.1) (State.isArrayOf_alike hZ.alike Ar68.2.1) Ar68.2.2 hin68 hat68 (g := (mkF m 15 #[.val (.ref a), .val (.int f), .val (.int y), .val (.int (2 : Int32))] [(.int (2 : Int32)), (.ref w)])) rfl rfl (hb hby d12_15)) ?_
      show own_R p e below _ T67 (mkF m 16 #[.val (.ref a), .val (.int f), .val (.int y), .val (.int (2 : Int32))] [(.int x2)])
      refine own_go (fun t k => XS.iloadN X67.here hx rfl (hb hby d12_16) rfl  k) ?_
      show own_R p e below _ T67 (mkF m 17 #[.val (.ref a), .val (.int f), .val (.int y), .val (.int (2 : Int32))] [(.int f), (.int x2)])
      by_cases hc17_69 : x2 = f
      · -- pc 17: yes
        refine own_go (fun t k => XS.icmpNo X67.here hx rfl (hb hby d12_17) rfl (teq hc17_69).2 k) ?_
        show own_R p e below _ T67 (mkF m 20 #[.val (.ref a), .val (.int f), .val (.int y), .val (.int (2 : Int32))] [])
        refine own_go (fun t k => XS.aloadN X67.here hx rfl (hb hby d12_20) rfl rfl  k) ?_
        show own_R p e below _ T67 (mkF m 21 #[.val (.ref a), .val (.int f), .val (.int y), .val (.int (2 : Int32))] [(.ref a)])
        obtain ⟨T70, X70, e70, st70⟩ := getF X67 hx hZ hown (host := "") (Or.inl (hw _ (List.mem_of_getElem? (i := 10) rfl))) Via.refl e67 F_words_a (g := (mkF m 21 #[.val (.ref a), .val (.int f), .val (.int y), .val (.int (2 : Int32))] [(.ref a)])) rfl rfl (hb hby d12_21)
        refine own_go (st70) ?_
        show own_R p e below _ T70 (mkF m 24 #[.val (.ref a), .val (.int f), .val (.int y), .val (.int (2 : Int32))] [(.ref w)])
        refine own_go (fun t k => XS.iloadN X70.here hx rfl (hb hby d12_24) rfl  k) ?_
        show own_R p e below _ T70 (mkF m 25 #[.val (.ref a), .val (.int f), .val (.int y), .val (.int (2 : Int32))] [(.int (2 : Int32)), (.ref w)])
        refine own_go (fun t k => XS.iloadN X70.here hx rfl (hb hby d12_25) rfl  k) ?_
        show own_R p e below _ T70 (mkF m 26 #[.val (.ref a), .val (.int f), .val (.int y), .val (.int (2 : Int32))] [(.int y), (.int (2 : Int32)), (.ref w)])
        obtain ⟨cl71, Ar71, q71, S71, Nn71, Hh71, G71⟩ := id V_w_63
        have hin71 : ¬ ((2 : Int32) < 0 ∨ cl71.slots.size ≤ ((2 : Int32)).toNatClampNeg) := inb_of S71 ⟨by decide, by decide⟩
        obtain ⟨T72, h72, X72, e72, W72, st72⟩ := stI X70 hx hZ e70 Ar71 (j := (2 : Int32)) hin71 (g := (mkF m 26 #[.val (.ref a), .val (.int f), .val (.int y), .val (.int (2 : Int32))] [(.int y), (.int (2 : Int32)), (.ref w)])) rfl rfl (hb hby d12_26)
        have N72 := Fr.snoc X72 N65 g_w
        replace Kh := Kh.wr W72 (Or.inl (List.mem_of_getElem? (i := 1) rfl))
        replace F_words_a := Fld.other W72 F_words_a (Or.inl ne_a_w)
        replace F_localCount_a := Fld.other W72 F_localCount_a (Or.inl ne_a_w)
        replace F_maxStack_a := Fld.other W72 F_maxStack_a (Or.inl ne_a_w)
        replace F_top_a := Fld.other W72 F_top_a (Or.inl ne_a_w)
        replace F_thisUninitialized_a := Fld.other W72 F_thisUninitialized_a (Or.inl ne_a_w)
        replace F_localsVersion_a := Fld.other W72 F_localsVersion_a (Or.inl ne_a_w)
        replace E_a := Exa.wr W72 E_a
        have V_w_72 : Arv Z h72 w kw .int (3 : Int32) [(.int x0), (.int y), (.int y)] (.int (0 : Int32)) := Arv.set Ar71 q71 S71 Nn71 Hh71 G71 rfl W72 2 rfl (Nat.le_of_ble_eq_true rfl)
        refine own_go (st72) ?_
        show own_R p e below _ T72 (mkF m 27 #[.val (.ref a), .val (.int f), .val (.int y), .val (.int (2 : Int32))] [])
        refine own_go (fun t k => XS.aloadN X72.here hx rfl (hb hby d12_27) rfl rfl  k) ?_
        show own_R p e below _ T72 (mkF m 28 #[.val (.ref a), .val (.int f), .val (.int y), .val (.int (2 : Int32))] [(.ref a)])
        refine own_go (fun t k => XS.dup X72.here hx rfl (hb hby d12_28) rfl rfl k) ?_
        show own_R p e below _ T72 (mkF m 29 #[.val (.ref a), .val (.int f), .val (.int y), .val (.int (2 : Int32))] [(.ref a), (.ref a)])
        obtain ⟨T73, X73, e73, st73⟩ := getF X72 hx hZ hown (host := "") (Or.inl (hw _ (List.mem_of_getElem? (i := 32) rfl))) Via.refl e72 F_localsVersion_a (g := (mkF m 29 #[.val (.ref a), .val (.int f), .val (.int y), .val (.int (2 : Int32))] [(.ref a), (.ref a)])) rfl rfl (hb hby d12_29)
        refine own_go (st73) ?_
        show own_R p e below _ T73 (mkF m 32 #[.val (.ref a), .val (.int f), .val (.int y), .val (.int (2 : Int32))] [(.int (4 : Int32)), (.ref a)])
        refine own_go (fun t k => XS.iconst X73.here hx rfl (hb hby d12_32) k) ?_
        show own_R p e below _ T73 (mkF m 33 #[.val (.ref a), .val (.int f), .val (.int y), .val (.int (2 : Int32))] [(.int (1 : Int32)), (.int (4 : Int32)), (.ref a)])
        refine own_go (fun t k => XS.iadd X73.here hx rfl (hb hby d12_33) rfl k) ?_
        show own_R p e below _ T73 (mkF m 34 #[.val (.ref a), .val (.int f), .val (.int y), .val (.int (2 : Int32))] [(.int (5 : Int32)), (.ref a)])
        obtain ⟨T74, h74, X74, e74, W74, st74⟩ := putF X73 hx hZ hown (host := "") (Or.inl (hw _ (List.mem_of_getElem? (i := 32) rfl))) Via.refl e73 F_localsVersion_a E_a (Or.inl (hw _ (List.mem_of_getElem? (i := 33) rfl))) (hw _ (List.mem_of_getElem? (i := 1) rfl)) (ty := .int) (by decide) rfl rfl (g := (mkF m 34 #[.val (.ref a), .val (.int f), .val (.int y), .val (.int (2 : Int32))] [(.int (5 : Int32)), (.ref a)])) rfl rfl (hb hby d12_34)
        have N74 := Fr.snoc X74 N72 g_a
        replace Kh := Kh.wr W74 (Or.inl (List.mem_of_getElem? (i := 0) rfl))
        replace F_words_a := Fld.other W74 F_words_a (Or.inr (slot_ne (Or.inl (hw _ (List.mem_of_getElem? (i := 11) rfl))) (Or.inl (hw _ (List.mem_of_getElem? (i := 33) rfl))) (by decide) (t := (.array .int)) (t' := .int) (by decide) (by decide)))
        replace F_localCount_a := Fld.other W74 F_localCount_a (Or.inr (slot_ne (Or.inl (hw _ (List.mem_of_getElem? (i := 25) rfl))) (Or.inl (hw _ (List.mem_of_getElem? (i := 33) rfl))) (by decide) (t := .int) (t' := .int) (by decide) (by decide)))
        replace F_maxStack_a := Fld.other W74 F_maxStack_a (Or.inr (slot_ne (Or.inl (hw _ (List.mem_of_getElem? (i := 27) rfl))) (Or.inl (hw _ (List.mem_of_getElem? (i := 33) rfl))) (by decide) (t := .int) (t' := .int) (by decide) (by decide)))
        replace F_top_a := Fld.other W74 F_top_a (Or.inr (slot_ne (Or.inl (hw _ (List.mem_of_getElem? (i := 29) rfl))) (Or.inl (hw _ (List.mem_of_getElem? (i := 33) rfl))) (by decide) (t := .int) (t' := .int) (by decide) (by decide)))
        replace F_thisUninitialized_a := Fld.other W74 F_thisUninitialized_a (Or.inr (slot_ne (Or.inl (hw _ (List.mem_of_getElem? (i := 31) rfl))) (Or.inl (hw _ (List.mem_of_getElem? (i := 33) rfl))) (by decide) (t := .boolean) (t' := .int) (by decide) (by decide)))
        replace F_localsVersion_a := Fld.same W74 F_localsVersion_a
        replace E_a := Exa.wr W74 E_a
        replace V_w_72 := Arv.other V_w_72 W74 (Ne.symm ne_a_w)
        refine own_go (st74) ?_
        show own_R p e below _ T74 (mkF m 37 #[.val (.ref a), .val (.int f), .val (.int y), .val (.int (2 : Int32))] [])
        refine own_go (fun t k => XS.iinc X74.here hx rfl (hb hby d12_37) rfl (l' := #[.val (.ref a), .val (.int f), .val (.int y), .val (.int (3 : Int32))]) rfl k) ?_
        show own_R p e below _ T74 (mkF m 40 #[.val (.ref a), .val (.int f), .val (.int y), .val (.int (3 : Int32))] [])
        refine own_go (fun t k => XS.goto X74.here hx rfl (pc0 := 40) (pc' := 2) rfl (hb hby d12_40) (by decide) (by decide) k) ?_
        show own_R p e below _ T74 (mkF m 2 #[.val (.ref a), .val (.int f), .val (.int y), .val (.int (3 : Int32))] [])
        refine own_go (fun t k => XS.iloadN X74.here hx rfl (hb hby d12_2) rfl  k) ?_
        show own_R p e below _ T74 (mkF m 3 #[.val (.ref a), .val (.int f), .val (.int y), .val (.int (3 : Int32))] [(.int (3 : Int32))])
        refine own_go (fun t k => XS.aloadN X74.here hx rfl (hb hby d12_3) rfl rfl  k) ?_
        show own_R p e below _ T74 (mkF m 4 #[.val (.ref a), .val (.int f), .val (.int y), .val (.int (3 : Int32))] [(.ref a), (.int (3 : Int32))])
        obtain ⟨T75, X75, e75, st75⟩ := getF X74 hx hZ hown (host := "") (Or.inl (hw _ (List.mem_of_getElem? (i := 28) rfl))) Via.refl e74 F_top_a (g := (mkF m 4 #[.val (.ref a), .val (.int f), .val (.int y), .val (.int (3 : Int32))] [(.ref a), (.int (3 : Int32))])) rfl rfl (hb hby d12_4)
        refine own_go (st75) ?_
        show own_R p e below _ T75 (mkF m 7 #[.val (.ref a), .val (.int f), .val (.int y), .val (.int (3 : Int32))] [(.int (3 : Int32)), (.int (3 : Int32))])
        refine own_go (fun t k => XS.icmpYes X75.here hx rfl (pc0 := 7) (pc' := 43) rfl (hb hby d12_7) rfl (flt (by decide : ¬ ((3 : Int32) < (3 : Int32)))).2.1 (by decide) (by decide) k) ?_
        show own_R p e below _ T75 (mkF m 43 #[.val (.ref a), .val (.int f), .val (.int y), .val (.int (3 : Int32))] [])
        refine own_retV X75 hx Bd.returns (BodyLoose.notSynchronized Bd) (hb hby d12_43) (by decide) (by decide) ?_
        rw [e75]
        have hv76 : ((((3 : Int32) + (if x0 = f then (1 : Int32) else (0 : Int32))) + (if x1 = f then (1 : Int32) else (0 : Int32))) + (if x2 = f then (1 : Int32) else (0 : Int32))) = (5 : Int32) := by first | rfl | (simp only [if_neg hc17_4, if_pos hc17_60, if_pos hc17_69]; done) | (simp only [if_neg hc17_4, if_pos hc17_60, if_pos hc17_69]; rfl)
        have hv77 : (if x0 = f then y else x0) = x0 := by first | rfl | (simp only [if_neg hc17_4, if_pos hc17_60, if_pos hc17_69]; done) | (simp only [if_neg hc17_4, if_pos hc17_60, if_pos hc17_69]; rfl)
        have hv78 : (if x1 = f then y else x1) = y := by first | rfl | (simp only [if_neg hc17_4, if_pos hc17_60, if_pos hc17_69]; done) | (simp only [if_neg hc17_4, if_pos hc17_60, if_pos hc17_69]; rfl)
        have hv79 : (if x2 = f then y else x2) = y := by first | rfl | (simp only [if_neg hc17_4, if_pos hc17_60, if_pos hc17_69]; done) | (simp only [if_neg hc17_4, if_pos hc17_60, if_pos hc17_69]; rfl)
        exact ⟨rfl, N74, Kh, E_a, F_words_a, F_localCount_a, F_maxStack_a, F_top_a, F_thisUninitialized_a, (by rw [hv76]; exact F_localsVersion_a), (by rw [hv77, hv78, hv79]; exact V_w_72)⟩
      · -- pc 17: no
        refine own_go (fun t k => XS.icmpYes X67.here hx rfl (pc0 := 17) (pc' := 37) rfl (hb hby d12_17) rfl (feq hc17_69).2 (by decide) (by decide) k) ?_
        show own_R p e below _ T67 (mkF m 37 #[.val (.ref a), .val (.int f), .val (.int y), .val (.int (2 : Int32))] [])
        refine own_go (fun t k => XS.iinc X67.here hx rfl (hb hby d12_37) rfl (l' := #[.val (.ref a), .val (.int f), .val (.int y), .val (.int (3 : Int32))]) rfl k) ?_
        show own_R p e below _ T67 (mkF m 40 #[.val (.ref a), .val (.int f), .val (.int y), .val (.int (3 : Int32))] [])
        refine own_go (fun t k => XS.goto X67.here hx rfl (pc0 := 40) (pc' := 2) rfl (hb hby d12_40) (by decide) (by decide) k) ?_
        show own_R p e below _ T67 (mkF m 2 #[.val (.ref a), .val (.int f), .val (.int y), .val (.int (3 : Int32))] [])
        refine own_go (fun t k => XS.iloadN X67.here hx rfl (hb hby d12_2) rfl  k) ?_
        show own_R p e below _ T67 (mkF m 3 #[.val (.ref a), .val (.int f), .val (.int y), .val (.int (3 : Int32))] [(.int (3 : Int32))])
        refine own_go (fun t k => XS.aloadN X67.here hx rfl (hb hby d12_3) rfl rfl  k) ?_
        show own_R p e below _ T67 (mkF m 4 #[.val (.ref a), .val (.int f), .val (.int y), .val (.int (3 : Int32))] [(.ref a), (.int (3 : Int32))])
        obtain ⟨T80, X80, e80, st80⟩ := getF X67 hx hZ hown (host := "") (Or.inl (hw _ (List.mem_of_getElem? (i := 28) rfl))) Via.refl e67 F_top_a (g := (mkF m 4 #[.val (.ref a), .val (.int f), .val (.int y), .val (.int (3 : Int32))] [(.ref a), (.int (3 : Int32))])) rfl rfl (hb hby d12_4)
        refine own_go (st80) ?_
        show own_R p e below _ T80 (mkF m 7 #[.val (.ref a), .val (.int f), .val (.int y), .val (.int (3 : Int32))] [(.int (3 : Int32)), (.int (3 : Int32))])
        refine own_go (fun t k => XS.icmpYes X80.here hx rfl (pc0 := 7) (pc' := 43) rfl (hb hby d12_7) rfl (flt (by decide : ¬ ((3 : Int32) < (3 : Int32)))).2.1 (by decide) (by decide) k) ?_
        show own_R p e below _ T80 (mkF m 43 #[.val (.ref a), .val (.int f), .val (.int y), .val (.int (3 : Int32))] [])
        refine own_retV X80 hx Bd.returns (BodyLoose.notSynchronized Bd) (hb hby d12_43) (by decide) (by decide) ?_
        rw [e80]
        have hv81 : ((((3 : Int32) + (if x0 = f then (1 : Int32) else (0 : Int32))) + (if x1 = f then (1 : Int32) else (0 : Int32))) + (if x2 = f then (1 : Int32) else (0 : Int32))) = (4 : Int32) := by first | rfl | (simp only [if_neg hc17_4, if_pos hc17_60, if_neg hc17_69]; done) | (simp only [if_neg hc17_4, if_pos hc17_60, if_neg hc17_69]; rfl)
        have hv82 : (if x0 = f then y else x0) = x0 := by first | rfl | (simp only [if_neg hc17_4, if_pos hc17_60, if_neg hc17_69]; done) | (simp only [if_neg hc17_4, if_pos hc17_60, if_neg hc17_69]; rfl)
        have hv83 : (if x1 = f then y else x1) = y := by first | rfl | (simp only [if_neg hc17_4, if_pos hc17_60, if_neg hc17_69]; done) | (simp only [if_neg hc17_4, if_pos hc17_60, if_neg hc17_69]; rfl)
        have hv84 : (if x2 = f then y else x2) = x2 := by first | rfl | (simp only [if_neg hc17_4, if_pos hc17_60, if_neg hc17_69]; done) | (simp only [if_neg hc17_4, if_pos hc17_60, if_neg hc17_69]; rfl)
        exact ⟨rfl, N65, Kh, E_a, F_words_a, F_localCount_a, F_maxStack_a, F_top_a, F_thisUninitialized_a, (by rw [hv81]; exact F_localsVersion_a), (by rw [hv82, hv83, hv84]; exact V_w_63)⟩
    · -- pc 17: no
      refine own_go (fun t k => XS.icmpYes X58.here hx rfl (pc0 := 17) (pc' := 37) rfl (hb hby d12_17) rfl (feq hc17_60).2 (by decide) (by decide) k) ?_
      show own_R p e below _ T58 (mkF m 37 #[.val (.ref a), .val (.int f), .val (.int y), .val (.int (1 : Int32))] [])
      refine own_go (fun t k => XS.iinc X58.here hx rfl (hb hby d12_37) rfl (l' := #[.val (.ref a), .val (.int f), .val (.int y), .val (.int (2 : Int32))]) rfl k) ?_
      show own_R p e below _ T58 (mkF m 40 #[.val (.ref a), .val (.int f), .val (.int y), .val (.int (2 : Int32))] [])
      refine own_go (fun t k => XS.goto X58.here hx rfl (pc0 := 40) (pc' := 2) rfl (hb hby d12_40) (by decide) (by decide) k) ?_
      show own_R p e below _ T58 (mkF m 2 #[.val (.ref a), .val (.int f), .val (.int y), .val (.int (2 : Int32))] [])
      refine own_go (fun t k => XS.iloadN X58.here hx rfl (hb hby d12_2) rfl  k) ?_
      show own_R p e below _ T58 (mkF m 3 #[.val (.ref a), .val (.int f), .val (.int y), .val (.int (2 : Int32))] [(.int (2 : Int32))])
      refine own_go (fun t k => XS.aloadN X58.here hx rfl (hb hby d12_3) rfl rfl  k) ?_
      show own_R p e below _ T58 (mkF m 4 #[.val (.ref a), .val (.int f), .val (.int y), .val (.int (2 : Int32))] [(.ref a), (.int (2 : Int32))])
      obtain ⟨T85, X85, e85, st85⟩ := getF X58 hx hZ hown (host := "") (Or.inl (hw _ (List.mem_of_getElem? (i := 28) rfl))) Via.refl e58 F_top_a (g := (mkF m 4 #[.val (.ref a), .val (.int f), .val (.int y), .val (.int (2 : Int32))] [(.ref a), (.int (2 : Int32))])) rfl rfl (hb hby d12_4)
      refine own_go (st85) ?_
      show own_R p e below _ T85 (mkF m 7 #[.val (.ref a), .val (.int f), .val (.int y), .val (.int (2 : Int32))] [(.int (3 : Int32)), (.int (2 : Int32))])
      refine own_go (fun t k => XS.icmpNo X85.here hx rfl (hb hby d12_7) rfl (tlt (by decide : (2 : Int32) < (3 : Int32))).2.1 k) ?_
      show own_R p e below _ T85 (mkF m 10 #[.val (.ref a), .val (.int f), .val (.int y), .val (.int (2 : Int32))] [])
      refine own_go (fun t k => XS.aloadN X85.here hx rfl (hb hby d12_10) rfl rfl  k) ?_
      show own_R p e below _ T85 (mkF m 11 #[.val (.ref a), .val (.int f), .val (.int y), .val (.int (2 : Int32))] [(.ref a)])
      obtain ⟨T86, X86, e86, st86⟩ := getF X85 hx hZ hown (host := "") (Or.inl (hw _ (List.mem_of_getElem? (i := 10) rfl))) Via.refl e85 F_words_a (g := (mkF m 11 #[.val (.ref a), .val (.int f), .val (.int y), .val (.int (2 : Int32))] [(.ref a)])) rfl rfl (hb hby d12_11)
      refine own_go (st86) ?_
      show own_R p e below _ T86 (mkF m 14 #[.val (.ref a), .val (.int f), .val (.int y), .val (.int (2 : Int32))] [(.ref w)])
      refine own_go (fun t k => XS.iloadN X86.here hx rfl (hb hby d12_14) rfl  k) ?_
      show own_R p e below _ T86 (mkF m 15 #[.val (.ref a), .val (.int f), .val (.int y), .val (.int (2 : Int32))] [(.int (2 : Int32)), (.ref w)])
      obtain ⟨cl87, Ar87, q87, S87, Nn87, Hh87, G87⟩ := id V_w
      have hin87 : ¬ ((2 : Int32) < 0 ∨ cl87.slots.size ≤ ((2 : Int32)).toNatClampNeg) := inb_of S87 ⟨by decide, by decide⟩
      have hat87 : cl87.slots[((2 : Int32)).toNatClampNeg]? = some (.int x2) := Has.at Hh87 hin87 rfl
      refine own_go (X86.iaload hx (j := (2 : Int32)) (v := (.int x2)) (by rw [e86]; exact Ar87.1) (State.isArrayOf_alike hZ.alike Ar87.2.1) Ar87.2.2 hin87 hat87 (g := (mkF m 15 #[.val (.ref a), .val (.int f), .val (.int y), .val (.int (2 : Int32))] [(.int (2 : Int32)), (.ref w)])) rfl rfl (hb hby d12_15)) ?_
      show own_R p e below _ T86 (mkF m 16 #[.val (.ref a), .val (.int f), .val (.int y), .val (.int (2 : Int32))] [(.int x2)])
      refine own_go (fun t k => XS.iloadN X86.here hx rfl (hb hby d12_16) rfl  k) ?_
      show own_R p e below _ T86 (mkF m 17 #[.val (.ref a), .val (.int f), .val (.int y), .val (.int (2 : Int32))] [(.int f), (.int x2)])
      by_cases hc17_88 : x2 = f
      · -- pc 17: yes
        refine own_go (fun t k => XS.icmpNo X86.here hx rfl (hb hby d12_17) rfl (teq hc17_88).2 k) ?_
        show own_R p e below _ T86 (mkF m 20 #[.val (.ref a), .val (.int f), .val (.int y), .val (.int (2 : Int32))] [])
        refine own_go (fun t k => XS.aloadN X86.here hx rfl (hb hby d12_20) rfl rfl  k) ?_
        show own_R p e below _ T86 (mkF m 21 #[.val (.ref a), .val (.int f), .val (.int y), .val (.int (2 : Int32))] [(.ref a)])
        obtain ⟨T89, X89, e89, st89⟩ := getF X86 hx hZ hown (host := "") (Or.inl (hw _ (List.mem_of_getElem? (i := 10) rfl))) Via.refl e86 F_words_a (g := (mkF m 21 #[.val (.ref a), .val (.int f), .val (.int y), .val (.int (2 : Int32))] [(.ref a)])) rfl rfl (hb hby d12_21)
        refine own_go (st89) ?_
        show own_R p e below _ T89 (mkF m 24 #[.val (.ref a), .val (.int f), .val (.int y), .val (.int (2 : Int32))] [(.ref w)])
        refine own_go (fun t k => XS.iloadN X89.here hx rfl (hb hby d12_24) rfl  k) ?_
        show own_R p e below _ T89 (mkF m 25 #[.val (.ref a), .val (.int f), .val (.int y), .val (.int (2 : Int32))] [(.int (2 : Int32)), (.ref w)])
        refine own_go (fun t k => XS.iloadN X89.here hx rfl (hb hby d12_25) rfl  k) ?_
        show own_R p e below _ T89 (mkF m 26 #[.val (.ref a), .val (.int f), .val (.int y), .val (.int (2 : Int32))] [(.int y), (.int (2 : Int32)), (.ref w)])
        obtain ⟨cl90, Ar90, q90, S90, Nn90, Hh90, G90⟩ := id V_w
        have hin90 : ¬ ((2 : Int32) < 0 ∨ cl90.slots.size ≤ ((2 : Int32)).toNatClampNeg) := inb_of S90 ⟨by decide, by decide⟩
        obtain ⟨T91, h91, X91, e91, W91, st91⟩ := stI X89 hx hZ e89 Ar90 (j := (2 : Int32)) hin90 (g := (mkF m 26 #[.val (.ref a), .val (.int f), .val (.int y), .val (.int (2 : Int32))] [(.int y), (.int (2 : Int32)), (.ref w)])) rfl rfl (hb hby d12_26)
        have N91 := Fr.snoc X91 N0 g_w
        replace Kh := Kh.wr W91 (Or.inl (List.mem_of_getElem? (i := 1) rfl))
        replace F_words_a := Fld.other W91 F_words_a (Or.inl ne_a_w)
        replace F_localCount_a := Fld.other W91 F_localCount_a (Or.inl ne_a_w)
        replace F_maxStack_a := Fld.other W91 F_maxStack_a (Or.inl ne_a_w)
        replace F_top_a := Fld.other W91 F_top_a (Or.inl ne_a_w)
        replace F_thisUninitialized_a := Fld.other W91 F_thisUninitialized_a (Or.inl ne_a_w)
        replace F_localsVersion_a := Fld.other W91 F_localsVersion_a (Or.inl ne_a_w)
        replace E_a := Exa.wr W91 E_a
        have V_w_91 : Arv Z h91 w kw .int (3 : Int32) [(.int x0), (.int x1), (.int y)] (.int (0 : Int32)) := Arv.set Ar90 q90 S90 Nn90 Hh90 G90 rfl W91 2 rfl (Nat.le_of_ble_eq_true rfl)
        refine own_go (st91) ?_
        show own_R p e below _ T91 (mkF m 27 #[.val (.ref a), .val (.int f), .val (.int y), .val (.int (2 : Int32))] [])
        refine own_go (fun t k => XS.aloadN X91.here hx rfl (hb hby d12_27) rfl rfl  k) ?_
        show own_R p e below _ T91 (mkF m 28 #[.val (.ref a), .val (.int f), .val (.int y), .val (.int (2 : Int32))] [(.ref a)])
        refine own_go (fun t k => XS.dup X91.here hx rfl (hb hby d12_28) rfl rfl k) ?_
        show own_R p e below _ T91 (mkF m 29 #[.val (.ref a), .val (.int f), .val (.int y), .val (.int (2 : Int32))] [(.ref a), (.ref a)])
        obtain ⟨T92, X92, e92, st92⟩ := getF X91 hx hZ hown (host := "") (Or.inl (hw _ (List.mem_of_getElem? (i := 32) rfl))) Via.refl e91 F_localsVersion_a (g := (mkF m 29 #[.val (.ref a), .val (.int f), .val (.int y), .val (.int (2 : Int32))] [(.ref a), (.ref a)])) rfl rfl (hb hby d12_29)
        refine own_go (st92) ?_
        show own_R p e below _ T92 (mkF m 32 #[.val (.ref a), .val (.int f), .val (.int y), .val (.int (2 : Int32))] [(.int (3 : Int32)), (.ref a)])
        refine own_go (fun t k => XS.iconst X92.here hx rfl (hb hby d12_32) k) ?_
        show own_R p e below _ T92 (mkF m 33 #[.val (.ref a), .val (.int f), .val (.int y), .val (.int (2 : Int32))] [(.int (1 : Int32)), (.int (3 : Int32)), (.ref a)])
        refine own_go (fun t k => XS.iadd X92.here hx rfl (hb hby d12_33) rfl k) ?_
        show own_R p e below _ T92 (mkF m 34 #[.val (.ref a), .val (.int f), .val (.int y), .val (.int (2 : Int32))] [(.int (4 : Int32)), (.ref a)])
        obtain ⟨T93, h93, X93, e93, W93, st93⟩ := putF X92 hx hZ hown (host := "") (Or.inl (hw _ (List.mem_of_getElem? (i := 32) rfl))) Via.refl e92 F_localsVersion_a E_a (Or.inl (hw _ (List.mem_of_getElem? (i := 33) rfl))) (hw _ (List.mem_of_getElem? (i := 1) rfl)) (ty := .int) (by decide) rfl rfl (g := (mkF m 34 #[.val (.ref a), .val (.int f), .val (.int y), .val (.int (2 : Int32))] [(.int (4 : Int32)), (.ref a)])) rfl rfl (hb hby d12_34)
        have N93 := Fr.snoc X93 N91 g_a
        replace Kh := Kh.wr W93 (Or.inl (List.mem_of_getElem? (i := 0) rfl))
        replace F_words_a := Fld.other W93 F_words_a (Or.inr (slot_ne (Or.inl (hw _ (List.mem_of_getElem? (i := 11) rfl))) (Or.inl (hw _ (List.mem_of_getElem? (i := 33) rfl))) (by decide) (t := (.array .int)) (t' := .int) (by decide) (by decide)))
        replace F_localCount_a := Fld.other W93 F_localCount_a (Or.inr (slot_ne (Or.inl (hw _ (List.mem_of_getElem? (i := 25) rfl))) (Or.inl (hw _ (List.mem_of_getElem? (i := 33) rfl))) (by decide) (t := .int) (t' := .int) (by decide) (by decide)))
        replace F_maxStack_a := Fld.other W93 F_maxStack_a (Or.inr (slot_ne (Or.inl (hw _ (List.mem_of_getElem? (i := 27) rfl))) (Or.inl (hw _ (List.mem_of_getElem? (i := 33) rfl))) (by decide) (t := .int) (t' := .int) (by decide) (by decide)))
        replace F_top_a := Fld.other W93 F_top_a (Or.inr (slot_ne (Or.inl (hw _ (List.mem_of_getElem? (i := 29) rfl))) (Or.inl (hw _ (List.mem_of_getElem? (i := 33) rfl))) (by decide) (t := .int) (t' := .int) (by decide) (by decide)))
        replace F_thisUninitialized_a := Fld.other W93 F_thisUninitialized_a (Or.inr (slot_ne (Or.inl (hw _ (List.mem_of_getElem? (i := 31) rfl))) (Or.inl (hw _ (List.mem_of_getElem? (i := 33) rfl))) (by decide) (t := .boolean) (t' := .int) (by decide) (by decide)))
        replace F_localsVersion_a := Fld.same W93 F_localsVersion_a
        replace E_a := Exa.wr W93 E_a
        replace V_w_91 := Arv.other V_w_91 W93 (Ne.symm ne_a_w)
        refine own_go (st93) ?_
        show own_R p e below _ T93 (mkF m 37 #[.val (.ref a), .val (.int f), .val (.int y), .val (.int (2 : Int32))] [])
        refine own_go (fun t k => XS.iinc X93.here hx rfl (hb hby d12_37) rfl (l' := #[.val (.ref a), .val (.int f), .val (.int y), .val (.int (3 : Int32))]) rfl k) ?_
        show own_R p e below _ T93 (mkF m 40 #[.val (.ref a), .val (.int f), .val (.int y), .val (.int (3 : Int32))] [])
        refine own_go (fun t k => XS.goto X93.here hx rfl (pc0 := 40) (pc' := 2) rfl (hb hby d12_40) (by decide) (by decide) k) ?_
        show own_R p e below _ T93 (mkF m 2 #[.val (.ref a), .val (.int f), .val (.int y), .val (.int (3 : Int32))] [])
        refine own_go (fun t k => XS.iloadN X93.here hx rfl (hb hby d12_2) rfl  k) ?_
        show own_R p e below _ T93 (mkF m 3 #[.val (.ref a), .val (.int f), .val (.int y), .val (.int (3 : Int32))] [(.int (3 : Int32))])
        refine own_go (fun t k => XS.aloadN X93.here hx rfl (hb hby d12_3) rfl rfl  k) ?_
        show own_R p e below _ T93 (mkF m 4 #[.val (.ref a), .val (.int f), .val (.int y), .val (.int (3 : Int32))] [(.ref a), (.int (3 : Int32))])
        obtain ⟨T94, X94, e94, st94⟩ := getF X93 hx hZ hown (host := "") (Or.inl (hw _ (List.mem_of_getElem? (i := 28) rfl))) Via.refl e93 F_top_a (g := (mkF m 4 #[.val (.ref a), .val (.int f), .val (.int y), .val (.int (3 : Int32))] [(.ref a), (.int (3 : Int32))])) rfl rfl (hb hby d12_4)
        refine own_go (st94) ?_
        show own_R p e below _ T94 (mkF m 7 #[.val (.ref a), .val (.int f), .val (.int y), .val (.int (3 : Int32))] [(.int (3 : Int32)), (.int (3 : Int32))])
        refine own_go (fun t k => XS.icmpYes X94.here hx rfl (pc0 := 7) (pc' := 43) rfl (hb hby d12_7) rfl (flt (by decide : ¬ ((3 : Int32) < (3 : Int32)))).2.1 (by decide) (by decide) k) ?_
        show own_R p e below _ T94 (mkF m 43 #[.val (.ref a), .val (.int f), .val (.int y), .val (.int (3 : Int32))] [])
        refine own_retV X94 hx Bd.returns (BodyLoose.notSynchronized Bd) (hb hby d12_43) (by decide) (by decide) ?_
        rw [e94]
        have hv95 : ((((3 : Int32) + (if x0 = f then (1 : Int32) else (0 : Int32))) + (if x1 = f then (1 : Int32) else (0 : Int32))) + (if x2 = f then (1 : Int32) else (0 : Int32))) = (4 : Int32) := by first | rfl | (simp only [if_neg hc17_4, if_neg hc17_60, if_pos hc17_88]; done) | (simp only [if_neg hc17_4, if_neg hc17_60, if_pos hc17_88]; rfl)
        have hv96 : (if x0 = f then y else x0) = x0 := by first | rfl | (simp only [if_neg hc17_4, if_neg hc17_60, if_pos hc17_88]; done) | (simp only [if_neg hc17_4, if_neg hc17_60, if_pos hc17_88]; rfl)
        have hv97 : (if x1 = f then y else x1) = x1 := by first | rfl | (simp only [if_neg hc17_4, if_neg hc17_60, if_pos hc17_88]; done) | (simp only [if_neg hc17_4, if_neg hc17_60, if_pos hc17_88]; rfl)
        have hv98 : (if x2 = f then y else x2) = y := by first | rfl | (simp only [if_neg hc17_4, if_neg hc17_60, if_pos hc17_88]; done) | (simp only [if_neg hc17_4, if_neg hc17_60, if_pos hc17_88]; rfl)
        exact ⟨rfl, N93, Kh, E_a, F_words_a, F_localCount_a, F_maxStack_a, F_top_a, F_thisUninitialized_a, (by rw [hv95]; exact F_localsVersion_a), (by rw [hv96, hv97, hv98]; exact V_w_91)⟩
      · -- pc 17: no
        refine own_go (fun t k => XS.icmpYes X86.here hx rfl (pc0 := 17) (pc' := 37) rfl (hb hby d12_17) rfl (feq hc17_88).2 (by decide) (by decide) k) ?_
        show own_R p e below _ T86 (mkF m 37 #[.val (.ref a), .val (.int f), .val (.int y), .val (.int (2 : Int32))] [])
        refine own_go (fun t k => XS.iinc X86.here hx rfl (hb hby d12_37) rfl (l' := #[.val (.ref a), .val (.int f), .val (.int y), .val (.int (3 : Int32))]) rfl k) ?_
        show own_R p e below _ T86 (mkF m 40 #[.val (.ref a), .val (.int f), .val (.int y), .val (.int (3 : Int32))] [])
        refine own_go (fun t k => XS.goto X86.here hx rfl (pc0 := 40) (pc' := 2) rfl (hb hby d12_40) (by decide) (by decide) k) ?_
        show own_R p e below _ T86 (mkF m 2 #[.val (.ref a), .val (.int f), .val (.int y), .val (.int (3 : Int32))] [])
        refine own_go (fun t k => XS.iloadN X86.here hx rfl (hb hby d12_2) rfl  k) ?_
        show own_R p e below _ T86 (mkF m 3 #[.val (.ref a), .val (.int f), .val (.int y), .val (.int (3 : Int32))] [(.int (3 : Int32))])
        refine own_go (fun t k => XS.aloadN X86.here hx rfl (hb hby d12_3) rfl rfl  k) ?_
        show own_R p e below _ T86 (mkF m 4 #[.val (.ref a), .val (.int f), .val (.int y), .val (.int (3 : Int32))] [(.ref a), (.int (3 : Int32))])
        obtain ⟨T99, X99, e99, st99⟩ := getF X86 hx hZ hown (host := "") (Or.inl (hw _ (List.mem_of_getElem? (i := 28) rfl))) Via.refl e86 F_top_a (g := (mkF m 4 #[.val (.ref a), .val (.int f), .val (.int y), .val (.int (3 : Int32))] [(.ref a), (.int (3 : Int32))])) rfl rfl (hb hby d12_4)
        refine own_go (st99) ?_
        show own_R p e below _ T99 (mkF m 7 #[.val (.ref a), .val (.int f), .val (.int y), .val (.int (3 : Int32))] [(.int (3 : Int32)), (.int (3 : Int32))])
        refine own_go (fun t k => XS.icmpYes X99.here hx rfl (pc0 := 7) (pc' := 43) rfl (hb hby d12_7) rfl (flt (by decide : ¬ ((3 : Int32) < (3 : Int32)))).2.1 (by decide) (by decide) k) ?_
        show own_R p e below _ T99 (mkF m 43 #[.val (.ref a), .val (.int f), .val (.int y), .val (.int (3 : Int32))] [])
        refine own_retV X99 hx Bd.returns (BodyLoose.notSynchronized Bd) (hb hby d12_43) (by decide) (by decide) ?_
        rw [e99]
        have hv100 : ((((3 : Int32) + (if x0 = f then (1 : Int32) else (0 : Int32))) + (if x1 = f then (1 : Int32) else (0 : Int32))) + (if x2 = f then (1 : Int32) else (0 : Int32))) = (3 : Int32) := by first | rfl | (simp only [if_neg hc17_4, if_neg hc17_60, if_neg hc17_88]; done) | (simp only [if_neg hc17_4, if_neg hc17_60, if_neg hc17_88]; rfl)
        have hv101 : (if x0 = f then y else x0) = x0 := by first | rfl | (simp only [if_neg hc17_4, if_neg hc17_60, if_neg hc17_88]; done) | (simp only [if_neg hc17_4, if_neg hc17_60, if_neg hc17_88]; rfl)
        have hv102 : (if x1 = f then y else x1) = x1 := by first | rfl | (simp only [if_neg hc17_4, if_neg hc17_60, if_neg hc17_88]; done) | (simp only [if_neg hc17_4, if_neg hc17_60, if_neg hc17_88]; rfl)
        have hv103 : (if x2 = f then y else x2) = x2 := by first | rfl | (simp only [if_neg hc17_4, if_neg hc17_60, if_neg hc17_88]; done) | (simp only [if_neg hc17_4, if_neg hc17_60, if_neg hc17_88]; rfl)
        exact ⟨rfl, N0, Kh, E_a, F_words_a, F_localCount_a, F_maxStack_a, F_top_a, F_thisUninitialized_a, (by rw [hv100]; exact F_localsVersion_a), (by rw [hv101, hv102, hv103]; exact V_w)⟩
theorem ef_ver_2 (m : MethodId) (x0 : Addr) : entryFrame m #[(.ref x0)] 1 = mkF m 0 #[.val (.ref x0)] [] := by first | (simp [entryFrame, mkF, argsToLocals, Value.category]; done) | rfl
def Qver_2 (Z : State) (a : Addr) (w : Addr) (kw : ClassId) (x0 : Int32) (x1 : Int32) (x2 : Int32) (vv : Int32) (h0 : Heap) (n0 : Nat) (v : Option Value) (h : Heap) (L : List Loc) : Prop := v = some (.int vv) ∧ Fr n0 L ∧ h = h0
set_option maxRecDepth 65536 in
set_option maxHeartbeats 40000000 in
theorem rmver_2 (l : Launch) (Z : State) (a0 : Array Value) (hw : ∀ d ∈ tables_1, d.before a0 Z = true) (ws : List Jvm.Cond) (a : Addr) (w : Addr) (kw : ClassId) (x0 : Int32) (x1 : Int32) (x2 : Int32) (vv : Int32) (h0 : Heap) (n0 : Nat) (Z0 : n0 ≤ h0.size) (F_words_a : Fld Z h0 a "com/example/signetry/signetry/card/WordFrame" "words" "[I" (.ref w)) (F_localCount_a : Fld Z h0 a "com/example/signetry/signetry/card/WordFrame" "localCount" "I" (.int (2 : Int32))) (F_maxStack_a : Fld Z h0 a "com/example/signetry/signetry/card/WordFrame" "maxStack" "I" (.int (1 : Int32))) (F_top_a : Fld Z h0 a "com/example/signetry/signetry/card/WordFrame" "top" "I" (.int (3 : Int32))) (F_thisUninitialized_a : Fld Z h0 a "com/example/signetry/signetry/card/WordFrame" "thisUninitialized" "Z" (.int (0 : Int32))) (F_localsVersion_a : Fld Z h0 a "com/example/signetry/signetry/card/WordFrame" "localsVersion" "I" (.int vv)) (E_a : Exa Z h0 a "com/example/signetry/signetry/card/WordFrame") (V_w : Arv Z h0 w kw .int (3 : Int32) [(.int x0), (.int x1), (.int x2)] (.int (0 : Int32))) :
    MetFree l (⟨"com/example/signetry/signetry/card/WordFrame", "localsVersion", "()I"⟩ : MethodName) (head1 (Jvm.Cond.code (⟨"com/example/signetry/signetry/card/WordFrame", "localsVersion", "()I"⟩ : MethodName) prog_110_method_6_code 1 (some .int) :: ws) ({ frames := 0, cells := 0, slots := 0, locals := 0 } : Room)) (fun aS U => aS = #[(.ref a)] ∧ Z.Warmed39 U.vm ∧ U.heap = h0) (fun _ _ _ _ _ => True) (fun _ U o U' => ∃ v L, o = .returned v ∧ Qver_2 Z a w kw x0 x1 x2 vv h0 n0 v U'.heap L ∧ FrameEnd U o U' L ({ frames := 0, cells := 0, slots := 0, locals := 0 } : Room).cells ({ frames := 0, cells := 0, slots := 0, locals := 0 } : Room).slots) := by
  refine MetFree.of_bodySF (plainFor_of_name pn_0) hisR ?_
  intro p e s m args below meth c s₁ Bd hml0 hP hK
  obtain ⟨rfl, hZ, hh⟩ := hP
  have hx := Bd.exec
  have hby := Bd.bytes
  have hml : c.maxLocals = 1 := hml0
  have hown : s.vm.findClass "com/example/signetry/signetry/card/WordFrame" = some m.cls := findClass_of_methodNamed Bd.named
  have hnm := (name_of_methodNamed Bd.named Bd.method).1
  have X0 : Stand p l e ({ frames := 0, cells := 0, slots := 0, locals := 0 } : Room) s m #[(.ref a)] below meth c s₁ [] 0 0 := Stand.of_body Bd
  have e0 : s₁.heap = h0 := by rw [← hh, Bd.state]; rfl
  have N0 := Fr.nil n0
  have Kh : Keep h0 h0 [] := Keep.refl _ _
  suffices H : own_R p e below (own_E s below (Qver_2 Z a w kw x0 x1 x2 vv h0 n0) ({ frames := 0, cells := 0, slots := 0, locals := 0 } : Room).cells ({ frames := 0, cells := 0, slots := 0, locals := 0 } : Room).slots) s₁ (mkF m 0 #[.val (.ref a)] []) by
    obtain ⟨t, hst, hrun, v, L, hend, hQ, hF⟩ := H
    exact ⟨t, _, castTop (ef_ver_2 m a) hst, hrun, hend, v, L, rfl, hQ, hF⟩
  show own_R p e below _ s₁ (mkF m 0 #[.val (.ref a)] [])
  refine own_go (fun t k => XS.aloadN X0.here hx rfl (hb hby d11_0) rfl rfl  k) ?_
  show own_R p e below _ s₁ (mkF m 1 #[.val (.ref a)] [(.ref a)])
  obtain ⟨T1, X1, e1, st1⟩ := getF X0 hx hZ hown (host := "") (Or.inl (hw _ (List.mem_of_getElem? (i := 32) rfl))) Via.refl e0 F_localsVersion_a (g := (mkF m 1 #[.val (.ref a)] [(.ref a)])) rfl rfl (hb hby d11_1)
  refine own_go (st1) ?_
  show own_R p e below _ T1 (mkF m 4 #[.val (.ref a)] [(.int vv)])
  refine own_retW X1 hx Bd.returns rfl (Or.inl ⟨rfl, Or.inl rfl, _, rfl⟩) (BodyLoose.notSynchronized Bd) (hb hby d11_4) (by decide) (by decide) ?_
  exact ⟨rfl, N0, e1⟩
theorem ef_rl_lo0 (m : MethodId) (x0 : Addr) : entryFrame m #[(.ref x0), (.int (0 : Int32))] 2 = mkF m 0 #[.val (.ref x0), .val (.int (0 : Int32))] [] := by first | (simp [entryFrame, mkF, argsToLocals, Value.category]; done) | rfl
def Qrl_lo0 (Z : State) (a : Addr) (w : Addr) (kw : ClassId) (x0 : Int32) (x1 : Int32) (x2 : Int32) (vv : Int32) (h0 : Heap) (n0 : Nat) (v : Option Value) (h : Heap) (L : List Loc) : Prop := v = none ∧ Fr n0 L ∧ h = h0
set_option maxRecDepth 65536 in
set_option maxHeartbeats 40000000 in
theorem rmrl_lo0 (l : Launch) (Z : State) (a0 : Array Value) (hw : ∀ d ∈ tables_1, d.before a0 Z = true) (ws : List Jvm.Cond) (a : Addr) (w : Addr) (kw : ClassId) (x0 : Int32) (x1 : Int32) (x2 : Int32) (vv : Int32) (h0 : Heap) (n0 : Nat) (Z0 : n0 ≤ h0.size) (F_words_a : Fld Z h0 a "com/example/signetry/signetry/card/WordFrame" "words" "[I" (.ref w)) (F_localCount_a : Fld Z h0 a "com/example/signetry/signetry/card/WordFrame" "localCount" "I" (.int (2 : Int32))) (F_maxStack_a : Fld Z h0 a "com/example/signetry/signetry/card/WordFrame" "maxStack" "I" (.int (1 : Int32))) (F_top_a : Fld Z h0 a "com/example/signetry/signetry/card/WordFrame" "top" "I" (.int (3 : Int32))) (F_thisUninitialized_a : Fld Z h0 a "com/example/signetry/signetry/card/WordFrame" "thisUninitialized" "Z" (.int (0 : Int32))) (F_localsVersion_a : Fld Z h0 a "com/example/signetry/signetry/card/WordFrame" "localsVersion" "I" (.int vv)) (E_a : Exa Z h0 a "com/example/signetry/signetry/card/WordFrame") (V_w : Arv Z h0 w kw .int (3 : Int32) [(.int x0), (.int x1), (.int x2)] (.int (0 : Int32))) :
    MetFree l (⟨"com/example/signetry/signetry/card/WordFrame", "requireLocal", "(I)V"⟩ : MethodName) (head1 (Jvm.Cond.code (⟨"com/example/signetry/signetry/card/WordFrame", "requireLocal", "(I)V"⟩ : MethodName) prog_110_method_13_code 2 none :: ws) ({ frames := 0, cells := 0, slots := 0, locals := 0 } : Room)) (fun aS U => aS = #[(.ref a), (.int (0 : Int32))] ∧ Z.Warmed39 U.vm ∧ U.heap = h0) (fun _ _ _ _ _ => True) (fun _ U o U' => ∃ v L, o = .returned v ∧ Qrl_lo0 Z a w kw x0 x1 x2 vv h0 n0 v U'.heap L ∧ FrameEnd U o U' L ({ frames := 0, cells := 0, slots := 0, locals := 0 } : Room).cells ({ frames := 0, cells := 0, slots := 0, locals := 0 } : Room).slots) := by
  refine MetFree.of_bodySF (plainFor_of_name pn_0) hisR ?_
  intro p e s m args below meth c s₁ Bd hml0 hP hK
  obtain ⟨rfl, hZ, hh⟩ := hP
  have hx := Bd.exec
  have hby := Bd.bytes
  have hml : c.maxLocals = 2 := hml0
  have hown : s.vm.findClass "com/example/signetry/signetry/card/WordFrame" = some m.cls := findClass_of_methodNamed Bd.named
  have hnm := (name_of_methodNamed Bd.named Bd.method).1
  have X0 : Stand p l e ({ frames := 0, cells := 0, slots := 0, locals := 0 } : Room) s m #[(.ref a), (.int (0 : Int32))] below meth c s₁ [] 0 0 := Stand.of_body Bd
  have e0 : s₁.heap = h0 := by rw [← hh, Bd.state]; rfl
  have N0 := Fr.nil n0
  have Kh : Keep h0 h0 [] := Keep.refl _ _
  suffices H : own_R p e below (own_E s below (Qrl_lo0 Z a w kw x0 x1 x2 vv h0 n0) ({ frames := 0, cells := 0, slots := 0, locals := 0 } : Room).cells ({ frames := 0, cells := 0, slots := 0, locals := 0 } : Room).slots) s₁ (mkF m 0 #[.val (.ref a), .val (.int (0 : Int32))] []) by
    obtain ⟨t, hst, hrun, v, L, hend, hQ, hF⟩ := H
    exact ⟨t, _, castTop (ef_rl_lo0 m a) hst, hrun, hend, v, L, rfl, hQ, hF⟩
  show own_R p e below _ s₁ (mkF m 0 #[.val (.ref a), .val (.int (0 : Int32))] [])
  refine own_go (fun t k => XS.iloadN X0.here hx rfl (hb hby d7_0) rfl  k) ?_
  show own_R p e below _ s₁ (mkF m 1 #[.val (.ref a), .val (.int (0 : Int32))] [(.int (0 : Int32))])
  refine own_go (fun t k => XS.aloadN X0.here hx rfl (hb hby d7_1) rfl rfl  k) ?_
  show own_R p e below _ s₁ (mkF m 2 #[.val (.ref a), .val (.int (0 : Int32))] [(.ref a), (.int (0 : Int32))])
  obtain ⟨T1, X1, e1, st1⟩ := getF X0 hx hZ hown (host := "") (Or.inl (hw _ (List.mem_of_getElem? (i := 24) rfl))) Via.refl e0 F_localCount_a (g := (mkF m 2 #[.val (.ref a), .val (.int (0 : Int32))] [(.ref a), (.int (0 : Int32))])) rfl rfl (hb hby d7_2)
  refine own_go (st1) ?_
  show own_R p e below _ T1 (mkF m 5 #[.val (.ref a), .val (.int (0 : Int32))] [(.int (2 : Int32)), (.int (0 : Int32))])
  refine own_go (fun t k => XS.icmpYes X1.here hx rfl (pc0 := 5) (pc' := 12) rfl (hb hby d7_5) rfl (tlt (by decide : (0 : Int32) < (2 : Int32))).1 (by decide) (by decide) k) ?_
  show own_R p e below _ T1 (mkF m 12 #[.val (.ref a), .val (.int (0 : Int32))] [])
  refine own_retV X1 hx Bd.returns (BodyLoose.notSynchronized Bd) (hb hby d7_12) (by decide) (by decide) ?_
  exact ⟨rfl, N0, e1⟩
theorem d14_0 : decode prog_110_method_9_code 0 = .ok (.aload_n 0, 1) := by decide +kernel
theorem d14_1 : decode prog_110_method_9_code 1 = .ok (.iload_n 1, 1) := by decide +kernel
theorem d14_2 : decode prog_110_method_9_code 2 = .ok (.invokevirtual 38, 3) := by decide +kernel
theorem d14_5 : decode prog_110_method_9_code 5 = .ok (.aload_n 0, 1) := by decide +kernel
theorem d14_6 : decode prog_110_method_9_code 6 = .ok (.getfield 7, 3) := by decide +kernel
theorem d14_9 : decode prog_110_method_9_code 9 = .ok (.iload_n 1, 1) := by decide +kernel
theorem d14_10 : decode prog_110_method_9_code 10 = .ok (.iaload, 1) := by decide +kernel
theorem d14_11 : decode prog_110_method_9_code 11 = .ok (.ireturn, 1) := by decide +kernel
theorem ef_local_0 (m : MethodId) (x0 : Addr) : entryFrame m #[(.ref x0), (.int (0 : Int32))] 2 = mkF m 0 #[.val (.ref x0), .val (.int (0 : Int32))] [] := by first | (simp [entryFrame, mkF, argsToLocals, Value.category]; done) | rfl
def Qlocal_0 (Z : State) (a : Addr) (w : Addr) (kw : ClassId) (x0 : Int32) (x1 : Int32) (x2 : Int32) (vv : Int32) (h0 : Heap) (n0 : Nat) (v : Option Value) (h : Heap) (L : List Loc) : Prop := v = some (.int x0) ∧ Fr n0 L ∧ h = h0
set_option maxRecDepth 65536 in
set_option maxHeartbeats 40000000 in
theorem rmlocal_0 (l : Launch) (Z : State) (a0 : Array Value) (hw : ∀ d ∈ tables_1, d.before a0 Z = true) (ws : List Jvm.Cond) (a : Addr) (w : Addr) (kw : ClassId) (x0 : Int32) (x1 : Int32) (x2 : Int32) (vv : Int32) (h0 : Heap) (n0 : Nat) (Z0 : n0 ≤ h0.size) (F_words_a : Fld Z h0 a "com/example/signetry/signetry/card/WordFrame" "words" "[I" (.ref w)) (F_localCount_a : Fld Z h0 a "com/example/signetry/signetry/card/WordFrame" "localCount" "I" (.int (2 : Int32))) (F_maxStack_a : Fld Z h0 a "com/example/signetry/signetry/card/WordFrame" "maxStack" "I" (.int (1 : Int32))) (F_top_a : Fld Z h0 a "com/example/signetry/signetry/card/WordFrame" "top" "I" (.int (3 : Int32))) (F_thisUninitialized_a : Fld Z h0 a "com/example/signetry/signetry/card/WordFrame" "thisUninitialized" "Z" (.int (0 : Int32))) (F_localsVersion_a : Fld Z h0 a "com/example/signetry/signetry/card/WordFrame" "localsVersion" "I" (.int vv)) (E_a : Exa Z h0 a "com/example/signetry/signetry/card/WordFrame") (V_w : Arv Z h0 w kw .int (3 : Int32) [(.int x0), (.int x1), (.int x2)] (.int (0 : Int32))) :
    MetFree l (⟨"com/example/signetry/signetry/card/WordFrame", "local", "(I)I"⟩ : MethodName) (head1 (Jvm.Cond.code (⟨"com/example/signetry/signetry/card/WordFrame", "local", "(I)I"⟩ : MethodName) prog_110_method_9_code 2 (some .int) :: ws) ({ frames := 1, cells := 0, slots := 0, locals := 13 } : Room)) (fun aS U => aS = #[(.ref a), (.int (0 : Int32))] ∧ Z.Warmed39 U.vm ∧ U.heap = h0) (fun _ _ _ _ _ => True) (fun _ U o U' => ∃ v L, o = .returned v ∧ Qlocal_0 Z a w kw x0 x1 x2 vv h0 n0 v U'.heap L ∧ FrameEnd U o U' L ({ frames := 1, cells := 0, slots := 0, locals := 13 } : Room).cells ({ frames := 1, cells := 0, slots := 0, locals := 13 } : Room).slots) := by
  refine MetFree.of_bodySF (plainFor_of_name pn_0) hisR ?_
  intro p e s m args below meth c s₁ Bd hml0 hP hK
  obtain ⟨rfl, hZ, hh⟩ := hP
  have hx := Bd.exec
  have hby := Bd.bytes
  have hml : c.maxLocals = 2 := hml0
  have hown : s.vm.findClass "com/example/signetry/signetry/card/WordFrame" = some m.cls := findClass_of_methodNamed Bd.named
  have hnm := (name_of_methodNamed Bd.named Bd.method).1
  have X0 : Stand p l e ({ frames := 1, cells := 0, slots := 0, locals := 13 } : Room) s m #[(.ref a), (.int (0 : Int32))] below meth c s₁ [] 0 0 := Stand.of_body Bd
  have e0 : s₁.heap = h0 := by rw [← hh, Bd.state]; rfl
  have N0 := Fr.nil n0
  have Kh : Keep h0 h0 [] := Keep.refl _ _
  suffices H : own_R p e below (own_E s below (Qlocal_0 Z a w kw x0 x1 x2 vv h0 n0) ({ frames := 1, cells := 0, slots := 0, locals := 13 } : Room).cells ({ frames := 1, cells := 0, slots := 0, locals := 13 } : Room).slots) s₁ (mkF m 0 #[.val (.ref a), .val (.int (0 : Int32))] []) by
    obtain ⟨t, hst, hrun, v, L, hend, hQ, hF⟩ := H
    exact ⟨t, _, castTop (ef_local_0 m a) hst, hrun, hend, v, L, rfl, hQ, hF⟩
  show own_R p e below _ s₁ (mkF m 0 #[.val (.ref a), .val (.int (0 : Int32))] [])
  refine own_go (fun t k => XS.aloadN X0.here hx rfl (hb hby d14_0) rfl rfl  k) ?_
  show own_R p e below _ s₁ (mkF m 1 #[.val (.ref a), .val (.int (0 : Int32))] [(.ref a)])
  refine own_go (fun t k => XS.iloadN X0.here hx rfl (hb hby d14_1) rfl  k) ?_
  show own_R p e below _ s₁ (mkF m 2 #[.val (.ref a), .val (.int (0 : Int32))] [(.int (0 : Int32)), (.ref a)])
  obtain ⟨cq1, q1, q1'⟩ := E_a.cell
  obtain ⟨_, _, ⟨T1, L1, k1, n1⟩, -, X1, ⟨Lc1, hQ1, l1, y1, z1⟩, st1⟩ := X0.privateBack hx (y := (⟨"com/example/signetry/signetry/card/WordFrame", "requireLocal", "(I)V"⟩ : MethodName)) hown (mvT hZ (hw _ (List.mem_of_getElem? (i := 39) rfl))) (mvT hZ (hw _ (List.mem_of_getElem? (i := 40) rfl))) (Jvm.Kit.selects_private (by decide) (mvT hZ (hw _ (List.mem_of_getElem? (i := 1) rfl))) (mvP hZ (hw _ (List.mem_of_getElem? (i := 41) rfl))) (mvT hZ (hw _ (List.mem_of_getElem? (i := 40) rfl)))) (Cond.privateMethod_at (mvP hZ (hw _ (List.mem_of_getElem? (i := 41) rfl)) (args := #[]))) (mvT hZ (hw _ (List.mem_of_getElem? (i := 42) rfl))) (by decide) (backOf (W := 0) (rmrl_lo0 l Z a0 hw [] a w kw x0 x1 x2 vv h0 n0 (Nat.le_trans Z0 Kh.1) F_words_a F_localCount_a F_maxStack_a F_top_a F_thisUninitialized_a F_localsVersion_a E_a V_w) hZ (hw _ (List.mem_of_getElem? (i := 42) rfl)) (hw _ (List.mem_of_getElem? (i := 2) rfl)) (by decide) (by decide)) (g := (mkF m 2 #[.val (.ref a), .val (.int (0 : Int32))] [(.int (0 : Int32)), (.ref a)])) rfl (by rw [hml]; rfl) (Steps.refl _) (a := a) (by rw [e0]; exact q1) q1' (argsL := [(.int (0 : Int32))]) (rest := []) (lenOf pd_4 rfl) rfl (by show 2 * 0 + _ ≤ _; exact Nat.le_of_eq rfl) (hb hby d14_2) (fun _ _ => ⟨rfl, e0, (by decide : 0 + 0 ≤ _), (by decide : 0 + 0 ≤ _)⟩)
  dsimp only [Pt.U, Pt.locs, Pt.cells, Pt.slots] at X1 l1 y1 z1 st1 hQ1
  subst l1 y1 z1
  obtain ⟨rfl, Nq1, e1⟩ := hQ1
  have N1 := Fr.app N0 Nq1
  refine own_go (fun t k => st1.trans k) ?_
  show own_R p e below _ T1 (mkF m 5 #[.val (.ref a), .val (.int (0 : Int32))] [])
  refine own_go (fun t k => XS.aloadN X1.here hx rfl (hb hby d14_5) rfl rfl  k) ?_
  show own_R p e below _ T1 (mkF m 6 #[.val (.ref a), .val (.int (0 : Int32))] [(.ref a)])
  obtain ⟨T2, X2, e2, st2⟩ := getF X1 hx hZ hown (host := "") (Or.inl (hw _ (List.mem_of_getElem? (i := 10) rfl))) Via.refl e1 F_words_a (g := (mkF m 6 #[.val (.ref a), .val (.int (0 : Int32))] [(.ref a)])) rfl rfl (hb hby d14_6)
  refine own_go (st2) ?_
  show own_R p e below _ T2 (mkF m 9 #[.val (.ref a), .val (.int (0 : Int32))] [(.ref w)])
  refine own_go (fun t k => XS.iloadN X2.here hx rfl (hb hby d14_9) rfl  k) ?_
  show own_R p e below _ T2 (mkF m 10 #[.val (.ref a), .val (.int (0 : Int32))] [(.int (0 : Int32)), (.ref w)])
  obtain ⟨cl3, Ar3, q3, S3, Nn3, Hh3, G3⟩ := id V_w
  have hin3 : ¬ ((0 : Int32) < 0 ∨ cl3.slots.size ≤ ((0 : Int32)).toNatClampNeg) := inb_of S3 ⟨by decide, by decide⟩
  have hat3 : cl3.slots[((0 : Int32)).toNatClampNeg]? = some (.int x0) := Has.at Hh3 hin3 rfl
  refine own_go (X2.iaload hx (j := (0 : Int32)) (v := (.int x0)) (by rw [e2]; exact Ar3.1) (State.isArrayOf_alike hZ.alike Ar3.2.1) Ar3.2.2 hin3 hat3 (g := (mkF m 10 #[.val (.ref a), .val (.int (0 : Int32))] [(.int (0 : Int32)), (.ref w)])) rfl rfl (hb hby d14_10)) ?_
  show own_R p e below _ T2 (mkF m 11 #[.val (.ref a), .val (.int (0 : Int32))] [(.int x0)])
  refine own_retW X2 hx Bd.returns rfl (Or.inl ⟨rfl, Or.inl rfl, _, rfl⟩) (BodyLoose.notSynchronized Bd) (hb hby d14_11) (by decide) (by decide) ?_
  exact ⟨rfl, N1, e2⟩
theorem ef_rl_lo1 (m : MethodId) (x0 : Addr) : entryFrame m #[(.ref x0), (.int (1 : Int32))] 2 = mkF m 0 #[.val (.ref x0), .val (.int (1 : Int32))] [] := by first | (simp [entryFrame, mkF, argsToLocals, Value.category]; done) | rfl
def Qrl_lo1 (Z : State) (a : Addr) (w : Addr) (kw : ClassId) (x0 : Int32) (x1 : Int32) (x2 : Int32) (vv : Int32) (h0 : Heap) (n0 : Nat) (v : Option Value) (h : Heap) (L : List Loc) : Prop := v = none ∧ Fr n0 L ∧ h = h0
set_option maxRecDepth 65536 in
set_option maxHeartbeats 40000000 in
theorem rmrl_lo1 (l : Launch) (Z : State) (a0 : Array Value) (hw : ∀ d ∈ tables_1, d.before a0 Z = true) (ws : List Jvm.Cond) (a : Addr) (w : Addr) (kw : ClassId) (x0 : Int32) (x1 : Int32) (x2 : Int32) (vv : Int32) (h0 : Heap) (n0 : Nat) (Z0 : n0 ≤ h0.size) (F_words_a : Fld Z h0 a "com/example/signetry/signetry/card/WordFrame" "words" "[I" (.ref w)) (F_localCount_a : Fld Z h0 a "com/example/signetry/signetry/card/WordFrame" "localCount" "I" (.int (2 : Int32))) (F_maxStack_a : Fld Z h0 a "com/example/signetry/signetry/card/WordFrame" "maxStack" "I" (.int (1 : Int32))) (F_top_a : Fld Z h0 a "com/example/signetry/signetry/card/WordFrame" "top" "I" (.int (3 : Int32))) (F_thisUninitialized_a : Fld Z h0 a "com/example/signetry/signetry/card/WordFrame" "thisUninitialized" "Z" (.int (0 : Int32))) (F_localsVersion_a : Fld Z h0 a "com/example/signetry/signetry/card/WordFrame" "localsVersion" "I" (.int vv)) (E_a : Exa Z h0 a "com/example/signetry/signetry/card/WordFrame") (V_w : Arv Z h0 w kw .int (3 : Int32) [(.int x0), (.int x1), (.int x2)] (.int (0 : Int32))) :
    MetFree l (⟨"com/example/signetry/signetry/card/WordFrame", "requireLocal", "(I)V"⟩ : MethodName) (head1 (Jvm.Cond.code (⟨"com/example/signetry/signetry/card/WordFrame", "requireLocal", "(I)V"⟩ : MethodName) prog_110_method_13_code 2 none :: ws) ({ frames := 0, cells := 0, slots := 0, locals := 0 } : Room)) (fun aS U => aS = #[(.ref a), (.int (1 : Int32))] ∧ Z.Warmed39 U.vm ∧ U.heap = h0) (fun _ _ _ _ _ => True) (fun _ U o U' => ∃ v L, o = .returned v ∧ Qrl_lo1 Z a w kw x0 x1 x2 vv h0 n0 v U'.heap L ∧ FrameEnd U o U' L ({ frames := 0, cells := 0, slots := 0, locals := 0 } : Room).cells ({ frames := 0, cells := 0, slots := 0, locals := 0 } : Room).slots) := by
  refine MetFree.of_bodySF (plainFor_of_name pn_0) hisR ?_
  intro p e s m args below meth c s₁ Bd hml0 hP hK
  obtain ⟨rfl, hZ, hh⟩ := hP
  have hx := Bd.exec
  have hby := Bd.bytes
  have hml : c.maxLocals = 2 := hml0
  have hown : s.vm.findClass "com/example/signetry/signetry/card/WordFrame" = some m.cls := findClass_of_methodNamed Bd.named
  have hnm := (name_of_methodNamed Bd.named Bd.method).1
  have X0 : Stand p l e ({ frames := 0, cells := 0, slots := 0, locals := 0 } : Room) s m #[(.ref a), (.int (1 : Int32))] below meth c s₁ [] 0 0 := Stand.of_body Bd
  have e0 : s₁.heap = h0 := by rw [← hh, Bd.state]; rfl
  have N0 := Fr.nil n0
  have Kh : Keep h0 h0 [] := Keep.refl _ _
  suffices H : own_R p e below (own_E s below (Qrl_lo1 Z a w kw x0 x1 x2 vv h0 n0) ({ frames := 0, cells := 0, slots := 0, locals := 0 } : Room).cells ({ frames := 0, cells := 0, slots := 0, locals := 0 } : Room).slots) s₁ (mkF m 0 #[.val (.ref a), .val (.int (1 : Int32))] []) by
    obtain ⟨t, hst, hrun, v, L, hend, hQ, hF⟩ := H
    exact ⟨t, _, castTop (ef_rl_lo1 m a) hst, hrun, hend, v, L, rfl, hQ, hF⟩
  show own_R p e below _ s₁ (mkF m 0 #[.val (.ref a), .val (.int (1 : Int32))] [])
  refine own_go (fun t k => XS.iloadN X0.here hx rfl (hb hby d7_0) rfl  k) ?_
  show own_R p e below _ s₁ (mkF m 1 #[.val (.ref a), .val (.int (1 : Int32))] [(.int (1 : Int32))])
  refine own_go (fun t k => XS.aloadN X0.here hx rfl (hb hby d7_1) rfl rfl  k) ?_
  show own_R p e below _ s₁ (mkF m 2 #[.val (.ref a), .val (.int (1 : Int32))] [(.ref a), (.int (1 : Int32))])
  obtain ⟨T1, X1, e1, st1⟩ := getF X0 hx hZ hown (host := "") (Or.inl (hw _ (List.mem_of_getElem? (i := 24) rfl))) Via.refl e0 F_localCount_a (g := (mkF m 2 #[.val (.ref a), .val (.int (1 : Int32))] [(.ref a), (.int (1 : Int32))])) rfl rfl (hb hby d7_2)
  refine own_go (st1) ?_
  show own_R p e below _ T1 (mkF m 5 #[.val (.ref a), .val (.int (1 : Int32))] [(.int (2 : Int32)), (.int (1 : Int32))])
  refine own_go (fun t k => XS.icmpYes X1.here hx rfl (pc0 := 5) (pc' := 12) rfl (hb hby d7_5) rfl (tlt (by decide : (1 : Int32) < (2 : Int32))).1 (by decide) (by decide) k) ?_
  show own_R p e below _ T1 (mkF m 12 #[.val (.ref a), .val (.int (1 : Int32))] [])
  refine own_retV X1 hx Bd.returns (BodyLoose.notSynchronized Bd) (hb hby d7_12) (by decide) (by decide) ?_
  exact ⟨rfl, N0, e1⟩
theorem ef_local_1 (m : MethodId) (x0 : Addr) : entryFrame m #[(.ref x0), (.int (1 : Int32))] 2 = mkF m 0 #[.val (.ref x0), .val (.int (1 : Int32))] [] := by first | (simp [entryFrame, mkF, argsToLocals, Value.category]; done) | rfl
def Qlocal_1 (Z : State) (a : Addr) (w : Addr) (kw : ClassId) (x0 : Int32) (x1 : Int32) (x2 : Int32) (vv : Int32) (h0 : Heap) (n0 : Nat) (v : Option Value) (h : Heap) (L : List Loc) : Prop := v = some (.int x1) ∧ Fr n0 L ∧ h = h0
set_option maxRecDepth 65536 in
set_option maxHeartbeats 40000000 in
theorem rmlocal_1 (l : Launch) (Z : State) (a0 : Array Value) (hw : ∀ d ∈ tables_1, d.before a0 Z = true) (ws : List Jvm.Cond) (a : Addr) (w : Addr) (kw : ClassId) (x0 : Int32) (x1 : Int32) (x2 : Int32) (vv : Int32) (h0 : Heap) (n0 : Nat) (Z0 : n0 ≤ h0.size) (F_words_a : Fld Z h0 a "com/example/signetry/signetry/card/WordFrame" "words" "[I" (.ref w)) (F_localCount_a : Fld Z h0 a "com/example/signetry/signetry/card/WordFrame" "localCount" "I" (.int (2 : Int32))) (F_maxStack_a : Fld Z h0 a "com/example/signetry/signetry/card/WordFrame" "maxStack" "I" (.int (1 : Int32))) (F_top_a : Fld Z h0 a "com/example/signetry/signetry/card/WordFrame" "top" "I" (.int (3 : Int32))) (F_thisUninitialized_a : Fld Z h0 a "com/example/signetry/signetry/card/WordFrame" "thisUninitialized" "Z" (.int (0 : Int32))) (F_localsVersion_a : Fld Z h0 a "com/example/signetry/signetry/card/WordFrame" "localsVersion" "I" (.int vv)) (E_a : Exa Z h0 a "com/example/signetry/signetry/card/WordFrame") (V_w : Arv Z h0 w kw .int (3 : Int32) [(.int x0), (.int x1), (.int x2)] (.int (0 : Int32))) :
    MetFree l (⟨"com/example/signetry/signetry/card/WordFrame", "local", "(I)I"⟩ : MethodName) (head1 (Jvm.Cond.code (⟨"com/example/signetry/signetry/card/WordFrame", "local", "(I)I"⟩ : MethodName) prog_110_method_9_code 2 (some .int) :: ws) ({ frames := 1, cells := 0, slots := 0, locals := 13 } : Room)) (fun aS U => aS = #[(.ref a), (.int (1 : Int32))] ∧ Z.Warmed39 U.vm ∧ U.heap = h0) (fun _ _ _ _ _ => True) (fun _ U o U' => ∃ v L, o = .returned v ∧ Qlocal_1 Z a w kw x0 x1 x2 vv h0 n0 v U'.heap L ∧ FrameEnd U o U' L ({ frames := 1, cells := 0, slots := 0, locals := 13 } : Room).cells ({ frames := 1, cells := 0, slots := 0, locals := 13 } : Room).slots) := by
  refine MetFree.of_bodySF (plainFor_of_name pn_0) hisR ?_
  intro p e s m args below meth c s₁ Bd hml0 hP hK
  obtain ⟨rfl, hZ, hh⟩ := hP
  have hx := Bd.exec
  have hby := Bd.bytes
  have hml : c.maxLocals = 2 := hml0
  have hown : s.vm.findClass "com/example/signetry/signetry/card/WordFrame" = some m.cls := findClass_of_methodNamed Bd.named
  have hnm := (name_of_methodNamed Bd.named Bd.method).1
  have X0 : Stand p l e ({ frames := 1, cells := 0, slots := 0, locals := 13 } : Room) s m #[(.ref a), (.int (1 : Int32))] below meth c s₁ [] 0 0 := Stand.of_body Bd
  have e0 : s₁.heap = h0 := by rw [← hh, Bd.state]; rfl
  have N0 := Fr.nil n0
  have Kh : Keep h0 h0 [] := Keep.refl _ _
  suffices H : own_R p e below (own_E s below (Qlocal_1 Z a w kw x0 x1 x2 vv h0 n0) ({ frames := 1, cells := 0, slots := 0, locals := 13 } : Room).cells ({ frames := 1, cells := 0, slots := 0, locals := 13 } : Room).slots) s₁ (mkF m 0 #[.val (.ref a), .val (.int (1 : Int32))] []) by
    obtain ⟨t, hst, hrun, v, L, hend, hQ, hF⟩ := H
    exact ⟨t, _, castTop (ef_local_1 m a) hst, hrun, hend, v, L, rfl, hQ, hF⟩
  show own_R p e below _ s₁ (mkF m 0 #[.val (.ref a), .val (.int (1 : Int32))] [])
  refine own_go (fun t k => XS.aloadN X0.here hx rfl (hb hby d14_0) rfl rfl  k) ?_
  show own_R p e below _ s₁ (mkF m 1 #[.val (.ref a), .val (.int (1 : Int32))] [(.ref a)])
  refine own_go (fun t k => XS.iloadN X0.here hx rfl (hb hby d14_1) rfl  k) ?_
  show own_R p e below _ s₁ (mkF m 2 #[.val (.ref a), .val (.int (1 : Int32))] [(.int (1 : Int32)), (.ref a)])
  obtain ⟨cq1, q1, q1'⟩ := E_a.cell
  obtain ⟨_, _, ⟨T1, L1, k1, n1⟩, -, X1, ⟨Lc1, hQ1, l1, y1, z1⟩, st1⟩ := X0.privateBack hx (y := (⟨"com/example/signetry/signetry/card/WordFrame", "requireLocal", "(I)V"⟩ : MethodName)) hown (mvT hZ (hw _ (List.mem_of_getElem? (i := 39) rfl))) (mvT hZ (hw _ (List.mem_of_getElem? (i := 40) rfl))) (Jvm.Kit.selects_private (by decide) (mvT hZ (hw _ (List.mem_of_getElem? (i := 1) rfl))) (mvP hZ (hw _ (List.mem_of_getElem? (i := 41) rfl))) (mvT hZ (hw _ (List.mem_of_getElem? (i := 40) rfl)))) (Cond.privateMethod_at (mvP hZ (hw _ (List.mem_of_getElem? (i := 41) rfl)) (args := #[]))) (mvT hZ (hw _ (List.mem_of_getElem? (i := 42) rfl))) (by decide) (backOf (W := 0) (rmrl_lo1 l Z a0 hw [] a w kw x0 x1 x2 vv h0 n0 (Nat.le_trans Z0 Kh.1) F_words_a F_localCount_a F_maxStack_a F_top_a F_thisUninitialized_a F_localsVersion_a E_a V_w) hZ (hw _ (List.mem_of_getElem? (i := 42) rfl)) (hw _ (List.mem_of_getElem? (i := 2) rfl)) (by decide) (by decide)) (g := (mkF m 2 #[.val (.ref a), .val (.int (1 : Int32))] [(.int (1 : Int32)), (.ref a)])) rfl (by rw [hml]; rfl) (Steps.refl _) (a := a) (by rw [e0]; exact q1) q1' (argsL := [(.int (1 : Int32))]) (rest := []) (lenOf pd_4 rfl) rfl (by show 2 * 0 + _ ≤ _; exact Nat.le_of_eq rfl) (hb hby d14_2) (fun _ _ => ⟨rfl, e0, (by decide : 0 + 0 ≤ _), (by decide : 0 + 0 ≤ _)⟩)
  dsimp only [Pt.U, Pt.locs, Pt.cells, Pt.slots] at X1 l1 y1 z1 st1 hQ1
  subst l1 y1 z1
  obtain ⟨rfl, Nq1, e1⟩ := hQ1
  have N1 := Fr.app N0 Nq1
  refine own_go (fun t k => st1.trans k) ?_
  show own_R p e below _ T1 (mkF m 5 #[.val (.ref a), .val (.int (1 : Int32))] [])
  refine own_go (fun t k => XS.aloadN X1.here hx rfl (hb hby d14_5) rfl rfl  k) ?_
  show own_R p e below _ T1 (mkF m 6 #[.val (.ref a), .val (.int (1 : Int32))] [(.ref a)])
  obtain ⟨T2, X2, e2, st2⟩ := getF X1 hx hZ hown (host := "") (Or.inl (hw _ (List.mem_of_getElem? (i := 10) rfl))) Via.refl e1 F_words_a (g := (mkF m 6 #[.val (.ref a), .val (.int (1 : Int32))] [(.ref a)])) rfl rfl (hb hby d14_6)
  refine own_go (st2) ?_
  show own_R p e below _ T2 (mkF m 9 #[.val (.ref a), .val (.int (1 : Int32))] [(.ref w)])
  refine own_go (fun t k => XS.iloadN X2.here hx rfl (hb hby d14_9) rfl  k) ?_
  show own_R p e below _ T2 (mkF m 10 #[.val (.ref a), .val (.int (1 : Int32))] [(.int (1 : Int32)), (.ref w)])
  obtain ⟨cl3, Ar3, q3, S3, Nn3, Hh3, G3⟩ := id V_w
  have hin3 : ¬ ((1 : Int32) < 0 ∨ cl3.slots.size ≤ ((1 : Int32)).toNatClampNeg) := inb_of S3 ⟨by decide, by decide⟩
  have hat3 : cl3.slots[((1 : Int32)).toNatClampNeg]? = some (.int x1) := Has.at Hh3 hin3 rfl
  refine own_go (X2.iaload hx (j := (1 : Int32)) (v := (.int x1)) (by rw [e2]; exact Ar3.1) (State.isArrayOf_alike hZ.alike Ar3.2.1) Ar3.2.2 hin3 hat3 (g := (mkF m 10 #[.val (.ref a), .val (.int (1 : Int32))] [(.int (1 : Int32)), (.ref w)])) rfl rfl (hb hby d14_10)) ?_
  show own_R p e below _ T2 (mkF m 11 #[.val (.ref a), .val (.int (1 : Int32))] [(.int x1)])
  refine own_retW X2 hx Bd.returns rfl (Or.inl ⟨rfl, Or.inl rfl, _, rfl⟩) (BodyLoose.notSynchronized Bd) (hb hby d14_11) (by decide) (by decide) ?_
  exact ⟨rfl, N1, e2⟩
theorem d17_0 : decode prog_110_method_21_code 0 = .ok (.aload_n 0, 1) := by decide +kernel
theorem d17_1 : decode prog_110_method_21_code 1 = .ok (.getfield 28, 3) := by decide +kernel
theorem d17_4 : decode prog_110_method_21_code 4 = .ok (.aload_n 0, 1) := by decide +kernel
theorem d17_5 : decode prog_110_method_21_code 5 = .ok (.getfield 21, 3) := by decide +kernel
theorem d17_8 : decode prog_110_method_21_code 8 = .ok (.isub, 1) := by decide +kernel
theorem d17_9 : decode prog_110_method_21_code 9 = .ok (.iload_n 1, 1) := by decide +kernel
theorem d17_10 : decode prog_110_method_21_code 10 = .ok (.if_icmp .ge 7, 3) := by decide +kernel
theorem d17_17 : decode prog_110_method_21_code 17 = .ok (.return_, 1) := by decide +kernel
theorem ef_rw_pk (m : MethodId) (x0 : Addr) : entryFrame m #[(.ref x0), (.int (1 : Int32))] 2 = mkF m 0 #[.val (.ref x0), .val (.int (1 : Int32))] [] := by first | (simp [entryFrame, mkF, argsToLocals, Value.category]; done) | rfl
def Qrw_pk (Z : State) (a : Addr) (w : Addr) (kw : ClassId) (x0 : Int32) (x1 : Int32) (x2 : Int32) (vv : Int32) (h0 : Heap) (n0 : Nat) (v : Option Value) (h : Heap) (L : List Loc) : Prop := v = none ∧ Fr n0 L ∧ h = h0
set_option maxRecDepth 65536 in
set_option maxHeartbeats 40000000 in
theorem rmrw_pk (l : Launch) (Z : State) (a0 : Array Value) (hw : ∀ d ∈ tables_1, d.before a0 Z = true) (ws : List Jvm.Cond) (a : Addr) (w : Addr) (kw : ClassId) (x0 : Int32) (x1 : Int32) (x2 : Int32) (vv : Int32) (h0 : Heap) (n0 : Nat) (Z0 : n0 ≤ h0.size) (F_words_a : Fld Z h0 a "com/example/signetry/signetry/card/WordFrame" "words" "[I" (.ref w)) (F_localCount_a : Fld Z h0 a "com/example/signetry/signetry/card/WordFrame" "localCount" "I" (.int (2 : Int32))) (F_maxStack_a : Fld Z h0 a "com/example/signetry/signetry/card/WordFrame" "maxStack" "I" (.int (1 : Int32))) (F_top_a : Fld Z h0 a "com/example/signetry/signetry/card/WordFrame" "top" "I" (.int (3 : Int32))) (F_thisUninitialized_a : Fld Z h0 a "com/example/signetry/signetry/card/WordFrame" "thisUninitialized" "Z" (.int (0 : Int32))) (F_localsVersion_a : Fld Z h0 a "com/example/signetry/signetry/card/WordFrame" "localsVersion" "I" (.int vv)) (E_a : Exa Z h0 a "com/example/signetry/signetry/card/WordFrame") (V_w : Arv Z h0 w kw .int (3 : Int32) [(.int x0), (.int x1), (.int x2)] (.int (0 : Int32))) :
    MetFree l (⟨"com/example/signetry/signetry/card/WordFrame", "requireWords", "(I)V"⟩ : MethodName) (head1 (Jvm.Cond.code (⟨"com/example/signetry/signetry/card/WordFrame", "requireWords", "(I)V"⟩ : MethodName) prog_110_method_21_code 2 none :: ws) ({ frames := 0, cells := 0, slots := 0, locals := 0 } : Room)) (fun aS U => aS = #[(.ref a), (.int (1 : Int32))] ∧ Z.Warmed39 U.vm ∧ U.heap = h0) (fun _ _ _ _ _ => True) (fun _ U o U' => ∃ v L, o = .returned v ∧ Qrw_pk Z a w kw x0 x1 x2 vv h0 n0 v U'.heap L ∧ FrameEnd U o U' L ({ frames := 0, cells := 0, slots := 0, locals := 0 } : Room).cells ({ frames := 0, cells := 0, slots := 0, locals := 0 } : Room).slots) := by
  refine MetFree.of_bodySF (plainFor_of_name pn_0) hisR ?_
  intro p e s m args below meth c s₁ Bd hml0 hP hK
  obtain ⟨rfl, hZ, hh⟩ := hP
  have hx := Bd.exec
  have hby := Bd.bytes
  have hml : c.maxLocals = 2 := hml0
  have hown : s.vm.findClass "com/example/signetry/signetry/card/WordFrame" = some m.cls := findClass_of_methodNamed Bd.named
  have hnm := (name_of_methodNamed Bd.named Bd.method).1
  have X0 : Stand p l e ({ frames := 0, cells := 0, slots := 0, locals := 0 } : Room) s m #[(.ref a), (.int (1 : Int32))] below meth c s₁ [] 0 0 := Stand.of_body Bd
  have e0 : s₁.heap = h0 := by rw [← hh, Bd.state]; rfl
  have N0 := Fr.nil n0
  have Kh : Keep h0 h0 [] := Keep.refl _ _
  suffices H : own_R p e below (own_E s below (Qrw_pk Z a w kw x0 x1 x2 vv h0 n0) ({ frames := 0, cells := 0, slots := 0, locals := 0 } : Room).cells ({ frames := 0, cells := 0, slots := 0, locals := 0 } : Room).slots) s₁ (mkF m 0 #[.val (.ref a), .val (.int (1 : Int32))] []) by
    obtain ⟨t, hst, hrun, v, L, hend, hQ, hF⟩ := H
    exact ⟨t, _, castTop (ef_rw_pk m a) hst, hrun, hend, v, L, rfl, hQ, hF⟩
  show own_R p e below _ s₁ (mkF m 0 #[.val (.ref a), .val (.int (1 : Int32))] [])
  refine own_go (fun t k => XS.aloadN X0.here hx rfl (hb hby d17_0) rfl rfl  k) ?_
  show own_R p e below _ s₁ (mkF m 1 #[.val (.ref a), .val (.int (1 : Int32))] [(.ref a)])
  obtain ⟨T1, X1, e1, st1⟩ := getF X0 hx hZ hown (host := "") (Or.inl (hw _ (List.mem_of_getElem? (i := 28) rfl))) Via.refl e0 F_top_a (g := (mkF m 1 #[.val (.ref a), .val (.int (1 : Int32))] [(.ref a)])) rfl rfl (hb hby d17_1)
  refine own_go (st1) ?_
  show own_R p e below _ T1 (mkF m 4 #[.val (.ref a), .val (.int (1 : Int32))] [(.int (3 : Int32))])
  refine own_go (fun t k => XS.aloadN X1.here hx rfl (hb hby d17_4) rfl rfl  k) ?_
  show own_R p e below _ T1 (mkF m 5 #[.val (.ref a), .val (.int (1 : Int32))] [(.ref a), (.int (3 : Int32))])
  obtain ⟨T2, X2, e2, st2⟩ := getF X1 hx hZ hown (host := "") (Or.inl (hw _ (List.mem_of_getElem? (i := 24) rfl))) Via.refl e1 F_localCount_a (g := (mkF m 5 #[.val (.ref a), .val (.int (1 : Int32))] [(.ref a), (.int (3 : Int32))])) rfl rfl (hb hby d17_5)
  refine own_go (st2) ?_
  show own_R p e below _ T2 (mkF m 8 #[.val (.ref a), .val (.int (1 : Int32))] [(.int (2 : Int32)), (.int (3 : Int32))])
  refine own_go (fun t k => XS.isub X2.here hx rfl (hb hby d17_8) rfl k) ?_
  show own_R p e below _ T2 (mkF m 9 #[.val (.ref a), .val (.int (1 : Int32))] [(.int (1 : Int32))])
  refine own_go (fun t k => XS.iloadN X2.here hx rfl (hb hby d17_9) rfl  k) ?_
  show own_R p e below _ T2 (mkF m 10 #[.val (.ref a), .val (.int (1 : Int32))] [(.int (1 : Int32)), (.int (1 : Int32))])
  refine own_go (fun t k => XS.icmpYes X2.here hx rfl (pc0 := 10) (pc' := 17) rfl (hb hby d17_10) rfl (flt (by decide : ¬ ((1 : Int32) < (1 : Int32)))).2.1 (by decide) (by decide) k) ?_
  show own_R p e below _ T2 (mkF m 17 #[.val (.ref a), .val (.int (1 : Int32))] [])
  refine own_retV X2 hx Bd.returns (BodyLoose.notSynchronized Bd) (hb hby d17_17) (by decide) (by decide) ?_
  exact ⟨rfl, N0, e2⟩
theorem d16_0 : decode prog_110_method_16_code 0 = .ok (.aload_n 0, 1) := by decide +kernel
theorem d16_1 : decode prog_110_method_16_code 1 = .ok (.iload_n 1, 1) := by decide +kernel
theorem d16_2 : decode prog_110_method_16_code 2 = .ok (.iconst 1, 1) := by decide +kernel
theorem d16_3 : decode prog_110_method_16_code 3 = .ok (.iadd, 1) := by decide +kernel
theorem d16_4 : decode prog_110_method_16_code 4 = .ok (.invokevirtual 54, 3) := by decide +kernel
theorem d16_7 : decode prog_110_method_16_code 7 = .ok (.aload_n 0, 1) := by decide +kernel
theorem d16_8 : decode prog_110_method_16_code 8 = .ok (.getfield 7, 3) := by decide +kernel
theorem d16_11 : decode prog_110_method_16_code 11 = .ok (.aload_n 0, 1) := by decide +kernel
theorem d16_12 : decode prog_110_method_16_code 12 = .ok (.getfield 28, 3) := by decide +kernel
theorem d16_15 : decode prog_110_method_16_code 15 = .ok (.iconst 1, 1) := by decide +kernel
theorem d16_16 : decode prog_110_method_16_code 16 = .ok (.isub, 1) := by decide +kernel
theorem d16_17 : decode prog_110_method_16_code 17 = .ok (.iload_n 1, 1) := by decide +kernel
theorem d16_18 : decode prog_110_method_16_code 18 = .ok (.isub, 1) := by decide +kernel
theorem d16_19 : decode prog_110_method_16_code 19 = .ok (.iaload, 1) := by decide +kernel
theorem d16_20 : decode prog_110_method_16_code 20 = .ok (.ireturn, 1) := by decide +kernel
theorem ef_peek_0 (m : MethodId) (x0 : Addr) : entryFrame m #[(.ref x0), (.int (0 : Int32))] 2 = mkF m 0 #[.val (.ref x0), .val (.int (0 : Int32))] [] := by first | (simp [entryFrame, mkF, argsToLocals, Value.category]; done) | rfl
def Qpeek_0 (Z : State) (a : Addr) (w : Addr) (kw : ClassId) (x0 : Int32) (x1 : Int32) (x2 : Int32) (vv : Int32) (h0 : Heap) (n0 : Nat) (v : Option Value) (h : Heap) (L : List Loc) : Prop := v = some (.int x2) ∧ Fr n0 L ∧ h = h0
set_option maxRecDepth 65536 in
set_option maxHeartbeats 40000000 in
theorem rmpeek_0 (l : Launch) (Z : State) (a0 : Array Value) (hw : ∀ d ∈ tables_1, d.before a0 Z = true) (ws : List Jvm.Cond) (a : Addr) (w : Addr) (kw : ClassId) (x0 : Int32) (x1 : Int32) (x2 : Int32) (vv : Int32) (h0 : Heap) (n0 : Nat) (Z0 : n0 ≤ h0.size) (F_words_a : Fld Z h0 a "com/example/signetry/signetry/card/WordFrame" "words" "[I" (.ref w)) (F_localCount_a : Fld Z h0 a "com/example/signetry/signetry/card/WordFrame" "localCount" "I" (.int (2 : Int32))) (F_maxStack_a : Fld Z h0 a "com/example/signetry/signetry/card/WordFrame" "maxStack" "I" (.int (1 : Int32))) (F_top_a : Fld Z h0 a "com/example/signetry/signetry/card/WordFrame" "top" "I" (.int (3 : Int32))) (F_thisUninitialized_a : Fld Z h0 a "com/example/signetry/signetry/card/WordFrame" "thisUninitialized" "Z" (.int (0 : Int32))) (F_localsVersion_a : Fld Z h0 a "com/example/signetry/signetry/card/WordFrame" "localsVersion" "I" (.int vv)) (E_a : Exa Z h0 a "com/example/signetry/signetry/card/WordFrame") (V_w : Arv Z h0 w kw .int (3 : Int32) [(.int x0), (.int x1), (.int x2)] (.int (0 : Int32))) :
    MetFree l (⟨"com/example/signetry/signetry/card/WordFrame", "peek", "(I)I"⟩ : MethodName) (head1 (Jvm.Cond.code (⟨"com/example/signetry/signetry/card/WordFrame", "peek", "(I)I"⟩ : MethodName) prog_110_method_16_code 2 (some .int) :: ws) ({ frames := 1, cells := 0, slots := 0, locals := 13 } : Room)) (fun aS U => aS = #[(.ref a), (.int (0 : Int32))] ∧ Z.Warmed39 U.vm ∧ U.heap = h0) (fun _ _ _ _ _ => True) (fun _ U o U' => ∃ v L, o = .returned v ∧ Qpeek_0 Z a w kw x0 x1 x2 vv h0 n0 v U'.heap L ∧ FrameEnd U o U' L ({ frames := 1, cells := 0, slots := 0, locals := 13 } : Room).cells ({ frames := 1, cells := 0, slots := 0, locals := 13 } : Room).slots) := by
  refine MetFree.of_bodySF (plainFor_of_name pn_0) hisR ?_
  intro p e s m args below meth c s₁ Bd hml0 hP hK
  obtain ⟨rfl, hZ, hh⟩ := hP
  have hx := Bd.exec
  have hby := Bd.bytes
  have hml : c.maxLocals = 2 := hml0
  have hown : s.vm.findClass "com/example/signetry/signetry/card/WordFrame" = some m.cls := findClass_of_methodNamed Bd.named
  have hnm := (name_of_methodNamed Bd.named Bd.method).1
  have X0 : Stand p l e ({ frames := 1, cells := 0, slots := 0, locals := 13 } : Room) s m #[(.ref a), (.int (0 : Int32))] below meth c s₁ [] 0 0 := Stand.of_body Bd
  have e0 : s₁.heap = h0 := by rw [← hh, Bd.state]; rfl
  have N0 := Fr.nil n0
  have Kh : Keep h0 h0 [] := Keep.refl _ _
  suffices H : own_R p e below (own_E s below (Qpeek_0 Z a w kw x0 x1 x2 vv h0 n0) ({ frames := 1, cells := 0, slots := 0, locals := 13 } : Room).cells ({ frames := 1, cells := 0, slots := 0, locals := 13 } : Room).slots) s₁ (mkF m 0 #[.val (.ref a), .val (.int (0 : Int32))] []) by
    obtain ⟨t, hst, hrun, v, L, hend, hQ, hF⟩ := H
    exact ⟨t, _, castTop (ef_peek_0 m a) hst, hrun, hend, v, L, rfl, hQ, hF⟩
  show own_R p e below _ s₁ (mkF m 0 #[.val (.ref a), .val (.int (0 : Int32))] [])
  refine own_go (fun t k => XS.aloadN X0.here hx rfl (hb hby d16_0) rfl rfl  k) ?_
  show own_R p e below _ s₁ (mkF m 1 #[.val (.ref a), .val (.int (0 : Int32))] [(.ref a)])
  refine own_go (fun t k => XS.iloadN X0.here hx rfl (hb hby d16_1) rfl  k) ?_
  show own_R p e below _ s₁ (mkF m 2 #[.val (.ref a), .val (.int (0 : Int32))] [(.int (0 : Int32)), (.ref a)])
  refine own_go (fun t k => XS.iconst X0.here hx rfl (hb hby d16_2) k) ?_
  show own_R p e below _ s₁ (mkF m 3 #[.val (.ref a), .val (.int (0 : Int32))] [(.int (1 : Int32)), (.int (0 : Int32)), (.ref a)])
  refine own_go (fun t k => XS.iadd X0.here hx rfl (hb hby d16_3) rfl k) ?_
  show own_R p e below _ s₁ (mkF m 4 #[.val (.ref a), .val (.int (0 : Int32))] [(.int (1 : Int32)), (.ref a)])
  obtain ⟨cq1, q1, q1'⟩ := E_a.cell
  obtain ⟨_, _, ⟨T1, L1, k1, n1⟩, -, X1, ⟨Lc1, hQ1, l1, y1, z1⟩, st1⟩ := X0.privateBack hx (y := (⟨"com/example/signetry/signetry/card/WordFrame", "requireWords", "(I)V"⟩ : MethodName)) hown (mvT hZ (hw _ (List.mem_of_getElem? (i := 83) rfl))) (mvT hZ (hw _ (List.mem_of_getElem? (i := 84) rfl))) (Jvm.Kit.selects_private (by decide) (mvT hZ (hw _ (List.mem_of_getElem? (i := 1) rfl))) (mvP hZ (hw _ (List.mem_of_getElem? (i := 85) rfl))) (mvT hZ (hw _ (List.mem_of_getElem? (i := 84) rfl)))) (Cond.privateMethod_at (mvP hZ (hw _ (List.mem_of_getElem? (i := 85) rfl)) (args := #[]))) (mvT hZ (hw _ (List.mem_of_getElem? (i := 86) rfl))) (by decide) (backOf (W := 0) (rmrw_pk l Z a0 hw [] a w kw x0 x1 x2 vv h0 n0 (Nat.le_trans Z0 Kh.1) F_words_a F_localCount_a F_maxStack_a F_top_a F_thisUninitialized_a F_localsVersion_a E_a V_w) hZ (hw _ (List.mem_of_getElem? (i := 86) rfl)) (hw _ (List.mem_of_getElem? (i := 2) rfl)) (by decide) (by decide)) (g := (mkF m 4 #[.val (.ref a), .val (.int (0 : Int32))] [(.int (1 : Int32)), (.ref a)])) rfl (by rw [hml]; rfl) (Steps.refl _) (a := a) (by rw [e0]; exact q1) q1' (argsL := [(.int (1 : Int32))]) (rest := []) (lenOf pd_4 rfl) rfl (by show 2 * 0 + _ ≤ _; exact Nat.le_of_eq rfl) (hb hby d16_4) (fun _ _ => ⟨rfl, e0, (by decide : 0 + 0 ≤ _), (by decide : 0 + 0 ≤ _)⟩)
  dsimp only [Pt.U, Pt.locs, Pt.cells, Pt.slots] at X1 l1 y1 z1 st1 hQ1
  subst l1 y1 z1
  obtain ⟨rfl, Nq1, e1⟩ := hQ1
  have N1 := Fr.app N0 Nq1
  refine own_go (fun t k => st1.trans k) ?_
  show own_R p e below _ T1 (mkF m 7 #[.val (.ref a), .val (.int (0 : Int32))] [])
  refine own_go (fun t k => XS.aloadN X1.here hx rfl (hb hby d16_7) rfl rfl  k) ?_
  show own_R p e below _ T1 (mkF m 8 #[.val (.ref a), .val (.int (0 : Int32))] [(.ref a)])
  obtain ⟨T2, X2, e2, st2⟩ := getF X1 hx hZ hown (host := "") (Or.inl (hw _ (List.mem_of_getElem? (i := 10) rfl))) Via.refl e1 F_words_a (g := (mkF m 8 #[.val (.ref a), .val (.int (0 : Int32))] [(.ref a)])) rfl rfl (hb hby d16_8)
  refine own_go (st2) ?_
  show own_R p e below _ T2 (mkF m 11 #[.val (.ref a), .val (.int (0 : Int32))] [(.ref w)])
  refine own_go (fun t k => XS.aloadN X2.here hx rfl (hb hby d16_11) rfl rfl  k) ?_
  show own_R p e below _ T2 (mkF m 12 #[.val (.ref a), .val (.int (0 : Int32))] [(.ref a), (.ref w)])
  obtain ⟨T3, X3, e3, st3⟩ := getF X2 hx hZ hown (host := "") (Or.inl (hw _ (List.mem_of_getElem? (i := 28) rfl))) Via.refl e2 F_top_a (g := (mkF m 12 #[.val (.ref a), .val (.int (0 : Int32))] [(.ref a), (.ref w)])) rfl rfl (hb hby d16_12)
  refine own_go (st3) ?_
  show own_R p e below _ T3 (mkF m 15 #[.val (.ref a), .val (.int (0 : Int32))] [(.int (3 : Int32)), (.ref w)])
  refine own_go (fun t k => XS.iconst X3.here hx rfl (hb hby d16_15) k) ?_
  show own_R p e below _ T3 (mkF m 16 #[.val (.ref a), .val (.int (0 : Int32))] [(.int (1 : Int32)), (.int (3 : Int32)), (.ref w)])
  refine own_go (fun t k => XS.isub X3.here hx rfl (hb hby d16_16) rfl k) ?_
  show own_R p e below _ T3 (mkF m 17 #[.val (.ref a), .val (.int (0 : Int32))] [(.int (2 : Int32)), (.ref w)])
  refine own_go (fun t k => XS.iloadN X3.here hx rfl (hb hby d16_17) rfl  k) ?_
  show own_R p e below _ T3 (mkF m 18 #[.val (.ref a), .val (.int (0 : Int32))] [(.int (0 : Int32)), (.int (2 : Int32)), (.ref w)])
  refine own_go (fun t k => XS.isub X3.here hx rfl (hb hby d16_18) rfl k) ?_
  show own_R p e below _ T3 (mkF m 19 #[.val (.ref a), .val (.int (0 : Int32))] [(.int (2 : Int32)), (.ref w)])
  obtain ⟨cl4, Ar4, q4, S4, Nn4, Hh4, G4⟩ := id V_w
  have hin4 : ¬ ((2 : Int32) < 0 ∨ cl4.slots.size ≤ ((2 : Int32)).toNatClampNeg) := inb_of S4 ⟨by decide, by decide⟩
  have hat4 : cl4.slots[((2 : Int32)).toNatClampNeg]? = some (.int x2) := Has.at Hh4 hin4 rfl
  refine own_go (X3.iaload hx (j := (2 : Int32)) (v := (.int x2)) (by rw [e3]; exact Ar4.1) (State.isArrayOf_alike hZ.alike Ar4.2.1) Ar4.2.2 hin4 hat4 (g := (mkF m 19 #[.val (.ref a), .val (.int (0 : Int32))] [(.int (2 : Int32)), (.ref w)])) rfl rfl (hb hby d16_19)) ?_
  show own_R p e below _ T3 (mkF m 20 #[.val (.ref a), .val (.int (0 : Int32))] [(.int x2)])
  refine own_retW X3 hx Bd.returns rfl (Or.inl ⟨rfl, Or.inl rfl, _, rfl⟩) (BodyLoose.notSynchronized Bd) (hb hby d16_20) (by decide) (by decide) ?_
  exact ⟨rfl, N1, e3⟩
theorem d18_0 : decode prog_110_method_5_code 0 = .ok (.aload_n 0, 1) := by decide +kernel
theorem d18_1 : decode prog_110_method_5_code 1 = .ok (.getfield 28, 3) := by decide +kernel
theorem d18_4 : decode prog_110_method_5_code 4 = .ok (.aload_n 0, 1) := by decide +kernel
theorem d18_5 : decode prog_110_method_5_code 5 = .ok (.getfield 21, 3) := by decide +kernel
theorem d18_8 : decode prog_110_method_5_code 8 = .ok (.isub, 1) := by decide +kernel
theorem d18_9 : decode prog_110_method_5_code 9 = .ok (.ireturn, 1) := by decide +kernel
theorem ef_ssize (m : MethodId) (x0 : Addr) : entryFrame m #[(.ref x0)] 1 = mkF m 0 #[.val (.ref x0)] [] := by first | (simp [entryFrame, mkF, argsToLocals, Value.category]; done) | rfl
def Qssize (Z : State) (a : Addr) (w : Addr) (kw : ClassId) (x0 : Int32) (x1 : Int32) (x2 : Int32) (vv : Int32) (h0 : Heap) (n0 : Nat) (v : Option Value) (h : Heap) (L : List Loc) : Prop := v = some (.int (1 : Int32)) ∧ Fr n0 L ∧ h = h0
set_option maxRecDepth 65536 in
set_option maxHeartbeats 40000000 in
theorem rmssize (l : Launch) (Z : State) (a0 : Array Value) (hw : ∀ d ∈ tables_1, d.before a0 Z = true) (ws : List Jvm.Cond) (a : Addr) (w : Addr) (kw : ClassId) (x0 : Int32) (x1 : Int32) (x2 : Int32) (vv : Int32) (h0 : Heap) (n0 : Nat) (Z0 : n0 ≤ h0.size) (F_words_a : Fld Z h0 a "com/example/signetry/signetry/card/WordFrame" "words" "[I" (.ref w)) (F_localCount_a : Fld Z h0 a "com/example/signetry/signetry/card/WordFrame" "localCount" "I" (.int (2 : Int32))) (F_maxStack_a : Fld Z h0 a "com/example/signetry/signetry/card/WordFrame" "maxStack" "I" (.int (1 : Int32))) (F_top_a : Fld Z h0 a "com/example/signetry/signetry/card/WordFrame" "top" "I" (.int (3 : Int32))) (F_thisUninitialized_a : Fld Z h0 a "com/example/signetry/signetry/card/WordFrame" "thisUninitialized" "Z" (.int (0 : Int32))) (F_localsVersion_a : Fld Z h0 a "com/example/signetry/signetry/card/WordFrame" "localsVersion" "I" (.int vv)) (E_a : Exa Z h0 a "com/example/signetry/signetry/card/WordFrame") (V_w : Arv Z h0 w kw .int (3 : Int32) [(.int x0), (.int x1), (.int x2)] (.int (0 : Int32))) :
    MetFree l (⟨"com/example/signetry/signetry/card/WordFrame", "stackSize", "()I"⟩ : MethodName) (head1 (Jvm.Cond.code (⟨"com/example/signetry/signetry/card/WordFrame", "stackSize", "()I"⟩ : MethodName) prog_110_method_5_code 1 (some .int) :: ws) ({ frames := 0, cells := 0, slots := 0, locals := 0 } : Room)) (fun aS U => aS = #[(.ref a)] ∧ Z.Warmed39 U.vm ∧ U.heap = h0) (fun _ _ _ _ _ => True) (fun _ U o U' => ∃ v L, o = .returned v ∧ Qssize Z a w kw x0 x1 x2 vv h0 n0 v U'.heap L ∧ FrameEnd U o U' L ({ frames := 0, cells := 0, slots := 0, locals := 0 } : Room).cells ({ frames := 0, cells := 0, slots := 0, locals := 0 } : Room).slots) := by
  refine MetFree.of_bodySF (plainFor_of_name pn_0) hisR ?_
  intro p e s m args below meth c s₁ Bd hml0 hP hK
  obtain ⟨rfl, hZ, hh⟩ := hP
  have hx := Bd.exec
  have hby := Bd.bytes
  have hml : c.maxLocals = 1 := hml0
  have hown : s.vm.findClass "com/example/signetry/signetry/card/WordFrame" = some m.cls := findClass_of_methodNamed Bd.named
  have hnm := (name_of_methodNamed Bd.named Bd.method).1
  have X0 : Stand p l e ({ frames := 0, cells := 0, slots := 0, locals := 0 } : Room) s m #[(.ref a)] below meth c s₁ [] 0 0 := Stand.of_body Bd
  have e0 : s₁.heap = h0 := by rw [← hh, Bd.state]; rfl
  have N0 := Fr.nil n0
  have Kh : Keep h0 h0 [] := Keep.refl _ _
  suffices H : own_R p e below (own_E s below (Qssize Z a w kw x0 x1 x2 vv h0 n0) ({ frames := 0, cells := 0, slots := 0, locals := 0 } : Room).cells ({ frames := 0, cells := 0, slots := 0, locals := 0 } : Room).slots) s₁ (mkF m 0 #[.val (.ref a)] []) by
    obtain ⟨t, hst, hrun, v, L, hend, hQ, hF⟩ := H
    exact ⟨t, _, castTop (ef_ssize m a) hst, hrun, hend, v, L, rfl, hQ, hF⟩
  show own_R p e below _ s₁ (mkF m 0 #[.val (.ref a)] [])
  refine own_go (fun t k => XS.aloadN X0.here hx rfl (hb hby d18_0) rfl rfl  k) ?_
  show own_R p e below _ s₁ (mkF m 1 #[.val (.ref a)] [(.ref a)])
  obtain ⟨T1, X1, e1, st1⟩ := getF X0 hx hZ hown (host := "") (Or.inl (hw _ (List.mem_of_getElem? (i := 28) rfl))) Via.refl e0 F_top_a (g := (mkF m 1 #[.val (.ref a)] [(.ref a)])) rfl rfl (hb hby d18_1)
  refine own_go (st1) ?_
  show own_R p e below _ T1 (mkF m 4 #[.val (.ref a)] [(.int (3 : Int32))])
  refine own_go (fun t k => XS.aloadN X1.here hx rfl (hb hby d18_4) rfl rfl  k) ?_
  show own_R p e below _ T1 (mkF m 5 #[.val (.ref a)] [(.ref a), (.int (3 : Int32))])
  obtain ⟨T2, X2, e2, st2⟩ := getF X1 hx hZ hown (host := "") (Or.inl (hw _ (List.mem_of_getElem? (i := 24) rfl))) Via.refl e1 F_localCount_a (g := (mkF m 5 #[.val (.ref a)] [(.ref a), (.int (3 : Int32))])) rfl rfl (hb hby d18_5)
  refine own_go (st2) ?_
  show own_R p e below _ T2 (mkF m 8 #[.val (.ref a)] [(.int (2 : Int32)), (.int (3 : Int32))])
  refine own_go (fun t k => XS.isub X2.here hx rfl (hb hby d18_8) rfl k) ?_
  show own_R p e below _ T2 (mkF m 9 #[.val (.ref a)] [(.int (1 : Int32))])
  refine own_retW X2 hx Bd.returns rfl (Or.inl ⟨rfl, Or.inl rfl, _, rfl⟩) (BodyLoose.notSynchronized Bd) (hb hby d18_9) (by decide) (by decide) ?_
  exact ⟨rfl, N0, e2⟩
theorem d13_0 : decode method_3_code 0 = .ok (.iload_n 0, 1) := by decide +kernel
theorem d13_1 : decode method_3_code 1 = .ok (.iload_n 1, 1) := by decide +kernel
theorem d13_2 : decode method_3_code 2 = .ok (.if_icmp .ne 7, 3) := by decide +kernel
theorem d13_5 : decode method_3_code 5 = .ok (.iconst 1, 1) := by decide +kernel
theorem d13_6 : decode method_3_code 6 = .ok (.goto 4, 3) := by decide +kernel
theorem d13_9 : decode method_3_code 9 = .ok (.iconst 0, 1) := by decide +kernel
theorem d13_10 : decode method_3_code 10 = .ok (.ireturn, 1) := by decide +kernel
theorem pn_2 : plainName "com/example/signetry/signetry/card/WordFrameReplaceAllPinLaw" = true := by first | (simp [plainName, overriddenIn]; done) | decide +kernel
theorem ef_13 (m : MethodId) (x0 : Int32) (x1 : Int32) : entryFrame m #[(.int x0), (.int x1)] 2 = mkF m 0 #[.val (.int x0), .val (.int x1)] [] := by first | (simp [entryFrame, mkF, argsToLocals, Value.category]; done) | rfl
def Q13 (Z : State) (p1 : Int32) (p2 : Int32) (h0 : Heap) (n0 : Nat) (v : Option Value) (h : Heap) (L : List Loc) : Prop := v = some (.int (if p1 = p2 then (1 : Int32) else (0 : Int32))) ∧ Fr n0 L ∧ h = h0
set_option maxRecDepth 65536 in
set_option maxHeartbeats 40000000 in
theorem rm13 (l : Launch) (Z : State) (a0 : Array Value) (hw : ∀ d ∈ tables_1, d.before a0 Z = true) (ws : List Jvm.Cond) (p1 : Int32) (p2 : Int32) (h0 : Heap) (n0 : Nat) (Z0 : n0 ≤ h0.size) :
    MetFree l (⟨"com/example/signetry/signetry/card/WordFrameReplaceAllPinLaw", "hit", "(II)I"⟩ : MethodName) (head1 (Jvm.Cond.code (⟨"com/example/signetry/signetry/card/WordFrameReplaceAllPinLaw", "hit", "(II)I"⟩ : MethodName) method_3_code 2 (some .int) :: ws) ({ frames := 0, cells := 0, slots := 0, locals := 0 } : Room)) (fun aS U => aS = #[(.int p1), (.int p2)] ∧ Z.Warmed39 U.vm ∧ U.heap = h0) (fun _ _ _ _ _ => True) (fun _ U o U' => ∃ v L, o = .returned v ∧ Q13 Z p1 p2 h0 n0 v U'.heap L ∧ FrameEnd U o U' L ({ frames := 0, cells := 0, slots := 0, locals := 0 } : Room).cells ({ frames := 0, cells := 0, slots := 0, locals := 0 } : Room).slots) := by
  refine MetFree.of_bodySF (plainFor_of_name pn_2) hisR ?_
  intro p e s m args below meth c s₁ Bd hml0 hP hK
  obtain ⟨rfl, hZ, hh⟩ := hP
  have hx := Bd.exec
  have hby := Bd.bytes
  have hml : c.maxLocals = 2 := hml0
  have hown : s.vm.findClass "com/example/signetry/signetry/card/WordFrameReplaceAllPinLaw" = some m.cls := findClass_of_methodNamed Bd.named
  have hnm := (name_of_methodNamed Bd.named Bd.method).1
  have X0 : Stand p l e ({ frames := 0, cells := 0, slots := 0, locals := 0 } : Room) s m #[(.int p1), (.int p2)] below meth c s₁ [] 0 0 := Stand.of_body Bd
  have e0 : s₁.heap = h0 := by rw [← hh, Bd.state]; rfl
  have N0 := Fr.nil n0
  have Kh : Keep h0 h0 [] := Keep.refl _ _
  suffices H : own_R p e below (own_E s below (Q13 Z p1 p2 h0 n0) ({ frames := 0, cells := 0, slots := 0, locals := 0 } : Room).cells ({ frames := 0, cells := 0, slots := 0, locals := 0 } : Room).slots) s₁ (mkF m 0 #[.val (.int p1), .val (.int p2)] []) by
    obtain ⟨t, hst, hrun, v, L, hend, hQ, hF⟩ := H
    exact ⟨t, _, castTop (ef_13 m p1 p2) hst, hrun, hend, v, L, rfl, hQ, hF⟩
  show own_R p e below _ s₁ (mkF m 0 #[.val (.int p1), .val (.int p2)] [])
  refine own_go (fun t k => XS.iloadN X0.here hx rfl (hb hby d13_0) rfl  k) ?_
  show own_R p e below _ s₁ (mkF m 1 #[.val (.int p1), .val (.int p2)] [(.int p1)])
  refine own_go (fun t k => XS.iloadN X0.here hx rfl (hb hby d13_1) rfl  k) ?_
  show own_R p e below _ s₁ (mkF m 2 #[.val (.int p1), .val (.int p2)] [(.int p2), (.int p1)])
  by_cases hc2_1 : p1 = p2
  · -- pc 2: yes
    refine own_go (fun t k => XS.icmpNo X0.here hx rfl (hb hby d13_2) rfl (teq hc2_1).2 k) ?_
    show own_R p e below _ s₁ (mkF m 5 #[.val (.int p1), .val (.int p2)] [])
    refine own_go (fun t k => XS.iconst X0.here hx rfl (hb hby d13_5) k) ?_
    show own_R p e below _ s₁ (mkF m 6 #[.val (.int p1), .val (.int p2)] [(.int (1 : Int32))])
    refine own_go (fun t k => XS.goto X0.here hx rfl (pc0 := 6) (pc' := 10) rfl (hb hby d13_6) (by decide) (by decide) k) ?_
    show own_R p e below _ s₁ (mkF m 10 #[.val (.int p1), .val (.int p2)] [(.int (1 : Int32))])
    refine own_retW X0 hx Bd.returns rfl (Or.inl ⟨rfl, Or.inl rfl, _, rfl⟩) (BodyLoose.notSynchronized Bd) (hb hby d13_10) (by decide) (by decide) ?_
    exact ⟨(by simp only [if_pos hc2_1]), N0, e0⟩
  · -- pc 2: no
    refine own_go (fun t k => XS.icmpYes X0.here hx rfl (pc0 := 2) (pc' := 9) rfl (hb hby d13_2) rfl (feq hc2_1).2 (by decide) (by decide) k) ?_
    show own_R p e below _ s₁ (mkF m 9 #[.val (.int p1), .val (.int p2)] [])
    refine own_go (fun t k => XS.iconst X0.here hx rfl (hb hby d13_9) k) ?_
    show own_R p e below _ s₁ (mkF m 10 #[.val (.int p1), .val (.int p2)] [(.int (0 : Int32))])
    refine own_retW X0 hx Bd.returns rfl (Or.inl ⟨rfl, Or.inl rfl, _, rfl⟩) (BodyLoose.notSynchronized Bd) (hb hby d13_10) (by decide) (by decide) ?_
    exact ⟨(by simp only [if_neg hc2_1]), N0, e0⟩
theorem d15_0 : decode method_2_code 0 = .ok (.iload_n 0, 1) := by decide +kernel
theorem d15_1 : decode method_2_code 1 = .ok (.iload_n 1, 1) := by decide +kernel
theorem d15_2 : decode method_2_code 2 = .ok (.if_icmp .ne 7, 3) := by decide +kernel
theorem d15_5 : decode method_2_code 5 = .ok (.iload_n 2, 1) := by decide +kernel
theorem d15_6 : decode method_2_code 6 = .ok (.goto 4, 3) := by decide +kernel
theorem d15_9 : decode method_2_code 9 = .ok (.iload_n 0, 1) := by decide +kernel
theorem d15_10 : decode method_2_code 10 = .ok (.ireturn, 1) := by decide +kernel
theorem ef_15 (m : MethodId) (x0 : Int32) (x1 : Int32) (x2 : Int32) : entryFrame m #[(.int x0), (.int x1), (.int x2)] 3 = mkF m 0 #[.val (.int x0), .val (.int x1), .val (.int x2)] [] := by first | (simp [entryFrame, mkF, argsToLocals, Value.category]; done) | rfl
def Q15 (Z : State) (p1 : Int32) (p2 : Int32) (p3 : Int32) (h0 : Heap) (n0 : Nat) (v : Option Value) (h : Heap) (L : List Loc) : Prop := v = some (.int (if p1 = p2 then p3 else p1)) ∧ Fr n0 L ∧ h = h0
set_option maxRecDepth 65536 in
set_option maxHeartbeats 40000000 in
theorem rm15 (l : Launch) (Z : State) (a0 : Array Value) (hw : ∀ d ∈ tables_1, d.before a0 Z = true) (ws : List Jvm.Cond) (p1 : Int32) (p2 : Int32) (p3 : Int32) (h0 : Heap) (n0 : Nat) (Z0 : n0 ≤ h0.size) :
    MetFree l (⟨"com/example/signetry/signetry/card/WordFrameReplaceAllPinLaw", "expect", "(III)I"⟩ : MethodName) (head1 (Jvm.Cond.code (⟨"com/example/signetry/signetry/card/WordFrameReplaceAllPinLaw", "expect", "(III)I"⟩ : MethodName) method_2_code 3 (some .int) :: ws) ({ frames := 0, cells := 0, slots := 0, locals := 0 } : Room)) (fun aS U => aS = #[(.int p1), (.int p2), (.int p3)] ∧ Z.Warmed39 U.vm ∧ U.heap = h0) (fun _ _ _ _ _ => True) (fun _ U o U' => ∃ v L, o = .returned v ∧ Q15 Z p1 p2 p3 h0 n0 v U'.heap L ∧ FrameEnd U o U' L ({ frames := 0, cells := 0, slots := 0, locals := 0 } : Room).cells ({ frames := 0, cells := 0, slots := 0, locals := 0 } : Room).slots) := by
  refine MetFree.of_bodySF (plainFor_of_name pn_2) hisR ?_
  intro p e s m args below meth c s₁ Bd hml0 hP hK
  obtain ⟨rfl, hZ, hh⟩ := hP
  have hx := Bd.exec
  have hby := Bd.bytes
  have hml : c.maxLocals = 3 := hml0
  have hown : s.vm.findClass "com/example/signetry/signetry/card/WordFrameReplaceAllPinLaw" = some m.cls := findClass_of_methodNamed Bd.named
  have hnm := (name_of_methodNamed Bd.named Bd.method).1
  have X0 : Stand p l e ({ frames := 0, cells := 0, slots := 0, locals := 0 } : Room) s m #[(.int p1), (.int p2), (.int p3)] below meth c s₁ [] 0 0 := Stand.of_body Bd
  have e0 : s₁.heap = h0 := by rw [← hh, Bd.state]; rfl
  have N0 := Fr.nil n0
  have Kh : Keep h0 h0 [] := Keep.refl _ _
  suffices H : own_R p e below (own_E s below (Q15 Z p1 p2 p3 h0 n0) ({ frames := 0, cells := 0, slots := 0, locals := 0 } : Room).cells ({ frames := 0, cells := 0, slots := 0, locals := 0 } : Room).slots) s₁ (mkF m 0 #[.val (.int p1), .val (.int p2), .val (.int p3)] []) by
    obtain ⟨t, hst, hrun, v, L, hend, hQ, hF⟩ := H
    exact ⟨t, _, castTop (ef_15 m p1 p2 p3) hst, hrun, hend, v, L, rfl, hQ, hF⟩
  show own_R p e below _ s₁ (mkF m 0 #[.val (.int p1), .val (.int p2), .val (.int p3)] [])
  refine own_go (fun t k => XS.iloadN X0.here hx rfl (hb hby d15_0) rfl  k) ?_
  show own_R p e below _ s₁ (mkF m 1 #[.val (.int p1), .val (.int p2), .val (.int p3)] [(.int p1)])
  refine own_go (fun t k => XS.iloadN X0.here hx rfl (hb hby d15_1) rfl  k) ?_
  show own_R p e below _ s₁ (mkF m 2 #[.val (.int p1), .val (.int p2), .val (.int p3)] [(.int p2), (.int p1)])
  by_cases hc2_1 : p1 = p2
  · -- pc 2: yes
    refine own_go (fun t k => XS.icmpNo X0.here hx rfl (hb hby d15_2) rfl (teq hc2_1).2 k) ?_
    show own_R p e below _ s₁ (mkF m 5 #[.val (.int p1), .val (.int p2), .val (.int p3)] [])
    refine own_go (fun t k => XS.iloadN X0.here hx rfl (hb hby d15_5) rfl  k) ?_
    show own_R p e below _ s₁ (mkF m 6 #[.val (.int p1), .val (.int p2), .val (.int p3)] [(.int p3)])
    refine own_go (fun t k => XS.goto X0.here hx rfl (pc0 := 6) (pc' := 10) rfl (hb hby d15_6) (by decide) (by decide) k) ?_
    show own_R p e below _ s₁ (mkF m 10 #[.val (.int p1), .val (.int p2), .val (.int p3)] [(.int p3)])
    refine own_retW X0 hx Bd.returns rfl (Or.inl ⟨rfl, Or.inl rfl, _, rfl⟩) (BodyLoose.notSynchronized Bd) (hb hby d15_10) (by decide) (by decide) ?_
    exact ⟨(by simp only [if_pos hc2_1]), N0, e0⟩
  · -- pc 2: no
    refine own_go (fun t k => XS.icmpYes X0.here hx rfl (pc0 := 2) (pc' := 9) rfl (hb hby d15_2) rfl (feq hc2_1).2 (by decide) (by decide) k) ?_
    show own_R p e below _ s₁ (mkF m 9 #[.val (.int p1), .val (.int p2), .val (.int p3)] [])
    refine own_go (fun t k => XS.iloadN X0.here hx rfl (hb hby d15_9) rfl  k) ?_
    show own_R p e below _ s₁ (mkF m 10 #[.val (.int p1), .val (.int p2), .val (.int p3)] [(.int p1)])
    refine own_retW X0 hx Bd.returns rfl (Or.inl ⟨rfl, Or.inl rfl, _, rfl⟩) (BodyLoose.notSynchronized Bd) (hb hby d15_10) (by decide) (by decide) ?_
    exact ⟨(by simp only [if_neg hc2_1]), N0, e0⟩
theorem own_ver (a b c f : Int32) : ((((3 : Int32) + (if a = f then (1 : Int32) else (0 : Int32))) + (if b = f then (1 : Int32) else (0 : Int32))) + (if c = f then (1 : Int32) else (0 : Int32))) = (3 : Int32) ↔ (((if a = f then (1 : Int32) else (0 : Int32)) + (if b = f then (1 : Int32) else (0 : Int32))) + (if c = f then (1 : Int32) else (0 : Int32))) = (0 : Int32) := by
  split <;> split <;> split <;> decide
theorem ef_0 (m : MethodId) (x0 : Int32) (x1 : Int32) (x2 : Int32) (x3 : Int32) (x4 : Int32) (x5 : Int32) : entryFrame m #[(.int x0), (.int x1), (.int x2), (.int x3), (.int x4), (.int x5)] maxLocals = mkF m 0 #[.val (.int x0), .val (.int x1), .val (.int x2), .val (.int x3), .val (.int x4), .val (.int x5), .unset, .unset, .unset, .unset, .unset, .unset, .unset, .unset, .unset] [] := by first | (simp [entryFrame, mkF, argsToLocals, Value.category, maxLocals]; done) | rfl
def Q0 (Z : State) (p0 : Int32) (p1 : Int32) (p2 : Int32) (p3 : Int32) (p4 : Int32) (p5 : Int32) (h0 : Heap) (n0 : Nat) (v : Option Value) (h : Heap) (L : List Loc) : Prop := v = some (.int (1 : Int32)) ∧ Fr n0 L
set_option maxRecDepth 65536 in
set_option maxHeartbeats 40000000 in
theorem rm0 (l : Launch) (Z : State) (a0 : Array Value) (hw : ∀ d ∈ tables_1, d.before a0 Z = true) (ws : List Jvm.Cond) (p0 : Int32) (p1 : Int32) (p2 : Int32) (p3 : Int32) (p4 : Int32) (p5 : Int32) (h0 : Heap) (n0 : Nat) (Z0 : n0 ≤ h0.size) :
    MetFree l x (head1 (Jvm.Cond.code x code maxLocals ret :: ws) room_1) (fun aS U => aS = #[(.int p0), (.int p1), (.int p2), (.int p3), (.int p4), (.int p5)] ∧ Z.Warmed39 U.vm ∧ U.heap = h0) (fun _ _ _ _ _ => True) (fun _ U o U' => ∃ v L, o = .returned v ∧ Q0 Z p0 p1 p2 p3 p4 p5 h0 n0 v U'.heap L ∧ FrameEnd U o U' L room_1.cells room_1.slots) := by
  refine MetFree.of_bodySF (plainFor_of_name pn_2) hisR ?_
  intro p e s m args below meth c s₁ Bd hml0 hP hK
  obtain ⟨rfl, hZ, hh⟩ := hP
  have hx := Bd.exec
  have hby := Bd.bytes
  have hml : c.maxLocals = 15 := hml0
  have hown : s.vm.findClass "com/example/signetry/signetry/card/WordFrameReplaceAllPinLaw" = some m.cls := findClass_of_methodNamed Bd.named
  have hnm := (name_of_methodNamed Bd.named Bd.method).1
  have X0 : Stand p l e room_1 s m #[(.int p0), (.int p1), (.int p2), (.int p3), (.int p4), (.int p5)] below meth c s₁ [] 0 0 := Stand.of_body Bd
  have e0 : s₁.heap = h0 := by rw [← hh, Bd.state]; rfl
  have N0 := Fr.nil n0
  have Kh : Keep h0 h0 [] := Keep.refl _ _
  suffices H : own_R p e below (own_E s below (Q0 Z p0 p1 p2 p3 p4 p5 h0 n0) room_1.cells room_1.slots) s₁ (mkF m 0 #[.val (.int p0), .val (.int p1), .val (.int p2), .val (.int p3), .val (.int p4), .val (.int p5), .unset, .unset, .unset, .unset, .unset, .unset, .unset, .unset, .unset] []) by
    obtain ⟨t, hst, hrun, v, L, hend, hQ, hF⟩ := H
    exact ⟨t, _, castTop (ef_0 m p0 p1 p2 p3 p4 p5) hst, hrun, hend, v, L, rfl, hQ, hF⟩
  show own_R p e below _ s₁ (mkF m 0 #[.val (.int p0), .val (.int p1), .val (.int p2), .val (.int p3), .val (.int p4), .val (.int p5), .unset, .unset, .unset, .unset, .unset, .unset, .unset, .unset, .unset] [])
  refine own_go (fun t k => XS.iload X0.here hx rfl (hb hby at_0) rfl  k) ?_
  show own_R p e below _ s₁ (mkF m 2 #[.val (.int p0), .val (.int p1), .val (.int p2), .val (.int p3), .val (.int p4), .val (.int p5), .unset, .unset, .unset, .unset, .unset, .unset, .unset, .unset, .unset] [(.int p5)])
  refine own_go (fun t k => XS.iconst X0.here hx rfl (hb hby at_2) k) ?_
  show own_R p e below _ s₁ (mkF m 3 #[.val (.int p0), .val (.int p1), .val (.int p2), .val (.int p3), .val (.int p4), .val (.int p5), .unset, .unset, .unset, .unset, .unset, .unset, .unset, .unset, .unset] [(.int (3 : Int32)), (.int p5)])
  refine own_go (fun t k => XS.iand X0.here hx rfl (hb hby at_3) rfl k) ?_
  show own_R p e below _ s₁ (mkF m 4 #[.val (.int p0), .val (.int p1), .val (.int p2), .val (.int p3), .val (.int p4), .val (.int p5), .unset, .unset, .unset, .unset, .unset, .unset, .unset, .unset, .unset] [(.int (p5 &&& (3 : Int32)))])
  refine own_go (fun t k => XS.istore X0.here hx rfl (hb hby at_4) rfl (l' := #[.val (.int p0), .val (.int p1), .val (.int p2), .val (.int p3), .val (.int p4), .val (.int p5), .val (.int (p5 &&& (3 : Int32))), .unset, .unset, .unset, .unset, .unset, .unset, .unset, .unset]) rfl k) ?_
  show own_R p e below _ s₁ (mkF m 6 #[.val (.int p0), .val (.int p1), .val (.int p2), .val (.int p3), .val (.int p4), .val (.int p5), .val (.int (p5 &&& (3 : Int32))), .unset, .unset, .unset, .unset, .unset, .unset, .unset, .unset] [])
  obtain ⟨se, hse⟩ : ∃ z, z = (p5 &&& (3 : Int32)) := ⟨_, rfl⟩
  rw [← hse]
  show own_R p e below _ s₁ (mkF m 6 #[.val (.int p0), .val (.int p1), .val (.int p2), .val (.int p3), .val (.int p4), .val (.int p5), .val (.int se), .unset, .unset, .unset, .unset, .unset, .unset, .unset, .unset] [])
  obtain ⟨_, st1, T1, L1, rfl, X1, e1, N1⟩ : own_R p e below (own_K p l e _ s m _ below meth c n0 0 0 (fun h => h = h0) (mkF m 44 #[.val (.int p0), .val (.int p1), .val (.int p2), .val (.int p3), .val (.int p4), .val (.int p5), .val (.int se), .val (.int (if se = (0 : Int32) then p0 else if se = (1 : Int32) then p1 else if se = (2 : Int32) then p2 else p3)), .unset, .unset, .unset, .unset, .unset, .unset, .unset] [])) s₁ (mkF m 6 #[.val (.int p0), .val (.int p1), .val (.int p2), .val (.int p3), .val (.int p4), .val (.int p5), .val (.int se), .unset, .unset, .unset, .unset, .unset, .unset, .unset, .unset] []) := by
    refine own_go (fun t k => XS.iload X0.here hx rfl (hb hby at_6) rfl  k) ?_
    show own_R p e below _ s₁ (mkF m 8 #[.val (.int p0), .val (.int p1), .val (.int p2), .val (.int p3), .val (.int p4), .val (.int p5), .val (.int se), .unset, .unset, .unset, .unset, .unset, .unset, .unset, .unset] [(.int se)])
    by_cases hc8_2 : se = (0 : Int32)
    · -- pc 8: yes
      refine own_go (fun t k => XS.ifNo X0.here hx rfl (hb hby at_8) rfl ((if0 _ _).trans (teq hc8_2).2) k) ?_
      show own_R p e below _ s₁ (mkF m 11 #[.val (.int p0), .val (.int p1), .val (.int p2), .val (.int p3), .val (.int p4), .val (.int p5), .val (.int se), .unset, .unset, .unset, .unset, .unset, .unset, .unset, .unset] [])
      refine own_go (fun t k => XS.iloadN X0.here hx rfl (hb hby at_11) rfl  k) ?_
      show own_R p e below _ s₁ (mkF m 12 #[.val (.int p0), .val (.int p1), .val (.int p2), .val (.int p3), .val (.int p4), .val (.int p5), .val (.int se), .unset, .unset, .unset, .unset, .unset, .unset, .unset, .unset] [(.int p0)])
      refine own_go (fun t k => XS.istore X0.here hx rfl (hb hby at_12) rfl (l' := #[.val (.int p0), .val (.int p1), .val (.int p2), .val (.int p3), .val (.int p4), .val (.int p5), .val (.int se), .val (.int p0), .unset, .unset, .unset, .unset, .unset, .unset, .unset]) rfl k) ?_
      show own_R p e below _ s₁ (mkF m 14 #[.val (.int p0), .val (.int p1), .val (.int p2), .val (.int p3), .val (.int p4), .val (.int p5), .val (.int se), .val (.int p0), .unset, .unset, .unset, .unset, .unset, .unset, .unset] [])
      refine own_go (fun t k => XS.goto X0.here hx rfl (pc0 := 14) (pc' := 44) rfl (hb hby at_14) (by decide) (by decide) k) ?_
      show own_R p e below _ s₁ (mkF m 44 #[.val (.int p0), .val (.int p1), .val (.int p2), .val (.int p3), .val (.int p4), .val (.int p5), .val (.int se), .val (.int p0), .unset, .unset, .unset, .unset, .unset, .unset, .unset] [])
      have hv3 : (if se = (0 : Int32) then p0 else if se = (1 : Int32) then p1 else if se = (2 : Int32) then p2 else p3) = p0 := by simp only [if_pos hc8_2]
      rw [hv3]
      exact own_here X0 e0 N0
    · -- pc 8: no
      refine own_go (fun t k => XS.ifYes X0.here hx rfl (pc0 := 8) (pc' := 17) rfl (hb hby at_8) rfl ((if0 _ _).trans (feq hc8_2).2) (by decide) (by decide) k) ?_
      show own_R p e below _ s₁ (mkF m 17 #[.val (.int p0), .val (.int p1), .val (.int p2), .val (.int p3), .val (.int p4), .val (.int p5), .val (.int se), .unset, .unset, .unset, .unset, .unset, .unset, .unset, .unset] [])
      refine own_go (fun t k => XS.iload X0.here hx rfl (hb hby at_17) rfl  k) ?_
      show own_R p e below _ s₁ (mkF m 19 #[.val (.int p0), .val (.int p1), .val (.int p2), .val (.int p3), .val (.int p4), .val (.int p5), .val (.int se), .unset, .unset, .unset, .unset, .unset, .unset, .unset, .unset] [(.int se)])
      refine own_go (fun t k => XS.iconst X0.here hx rfl (hb hby at_19) k) ?_
      show own_R p e below _ s₁ (mkF m 20 #[.val (.int p0), .val (.int p1), .val (.int p2), .val (.int p3), .val (.int p4), .val (.int p5), .val (.int se), .unset, .unset, .unset, .unset, .unset, .unset, .unset, .unset] [(.int (1 : Int32)), (.int se)])
      by_cases hc20_4 : se = (1 : Int32)
      · -- pc 20: yes
        refine own_go (fun t k => XS.icmpNo X0.here hx rfl (hb hby at_20) rfl (teq hc20_4).2 k) ?_
        show own_R p e below _ s₁ (mkF m 23 #[.val (.int p0), .val (.int p1), .val (.int p2), .val (.int p3), .val (.int p4), .val (.int p5), .val (.int se), .unset, .unset, .unset, .unset, .unset, .unset, .unset, .unset] [])
        refine own_go (fun t k => XS.iloadN X0.here hx rfl (hb hby at_23) rfl  k) ?_
        show own_R p e below _ s₁ (mkF m 24 #[.val (.int p0), .val (.int p1), .val (.int p2), .val (.int p3), .val (.int p4), .val (.int p5), .val (.int se), .unset, .unset, .unset, .unset, .unset, .unset, .unset, .unset] [(.int p1)])
        refine own_go (fun t k => XS.istore X0.here hx rfl (hb hby at_24) rfl (l' := #[.val (.int p0), .val (.int p1), .val (.int p2), .val (.int p3), .val (.int p4), .val (.int p5), .val (.int se), .val (.int p1), .unset, .unset, .unset, .unset, .unset, .unset, .unset]) rfl k) ?_
        show own_R p e below _ s₁ (mkF m 26 #[.val (.int p0), .val (.int p1), .val (.int p2), .val (.int p3), .val (.int p4), .val (.int p5), .val (.int se), .val (.int p1), .unset, .unset, .unset, .unset, .unset, .unset, .unset] [])
        refine own_go (fun t k => XS.goto X0.here hx rfl (pc0 := 26) (pc' := 44) rfl (hb hby at_26) (by decide) (by decide) k) ?_
        show own_R p e below _ s₁ (mkF m 44 #[.val (.int p0), .val (.int p1), .val (.int p2), .val (.int p3), .val (.int p4), .val (.int p5), .val (.int se), .val (.int p1), .unset, .unset, .unset, .unset, .unset, .unset, .unset] [])
        have hv5 : (if se = (0 : Int32) then p0 else if se = (1 : Int32) then p1 else if se = (2 : Int32) then p2 else p3) = p1 := by simp only [if_neg hc8_2, if_pos hc20_4]
        rw [hv5]
        exact own_here X0 e0 N0
      · -- pc 20: no
        refine own_go (fun t k => XS.icmpYes X0.here hx rfl (pc0 := 20) (pc' := 29) rfl (hb hby at_20) rfl (feq hc20_4).2 (by decide) (by decide) k) ?_
        show own_R p e below _ s₁ (mkF m 29 #[.val (.int p0), .val (.int p1), .val (.int p2), .val (.int p3), .val (.int p4), .val (.int p5), .val (.int se), .unset, .unset, .unset, .unset, .unset, .unset, .unset, .unset] [])
        refine own_go (fun t k => XS.iload X0.here hx rfl (hb hby at_29) rfl  k) ?_
        show own_R p e below _ s₁ (mkF m 31 #[.val (.int p0), .val (.int p1), .val (.int p2), .val (.int p3), .val (.int p4), .val (.int p5), .val (.int se), .unset, .unset, .unset, .unset, .unset, .unset, .unset, .unset] [(.int se)])
        refine own_go (fun t k => XS.iconst X0.here hx rfl (hb hby at_31) k) ?_
        show own_R p e below _ s₁ (mkF m 32 #[.val (.int p0), .val (.int p1), .val (.int p2), .val (.int p3), .val (.int p4), .val (.int p5), .val (.int se), .unset, .unset, .unset, .unset, .unset, .unset, .unset, .unset] [(.int (2 : Int32)), (.int se)])
        by_cases hc32_6 : se = (2 : Int32)
        · -- pc 32: yes
          refine own_go (fun t k => XS.icmpNo X0.here hx rfl (hb hby at_32) rfl (teq hc32_6).2 k) ?_
          show own_R p e below _ s₁ (mkF m 35 #[.val (.int p0), .val (.int p1), .val (.int p2), .val (.int p3), .val (.int p4), .val (.int p5), .val (.int se), .unset, .unset, .unset, .unset, .unset, .unset, .unset, .unset] [])
          refine own_go (fun t k => XS.iloadN X0.here hx rfl (hb hby at_35) rfl  k) ?_
          show own_R p e below _ s₁ (mkF m 36 #[.val (.int p0), .val (.int p1), .val (.int p2), .val (.int p3), .val (.int p4), .val (.int p5), .val (.int se), .unset, .unset, .unset, .unset, .unset, .unset, .unset, .unset] [(.int p2)])
          refine own_go (fun t k => XS.istore X0.here hx rfl (hb hby at_36) rfl (l' := #[.val (.int p0), .val (.int p1), .val (.int p2), .val (.int p3), .val (.int p4), .val (.int p5), .val (.int se), .val (.int p2), .unset, .unset, .unset, .unset, .unset, .unset, .unset]) rfl k) ?_
          show own_R p e below _ s₁ (mkF m 38 #[.val (.int p0), .val (.int p1), .val (.int p2), .val (.int p3), .val (.int p4), .val (.int p5), .val (.int se), .val (.int p2), .unset, .unset, .unset, .unset, .unset, .unset, .unset] [])
          refine own_go (fun t k => XS.goto X0.here hx rfl (pc0 := 38) (pc' := 44) rfl (hb hby at_38) (by decide) (by decide) k) ?_
          show own_R p e below _ s₁ (mkF m 44 #[.val (.int p0), .val (.int p1), .val (.int p2), .val (.int p3), .val (.int p4), .val (.int p5), .val (.int se), .val (.int p2), .unset, .unset, .unset, .unset, .unset, .unset, .unset] [])
          have hv7 : (if se = (0 : Int32) then p0 else if se = (1 : Int32) then p1 else if se = (2 : Int32) then p2 else p3) = p2 := by simp only [if_neg hc8_2, if_neg hc20_4, if_pos hc32_6]
          rw [hv7]
          exact own_here X0 e0 N0
        · -- pc 32: no
          refine own_go (fun t k => XS.icmpYes X0.here hx rfl (pc0 := 32) (pc' := 41) rfl (hb hby at_32) rfl (feq hc32_6).2 (by decide) (by decide) k) ?_
          show own_R p e below _ s₁ (mkF m 41 #[.val (.int p0), .val (.int p1), .val (.int p2), .val (.int p3), .val (.int p4), .val (.int p5), .val (.int se), .unset, .unset, .unset, .unset, .unset, .unset, .unset, .unset] [])
          refine own_go (fun t k => XS.iloadN X0.here hx rfl (hb hby at_41) rfl  k) ?_
          show own_R p e below _ s₁ (mkF m 42 #[.val (.int p0), .val (.int p1), .val (.int p2), .val (.int p3), .val (.int p4), .val (.int p5), .val (.int se), .unset, .unset, .unset, .unset, .unset, .unset, .unset, .unset] [(.int p3)])
          refine own_go (fun t k => XS.istore X0.here hx rfl (hb hby at_42) rfl (l' := #[.val (.int p0), .val (.int p1), .val (.int p2), .val (.int p3), .val (.int p4), .val (.int p5), .val (.int se), .val (.int p3), .unset, .unset, .unset, .unset, .unset, .unset, .unset]) rfl k) ?_
          show own_R p e below _ s₁ (mkF m 44 #[.val (.int p0), .val (.int p1), .val (.int p2), .val (.int p3), .val (.int p4), .val (.int p5), .val (.int se), .val (.int p3), .unset, .unset, .unset, .unset, .unset, .unset, .unset] [])
          have hv8 : (if se = (0 : Int32) then p0 else if se = (1 : Int32) then p1 else if se = (2 : Int32) then p2 else p3) = p3 := by simp only [if_neg hc8_2, if_neg hc20_4, if_neg hc32_6]
          rw [hv8]
          exact own_here X0 e0 N0
  refine own_go (fun t k => st1.trans k) ?_
  show own_R p e below _ T1 (mkF m 44 #[.val (.int p0), .val (.int p1), .val (.int p2), .val (.int p3), .val (.int p4), .val (.int p5), .val (.int se), .val (.int (if se = (0 : Int32) then p0 else if se = (1 : Int32) then p1 else if se = (2 : Int32) then p2 else p3)), .unset, .unset, .unset, .unset, .unset, .unset, .unset] [])
  obtain ⟨ff, hff⟩ : ∃ z, z = (if se = (0 : Int32) then p0 else if se = (1 : Int32) then p1 else if se = (2 : Int32) then p2 else p3) := ⟨_, rfl⟩
  rw [← hff]
  show own_R p e below _ T1 (mkF m 44 #[.val (.int p0), .val (.int p1), .val (.int p2), .val (.int p3), .val (.int p4), .val (.int p5), .val (.int se), .val (.int ff), .unset, .unset, .unset, .unset, .unset, .unset, .unset] [])
  obtain ⟨T9, h9, X9, e9, E9, A9, D9, -, st9⟩ := newO X1 hx hZ hown (hw _ (List.mem_of_getElem? (i := 0) rfl)) (hw _ (List.mem_of_getElem? (i := 1) rfl)) (hw _ (List.mem_of_getElem? (i := 2) rfl)) e1 (g := (mkF m 44 #[.val (.int p0), .val (.int p1), .val (.int p2), .val (.int p3), .val (.int p4), .val (.int p5), .val (.int se), .val (.int ff), .unset, .unset, .unset, .unset, .unset, .unset, .unset] [])) rfl (hb hby at_44) (by decide) (by decide)
  obtain ⟨b9, g9⟩ : ∃ z, z = h0.size := ⟨_, rfl⟩
  rw [← g9] at A9 D9 st9
  have g_b9 : n0 ≤ b9 := Nat.le_trans (Nat.le_trans Z0 Kh.1) (Nat.le_of_eq g9.symm)
  have sz_b9 : h0.size ≤ b9 := Nat.le_trans Kh.1 (Nat.le_of_eq g9.symm)
  replace Kh := Kh.ext E9
  have F_words_b9 : Fld Z h9 b9 "com/example/signetry/signetry/card/WordFrame" "words" "[I" .null := D9 (Or.inl (hw _ (List.mem_of_getElem? (i := 11) rfl))) (ty := (.array .int)) (by decide)
  have F_localCount_b9 : Fld Z h9 b9 "com/example/signetry/signetry/card/WordFrame" "localCount" "I" (.int (0 : Int32)) := D9 (Or.inl (hw _ (List.mem_of_getElem? (i := 25) rfl))) (ty := .int) (by decide)
  have F_maxStack_b9 : Fld Z h9 b9 "com/example/signetry/signetry/card/WordFrame" "maxStack" "I" (.int (0 : Int32)) := D9 (Or.inl (hw _ (List.mem_of_getElem? (i := 27) rfl))) (ty := .int) (by decide)
  have F_top_b9 : Fld Z h9 b9 "com/example/signetry/signetry/card/WordFrame" "top" "I" (.int (0 : Int32)) := D9 (Or.inl (hw _ (List.mem_of_getElem? (i := 29) rfl))) (ty := .int) (by decide)
  have F_thisUninitialized_b9 : Fld Z h9 b9 "com/example/signetry/signetry/card/WordFrame" "thisUninitialized" "Z" (.int (0 : Int32)) := D9 (Or.inl (hw _ (List.mem_of_getElem? (i := 31) rfl))) (ty := .boolean) (by decide)
  have F_localsVersion_b9 : Fld Z h9 b9 "com/example/signetry/signetry/card/WordFrame" "localsVersion" "I" (.int (0 : Int32)) := D9 (Or.inl (hw _ (List.mem_of_getElem? (i := 33) rfl))) (ty := .int) (by decide)
  refine own_go (st9) ?_
  show own_R p e below _ T9 (mkF m 47 #[.val (.int p0), .val (.int p1), .val (.int p2), .val (.int p3), .val (.int p4), .val (.int p5), .val (.int se), .val (.int ff), .unset, .unset, .unset, .unset, .unset, .unset, .unset] [(.ref b9)])
  refine own_go (fun t k => XS.dup X9.here hx rfl (hb hby at_47) rfl rfl k) ?_
  show own_R p e below _ T9 (mkF m 48 #[.val (.int p0), .val (.int p1), .val (.int p2), .val (.int p3), .val (.int p4), .val (.int p5), .val (.int se), .val (.int ff), .unset, .unset, .unset, .unset, .unset, .unset, .unset] [(.ref b9), (.ref b9)])
  obtain ⟨_, _, ⟨T10, L10, k10, n10⟩, -, X10, ⟨Lc10, hQ10, l10, y10, z10⟩, st10⟩ := X9.specialBack hx (y := (⟨"com/example/signetry/signetry/card/WordFrame", "<init>", "()V"⟩ : MethodName)) rfl hown (mvT hZ (hw _ (List.mem_of_getElem? (i := 3) rfl))) (mvT hZ (hw _ (List.mem_of_getElem? (i := 4) rfl))) (mvT hZ (hw _ (List.mem_of_getElem? (i := 5) rfl))) (by decide) (backOf (W := 1) (rm1 l Z a0 hw [] b9 h9 n0 (Nat.le_trans Z0 Kh.1) F_words_b9 F_localCount_b9 F_maxStack_b9 F_top_b9 F_thisUninitialized_b9 F_localsVersion_b9 A9 g_b9) hZ (hw _ (List.mem_of_getElem? (i := 5) rfl)) (hw _ (List.mem_of_getElem? (i := 2) rfl)) (by decide) (by decide)) (g := (mkF m 48 #[.val (.int p0), .val (.int p1), .val (.int p2), .val (.int p3), .val (.int p4), .val (.int p5), .val (.int se), .val (.int ff), .unset, .unset, .unset, .unset, .unset, .unset, .unset] [(.ref b9), (.ref b9)])) rfl (by rw [hml]; rfl) (Steps.refl _) (a := b9) (argsL := []) (rest := [(.ref b9)]) (lenOf pd_0 rfl) rfl (by show 2 * 0 + _ ≤ _; exact Nat.le_of_eq rfl) (hb hby at_48) (fun _ _ => ⟨rfl, e9, (by decide : 1 + 1 ≤ _), (by decide : 6 + 0 ≤ _)⟩)
  dsimp only [Pt.U, Pt.locs, Pt.cells, Pt.slots] at X10 l10 y10 z10 st10 hQ10
  subst l10 y10 z10
  obtain ⟨b10, kb10, rfl, Nq10, K10, gz10_b, E10_a, F10_a_words, F10_a_localCount, F10_a_maxStack, F10_a_top, F10_a_thisUninitialized, F10_a_localsVersion, V10_b⟩ := hQ10
  have N10 := Fr.app N1 Nq10
  obtain ⟨h10, e10⟩ : ∃ z, T10.heap = z := ⟨_, rfl⟩
  rw [e10] at K10 E10_a F10_a_words F10_a_localCount F10_a_maxStack F10_a_top F10_a_thisUninitialized F10_a_localsVersion V10_b
  have ne_b9_b10 : b9 ≠ b10 := Nat.ne_of_lt (Nat.lt_of_lt_of_le A9.lt gz10_b)
  have g_b10 : n0 ≤ b10 := Nat.le_trans (Nat.le_trans Z0 Kh.1) gz10_b
  have sz_b10 : h0.size ≤ b10 := Nat.le_trans Kh.1 gz10_b
  replace Kh := Kh.trans K10 (allS (Or.inr sz_b9) all0)
  refine own_go (fun t k => st10.trans k) ?_
  show own_R p e below _ T10 (mkF m 51 #[.val (.int p0), .val (.int p1), .val (.int p2), .val (.int p3), .val (.int p4), .val (.int p5), .val (.int se), .val (.int ff), .unset, .unset, .unset, .unset, .unset, .unset, .unset] [(.ref b9)])
  refine own_go (fun t k => XS.astore X10.here hx rfl (hb hby at_51) rfl rfl (l' := #[.val (.int p0), .val (.int p1), .val (.int p2), .val (.int p3), .val (.int p4), .val (.int p5), .val (.int se), .val (.int ff), .val (.ref b9), .unset, .unset, .unset, .unset, .unset, .unset]) rfl k) ?_
  show own_R p e below _ T10 (mkF m 53 #[.val (.int p0), .val (.int p1), .val (.int p2), .val (.int p3), .val (.int p4), .val (.int p5), .val (.int se), .val (.int ff), .val (.ref b9), .unset, .unset, .unset, .unset, .unset, .unset] [])
  refine own_go (fun t k => XS.aload X10.here hx rfl (hb hby at_53) rfl rfl  k) ?_
  show own_R p e below _ T10 (mkF m 55 #[.val (.int p0), .val (.int p1), .val (.int p2), .val (.int p3), .val (.int p4), .val (.int p5), .val (.int se), .val (.int ff), .val (.ref b9), .unset, .unset, .unset, .unset, .unset, .unset] [(.ref b9)])
  refine own_go (fun t k => XS.iconst X10.here hx rfl (hb hby at_55) k) ?_
  show own_R p e below _ T10 (mkF m 56 #[.val (.int p0), .val (.int p1), .val (.int p2), .val (.int p3), .val (.int p4), .val (.int p5), .val (.int se), .val (.int ff), .val (.ref b9), .unset, .unset, .unset, .unset, .unset, .unset] [(.int (2 : Int32)), (.ref b9)])
  refine own_go (fun t k => XS.iconst X10.here hx rfl (hb hby at_56) k) ?_
  show own_R p e below _ T10 (mkF m 57 #[.val (.int p0), .val (.int p1), .val (.int p2), .val (.int p3), .val (.int p4), .val (.int p5), .val (.int se), .val (.int ff), .val (.ref b9), .unset, .unset, .unset, .unset, .unset, .unset] [(.int (1 : Int32)), (.int (2 : Int32)), (.ref b9)])
  obtain ⟨cq11, kq11, q11a, q11b, q11c⟩ := isOf hZ e10 E10_a
  obtain ⟨_, _, ⟨T11, L11, k11, n11⟩, -, X11, ⟨Lc11, hQ11, l11, y11, z11⟩, st11⟩ := X10.virtualBack hx (y := (⟨"com/example/signetry/signetry/card/WordFrame", "reset", "(II)V"⟩ : MethodName)) (z := (⟨"com/example/signetry/signetry/card/WordFrame", "reset", "(II)V"⟩ : MethodName)) hown (mvT hZ (hw _ (List.mem_of_getElem? (i := 12) rfl))) (mvT hZ (hw _ (List.mem_of_getElem? (i := 13) rfl))) (notFace_of_selects (args := #[]) (mvT hZ (hw _ (List.mem_of_getElem? (i := 15) rfl)))) (mvT hZ (hw _ (List.mem_of_getElem? (i := 15) rfl))) (mvT hZ (hw _ (List.mem_of_getElem? (i := 14) rfl))) (by decide) (backOf (W := 0) (rm3 l Z a0 hw [] b9 b10 kb10 h10 n0 (Nat.le_trans Z0 Kh.1) F10_a_words F10_a_localCount F10_a_maxStack F10_a_top F10_a_thisUninitialized F10_a_localsVersion E10_a V10_b g_b9 ne_b9_b10) hZ (hw _ (List.mem_of_getElem? (i := 16) rfl)) (hw _ (List.mem_of_getElem? (i := 2) rfl)) (by decide) (by decide)) q11a q11c (g := (mkF m 57 #[.val (.int p0), .val (.int p1), .val (.int p2), .val (.int p3), .val (.int p4), .val (.int p5), .val (.int se), .val (.int ff), .val (.ref b9), .unset, .unset, .unset, .unset, .unset, .unset] [(.int (1 : Int32)), (.int (2 : Int32)), (.ref b9)])) rfl (by rw [hml]; rfl) (Steps.refl _) (argsL := [(.int (2 : Int32)), (.int (1 : Int32))]) (rest := []) (lenOf pd_1 rfl) rfl (by show 2 * 0 + _ ≤ _; exact Nat.le_of_eq rfl) (hb hby at_57) (fun _ _ => ⟨rfl, e10, (by decide : 2 + 1 ≤ _), (by decide : 6 + 3 ≤ _)⟩)
  dsimp only [Pt.U, Pt.locs, Pt.cells, Pt.slots] at X11 l11 y11 z11 st11 hQ11
  subst l11 y11 z11
  obtain ⟨b11, kb11, rfl, Nq11, K11, gz11_b, E11_a, F11_a_words, F11_a_localCount, F11_a_maxStack, F11_a_top, F11_a_thisUninitialized, F11_a_localsVersion, V11_b⟩ := hQ11
  have N11 := Fr.app N10 Nq11
  obtain ⟨h11, e11⟩ : ∃ z, T11.heap = z := ⟨_, rfl⟩
  rw [e11] at K11 E11_a F11_a_words F11_a_localCount F11_a_maxStack F11_a_top F11_a_thisUninitialized F11_a_localsVersion V11_b
  have ne_b9_b11 : b9 ≠ b11 := Nat.ne_of_lt (Nat.lt_of_lt_of_le E10_a.lt gz11_b)
  have ne_b10_b11 : b10 ≠ b11 := Nat.ne_of_lt (Nat.lt_of_lt_of_le V10_b.lt gz11_b)
  have g_b11 : n0 ≤ b11 := Nat.le_trans (Nat.le_trans Z0 Kh.1) gz11_b
  have sz_b11 : h0.size ≤ b11 := Nat.le_trans Kh.1 gz11_b
  replace V10_b := V10_b.keep K11 (ninS (Ne.symm ne_b9_b10) nin0)
  replace Kh := Kh.trans K11 (allS (Or.inr sz_b9) all0)
  refine own_go (fun t k => st11.trans k) ?_
  show own_R p e below _ T11 (mkF m 60 #[.val (.int p0), .val (.int p1), .val (.int p2), .val (.int p3), .val (.int p4), .val (.int p5), .val (.int se), .val (.int ff), .val (.ref b9), .unset, .unset, .unset, .unset, .unset, .unset] [])
  refine own_go (fun t k => XS.aload X11.here hx rfl (hb hby at_60) rfl rfl  k) ?_
  show own_R p e below _ T11 (mkF m 62 #[.val (.int p0), .val (.int p1), .val (.int p2), .val (.int p3), .val (.int p4), .val (.int p5), .val (.int se), .val (.int ff), .val (.ref b9), .unset, .unset, .unset, .unset, .unset, .unset] [(.ref b9)])
  refine own_go (fun t k => XS.iconst X11.here hx rfl (hb hby at_62) k) ?_
  show own_R p e below _ T11 (mkF m 63 #[.val (.int p0), .val (.int p1), .val (.int p2), .val (.int p3), .val (.int p4), .val (.int p5), .val (.int se), .val (.int ff), .val (.ref b9), .unset, .unset, .unset, .unset, .unset, .unset] [(.int (0 : Int32)), (.ref b9)])
  refine own_go (fun t k => XS.iloadN X11.here hx rfl (hb hby at_63) rfl  k) ?_
  show own_R p e below _ T11 (mkF m 64 #[.val (.int p0), .val (.int p1), .val (.int p2), .val (.int p3), .val (.int p4), .val (.int p5), .val (.int se), .val (.int ff), .val (.ref b9), .unset, .unset, .unset, .unset, .unset, .unset] [(.int p0), (.int (0 : Int32)), (.ref b9)])
  obtain ⟨cq12, kq12, q12a, q12b, q12c⟩ := isOf hZ e11 E11_a
  obtain ⟨_, _, ⟨T12, L12, k12, n12⟩, -, X12, ⟨Lc12, hQ12, l12, y12, z12⟩, st12⟩ := X11.virtualBack hx (y := (⟨"com/example/signetry/signetry/card/WordFrame", "store", "(II)V"⟩ : MethodName)) (z := (⟨"com/example/signetry/signetry/card/WordFrame", "store", "(II)V"⟩ : MethodName)) hown (mvT hZ (hw _ (List.mem_of_getElem? (i := 34) rfl))) (mvT hZ (hw _ (List.mem_of_getElem? (i := 35) rfl))) (notFace_of_selects (args := #[]) (mvT hZ (hw _ (List.mem_of_getElem? (i := 37) rfl)))) (mvT hZ (hw _ (List.mem_of_getElem? (i := 37) rfl))) (mvT hZ (hw _ (List.mem_of_getElem? (i := 36) rfl))) (by decide) (backOf (W := 0) (rmstore_st0 l Z a0 hw [] b9 p0 b11 kb11 h11 n0 (Nat.le_trans Z0 Kh.1) F11_a_words F11_a_localCount F11_a_maxStack F11_a_top F11_a_thisUninitialized F11_a_localsVersion E11_a V11_b g_b9 g_b11 ne_b9_b11) hZ (hw _ (List.mem_of_getElem? (i := 38) rfl)) (hw _ (List.mem_of_getElem? (i := 2) rfl)) (by decide) (by decide)) q12a q12c (g := (mkF m 64 #[.val (.int p0), .val (.int p1), .val (.int p2), .val (.int p3), .val (.int p4), .val (.int p5), .val (.int se), .val (.int ff), .val (.ref b9), .unset, .unset, .unset, .unset, .unset, .unset] [(.int p0), (.int (0 : Int32)), (.ref b9)])) rfl (by rw [hml]; rfl) (Steps.refl _) (argsL := [(.int (0 : Int32)), (.int p0)]) (rest := []) (lenOf pd_1 rfl) rfl (by show 2 * 0 + _ ≤ _; exact Nat.le_of_eq rfl) (hb hby at_64) (fun _ _ => ⟨rfl, e11, (by decide : 3 + 0 ≤ _), (by decide : 9 + 0 ≤ _)⟩)
  dsimp only [Pt.U, Pt.locs, Pt.cells, Pt.slots] at X12 l12 y12 z12 st12 hQ12
  subst l12 y12 z12
  obtain ⟨rfl, Nq12, K12, E12_a, F12_a_words, F12_a_localCount, F12_a_maxStack, F12_a_top, F12_a_thisUninitialized, F12_a_localsVersion, V12_w⟩ := hQ12
  have N12 := Fr.app N11 Nq12
  obtain ⟨h12, e12⟩ : ∃ z, T12.heap = z := ⟨_, rfl⟩
  rw [e12] at K12 E12_a F12_a_words F12_a_localCount F12_a_maxStack F12_a_top F12_a_thisUninitialized F12_a_localsVersion V12_w
  replace V10_b := V10_b.keep K12 (ninS (Ne.symm ne_b9_b10) (ninS ne_b10_b11 nin0))
  replace Kh := Kh.trans K12 (allS (Or.inr sz_b9) (allS (Or.inr sz_b11) all0))
  refine own_go (fun t k => st12.trans k) ?_
  show own_R p e below _ T12 (mkF m 67 #[.val (.int p0), .val (.int p1), .val (.int p2), .val (.int p3), .val (.int p4), .val (.int p5), .val (.int se), .val (.int ff), .val (.ref b9), .unset, .unset, .unset, .unset, .unset, .unset] [])
  refine own_go (fun t k => XS.aload X12.here hx rfl (hb hby at_67) rfl rfl  k) ?_
  show own_R p e below _ T12 (mkF m 69 #[.val (.int p0), .val (.int p1), .val (.int p2), .val (.int p3), .val (.int p4), .val (.int p5), .val (.int se), .val (.int ff), .val (.ref b9), .unset, .unset, .unset, .unset, .unset, .unset] [(.ref b9)])
  refine own_go (fun t k => XS.iconst X12.here hx rfl (hb hby at_69) k) ?_
  show own_R p e below _ T12 (mkF m 70 #[.val (.int p0), .val (.int p1), .val (.int p2), .val (.int p3), .val (.int p4), .val (.int p5), .val (.int se), .val (.int ff), .val (.ref b9), .unset, .unset, .unset, .unset, .unset, .unset] [(.int (1 : Int32)), (.ref b9)])
  refine own_go (fun t k => XS.iloadN X12.here hx rfl (hb hby at_70) rfl  k) ?_
  show own_R p e below _ T12 (mkF m 71 #[.val (.int p0), .val (.int p1), .val (.int p2), .val (.int p3), .val (.int p4), .val (.int p5), .val (.int se), .val (.int ff), .val (.ref b9), .unset, .unset, .unset, .unset, .unset, .unset] [(.int p1), (.int (1 : Int32)), (.ref b9)])
  obtain ⟨cq13, kq13, q13a, q13b, q13c⟩ := isOf hZ e12 E12_a
  obtain ⟨_, _, ⟨T13, L13, k13, n13⟩, -, X13, ⟨Lc13, hQ13, l13, y13, z13⟩, st13⟩ := X12.virtualBack hx (y := (⟨"com/example/signetry/signetry/card/WordFrame", "store", "(II)V"⟩ : MethodName)) (z := (⟨"com/example/signetry/signetry/card/WordFrame", "store", "(II)V"⟩ : MethodName)) hown (mvT hZ (hw _ (List.mem_of_getElem? (i := 34) rfl))) (mvT hZ (hw _ (List.mem_of_getElem? (i := 35) rfl))) (notFace_of_selects (args := #[]) (mvT hZ (hw _ (List.mem_of_getElem? (i := 37) rfl)))) (mvT hZ (hw _ (List.mem_of_getElem? (i := 37) rfl))) (mvT hZ (hw _ (List.mem_of_getElem? (i := 36) rfl))) (by decide) (backOf (W := 0) (rmstore_st1 l Z a0 hw [] b9 p1 b11 kb11 p0 h12 n0 (Nat.le_trans Z0 Kh.1) F12_a_words F12_a_localCount F12_a_maxStack F12_a_top F12_a_thisUninitialized F12_a_localsVersion E12_a V12_w g_b9 g_b11 ne_b9_b11) hZ (hw _ (List.mem_of_getElem? (i := 38) rfl)) (hw _ (List.mem_of_getElem? (i := 2) rfl)) (by decide) (by decide)) q13a q13c (g := (mkF m 71 #[.val (.int p0), .val (.int p1), .val (.int p2), .val (.int p3), .val (.int p4), .val (.int p5), .val (.int se), .val (.int ff), .val (.ref b9), .unset, .unset, .unset, .unset, .unset, .unset] [(.int p1), (.int (1 : Int32)), (.ref b9)])) rfl (by rw [hml]; rfl) (Steps.refl _) (argsL := [(.int (1 : Int32)), (.int p1)]) (rest := []) (lenOf pd_1 rfl) rfl (by show 2 * 0 + _ ≤ _; exact Nat.le_of_eq rfl) (hb hby at_71) (fun _ _ => ⟨rfl, e12, (by decide : 3 + 0 ≤ _), (by decide : 9 + 0 ≤ _)⟩)
  dsimp only [Pt.U, Pt.locs, Pt.cells, Pt.slots] at X13 l13 y13 z13 st13 hQ13
  subst l13 y13 z13
  obtain ⟨rfl, Nq13, K13, E13_a, F13_a_words, F13_a_localCount, F13_a_maxStack, F13_a_top, F13_a_thisUninitialized, F13_a_localsVersion, V13_w⟩ := hQ13
  have N13 := Fr.app N12 Nq13
  obtain ⟨h13, e13⟩ : ∃ z, T13.heap = z := ⟨_, rfl⟩
  rw [e13] at K13 E13_a F13_a_words F13_a_localCount F13_a_maxStack F13_a_top F13_a_thisUninitialized F13_a_localsVersion V13_w
  replace V10_b := V10_b.keep K13 (ninS (Ne.symm ne_b9_b10) (ninS ne_b10_b11 nin0))
  replace Kh := Kh.trans K13 (allS (Or.inr sz_b9) (allS (Or.inr sz_b11) all0))
  refine own_go (fun t k => st13.trans k) ?_
  show own_R p e below _ T13 (mkF m 74 #[.val (.int p0), .val (.int p1), .val (.int p2), .val (.int p3), .val (.int p4), .val (.int p5), .val (.int se), .val (.int ff), .val (.ref b9), .unset, .unset, .unset, .unset, .unset, .unset] [])
  refine own_go (fun t k => XS.aload X13.here hx rfl (hb hby at_74) rfl rfl  k) ?_
  show own_R p e below _ T13 (mkF m 76 #[.val (.int p0), .val (.int p1), .val (.int p2), .val (.int p3), .val (.int p4), .val (.int p5), .val (.int se), .val (.int ff), .val (.ref b9), .unset, .unset, .unset, .unset, .unset, .unset] [(.ref b9)])
  refine own_go (fun t k => XS.iloadN X13.here hx rfl (hb hby at_76) rfl  k) ?_
  show own_R p e below _ T13 (mkF m 77 #[.val (.int p0), .val (.int p1), .val (.int p2), .val (.int p3), .val (.int p4), .val (.int p5), .val (.int se), .val (.int ff), .val (.ref b9), .unset, .unset, .unset, .unset, .unset, .unset] [(.int p2), (.ref b9)])
  obtain ⟨cq14, kq14, q14a, q14b, q14c⟩ := isOf hZ e13 E13_a
  obtain ⟨_, _, ⟨T14, L14, k14, n14⟩, -, X14, ⟨Lc14, hQ14, l14, y14, z14⟩, st14⟩ := X13.virtualBack hx (y := (⟨"com/example/signetry/signetry/card/WordFrame", "push", "(I)V"⟩ : MethodName)) (z := (⟨"com/example/signetry/signetry/card/WordFrame", "push", "(I)V"⟩ : MethodName)) hown (mvT hZ (hw _ (List.mem_of_getElem? (i := 47) rfl))) (mvT hZ (hw _ (List.mem_of_getElem? (i := 48) rfl))) (notFace_of_selects (args := #[]) (mvT hZ (hw _ (List.mem_of_getElem? (i := 50) rfl)))) (mvT hZ (hw _ (List.mem_of_getElem? (i := 50) rfl))) (mvT hZ (hw _ (List.mem_of_getElem? (i := 49) rfl))) (by decide) (backOf (W := 0) (rmpush_pu2 l Z a0 hw [] b9 p2 b11 kb11 p0 p1 h13 n0 (Nat.le_trans Z0 Kh.1) F13_a_words F13_a_localCount F13_a_maxStack F13_a_top F13_a_thisUninitialized F13_a_localsVersion E13_a V13_w g_b9 g_b11 ne_b9_b11) hZ (hw _ (List.mem_of_getElem? (i := 51) rfl)) (hw _ (List.mem_of_getElem? (i := 2) rfl)) (by decide) (by decide)) q14a q14c (g := (mkF m 77 #[.val (.int p0), .val (.int p1), .val (.int p2), .val (.int p3), .val (.int p4), .val (.int p5), .val (.int se), .val (.int ff), .val (.ref b9), .unset, .unset, .unset, .unset, .unset, .unset] [(.int p2), (.ref b9)])) rfl (by rw [hml]; rfl) (Steps.refl _) (argsL := [(.int p2)]) (rest := []) (lenOf pd_4 rfl) rfl (by show 2 * 0 + _ ≤ _; exact Nat.le_of_eq rfl) (hb hby at_77) (fun _ _ => ⟨rfl, e13, (by decide : 3 + 0 ≤ _), (by decide : 9 + 0 ≤ _)⟩)
  dsimp only [Pt.U, Pt.locs, Pt.cells, Pt.slots] at X14 l14 y14 z14 st14 hQ14
  subst l14 y14 z14
  obtain ⟨rfl, Nq14, K14, E14_a, F14_a_words, F14_a_localCount, F14_a_maxStack, F14_a_top, F14_a_thisUninitialized, F14_a_localsVersion, V14_w⟩ := hQ14
  have N14 := Fr.app N13 Nq14
  obtain ⟨h14, e14⟩ : ∃ z, T14.heap = z := ⟨_, rfl⟩
  rw [e14] at K14 E14_a F14_a_words F14_a_localCount F14_a_maxStack F14_a_top F14_a_thisUninitialized F14_a_localsVersion V14_w
  replace V10_b := V10_b.keep K14 (ninS (Ne.symm ne_b9_b10) (ninS ne_b10_b11 nin0))
  replace Kh := Kh.trans K14 (allS (Or.inr sz_b9) (allS (Or.inr sz_b11) all0))
  refine own_go (fun t k => st14.trans k) ?_
  show own_R p e below _ T14 (mkF m 80 #[.val (.int p0), .val (.int p1), .val (.int p2), .val (.int p3), .val (.int p4), .val (.int p5), .val (.int se), .val (.int ff), .val (.ref b9), .unset, .unset, .unset, .unset, .unset, .unset] [])
  refine own_go (fun t k => XS.aload X14.here hx rfl (hb hby at_80) rfl rfl  k) ?_
  show own_R p e below _ T14 (mkF m 82 #[.val (.int p0), .val (.int p1), .val (.int p2), .val (.int p3), .val (.int p4), .val (.int p5), .val (.int se), .val (.int ff), .val (.ref b9), .unset, .unset, .unset, .unset, .unset, .unset] [(.ref b9)])
  obtain ⟨cq15, kq15, q15a, q15b, q15c⟩ := isOf hZ e14 E14_a
  obtain ⟨_, _, ⟨T15, L15, k15, n15⟩, -, X15, ⟨Lc15, hQ15, l15, y15, z15⟩, st15⟩ := X14.virtualBack hx (y := (⟨"com/example/signetry/signetry/card/WordFrame", "localsVersion", "()I"⟩ : MethodName)) (z := (⟨"com/example/signetry/signetry/card/WordFrame", "localsVersion", "()I"⟩ : MethodName)) hown (mvT hZ (hw _ (List.mem_of_getElem? (i := 56) rfl))) (mvT hZ (hw _ (List.mem_of_getElem? (i := 57) rfl))) (notFace_of_selects (args := #[]) (mvT hZ (hw _ (List.mem_of_getElem? (i := 59) rfl)))) (mvT hZ (hw _ (List.mem_of_getElem? (i := 59) rfl))) (mvT hZ (hw _ (List.mem_of_getElem? (i := 58) rfl))) (by decide) (backOf (W := 0) (rmver_1 l Z a0 hw [] b9 b11 kb11 p0 p1 p2 h14 n0 (Nat.le_trans Z0 Kh.1) F14_a_words F14_a_localCount F14_a_maxStack F14_a_top F14_a_thisUninitialized F14_a_localsVersion E14_a V14_w) hZ (hw _ (List.mem_of_getElem? (i := 60) rfl)) (hw _ (List.mem_of_getElem? (i := 2) rfl)) (by decide) (by decide)) q15a q15c (g := (mkF m 82 #[.val (.int p0), .val (.int p1), .val (.int p2), .val (.int p3), .val (.int p4), .val (.int p5), .val (.int se), .val (.int ff), .val (.ref b9), .unset, .unset, .unset, .unset, .unset, .unset] [(.ref b9)])) rfl (by rw [hml]; rfl) (Steps.refl _) (argsL := []) (rest := []) (lenOf pd_5 rfl) rfl (by show 2 * 0 + _ ≤ _; exact Nat.le_of_eq rfl) (hb hby at_82) (fun _ _ => ⟨rfl, e14, (by decide : 3 + 0 ≤ _), (by decide : 9 + 0 ≤ _)⟩)
  dsimp only [Pt.U, Pt.locs, Pt.cells, Pt.slots] at X15 l15 y15 z15 st15 hQ15
  subst l15 y15 z15
  obtain ⟨rfl, Nq15, e15⟩ := hQ15
  have N15 := Fr.app N14 Nq15
  refine own_go (fun t k => st15.trans k) ?_
  show own_R p e below _ T15 (mkF m 85 #[.val (.int p0), .val (.int p1), .val (.int p2), .val (.int p3), .val (.int p4), .val (.int p5), .val (.int se), .val (.int ff), .val (.ref b9), .unset, .unset, .unset, .unset, .unset, .unset] [(.int (3 : Int32))])
  refine own_go (fun t k => XS.istore X15.here hx rfl (hb hby at_85) rfl (l' := #[.val (.int p0), .val (.int p1), .val (.int p2), .val (.int p3), .val (.int p4), .val (.int p5), .val (.int se), .val (.int ff), .val (.ref b9), .val (.int (3 : Int32)), .unset, .unset, .unset, .unset, .unset]) rfl k) ?_
  show own_R p e below _ T15 (mkF m 87 #[.val (.int p0), .val (.int p1), .val (.int p2), .val (.int p3), .val (.int p4), .val (.int p5), .val (.int se), .val (.int ff), .val (.ref b9), .val (.int (3 : Int32)), .unset, .unset, .unset, .unset, .unset] [])
  refine own_go (fun t k => XS.aload X15.here hx rfl (hb hby at_87) rfl rfl  k) ?_
  show own_R p e below _ T15 (mkF m 89 #[.val (.int p0), .val (.int p1), .val (.int p2), .val (.int p3), .val (.int p4), .val (.int p5), .val (.int se), .val (.int ff), .val (.ref b9), .val (.int (3 : Int32)), .unset, .unset, .unset, .unset, .unset] [(.ref b9)])
  refine own_go (fun t k => XS.iload X15.here hx rfl (hb hby at_89) rfl  k) ?_
  show own_R p e below _ T15 (mkF m 91 #[.val (.int p0), .val (.int p1), .val (.int p2), .val (.int p3), .val (.int p4), .val (.int p5), .val (.int se), .val (.int ff), .val (.ref b9), .val (.int (3 : Int32)), .unset, .unset, .unset, .unset, .unset] [(.int ff), (.ref b9)])
  refine own_go (fun t k => XS.iload X15.here hx rfl (hb hby at_91) rfl  k) ?_
  show own_R p e below _ T15 (mkF m 93 #[.val (.int p0), .val (.int p1), .val (.int p2), .val (.int p3), .val (.int p4), .val (.int p5), .val (.int se), .val (.int ff), .val (.ref b9), .val (.int (3 : Int32)), .unset, .unset, .unset, .unset, .unset] [(.int p4), (.int ff), (.ref b9)])
  obtain ⟨cq16, kq16, q16a, q16b, q16c⟩ := isOf hZ e15 E14_a
  obtain ⟨_, _, ⟨T16, L16, k16, n16⟩, -, X16, ⟨Lc16, hQ16, l16, y16, z16⟩, st16⟩ := X15.virtualBack hx (y := (⟨"com/example/signetry/signetry/card/WordFrame", "replaceAll", "(II)V"⟩ : MethodName)) (z := (⟨"com/example/signetry/signetry/card/WordFrame", "replaceAll", "(II)V"⟩ : MethodName)) hown (mvT hZ (hw _ (List.mem_of_getElem? (i := 61) rfl))) (mvT hZ (hw _ (List.mem_of_getElem? (i := 62) rfl))) (notFace_of_selects (args := #[]) (mvT hZ (hw _ (List.mem_of_getElem? (i := 64) rfl)))) (mvT hZ (hw _ (List.mem_of_getElem? (i := 64) rfl))) (mvT hZ (hw _ (List.mem_of_getElem? (i := 63) rfl))) (by decide) (backOf (W := 0) (rmrepl l Z a0 hw [] b9 ff p4 b11 kb11 p0 p1 p2 h14 n0 (Nat.le_trans Z0 Kh.1) F14_a_words F14_a_localCount F14_a_maxStack F14_a_top F14_a_thisUninitialized F14_a_localsVersion E14_a V14_w g_b9 g_b11 ne_b9_b11) hZ (hw _ (List.mem_of_getElem? (i := 65) rfl)) (hw _ (List.mem_of_getElem? (i := 2) rfl)) (by decide) (by decide)) q16a q16c (g := (mkF m 93 #[.val (.int p0), .val (.int p1), .val (.int p2), .val (.int p3), .val (.int p4), .val (.int p5), .val (.int se), .val (.int ff), .val (.ref b9), .val (.int (3 : Int32)), .unset, .unset, .unset, .unset, .unset] [(.int p4), (.int ff), (.ref b9)])) rfl (by rw [hml]; rfl) (Steps.refl _) (argsL := [(.int ff), (.int p4)]) (rest := []) (lenOf pd_1 rfl) rfl (by show 2 * 0 + _ ≤ _; exact Nat.le_of_eq rfl) (hb hby at_93) (fun _ _ => ⟨rfl, e15, (by decide : 3 + 0 ≤ _), (by decide : 9 + 0 ≤ _)⟩)
  dsimp only [Pt.U, Pt.locs, Pt.cells, Pt.slots] at X16 l16 y16 z16 st16 hQ16
  subst l16 y16 z16
  obtain ⟨rfl, Nq16, K16, E16_a, F16_a_words, F16_a_localCount, F16_a_maxStack, F16_a_top, F16_a_thisUninitialized, F16_a_localsVersion, V16_w⟩ := hQ16
  have N16 := Fr.app N15 Nq16
  obtain ⟨h16, e16⟩ : ∃ z, T16.heap = z := ⟨_, rfl⟩
  rw [e16] at K16 E16_a F16_a_words F16_a_localCount F16_a_maxStack F16_a_top F16_a_thisUninitialized F16_a_localsVersion V16_w
  replace V10_b := V10_b.keep K16 (ninS (Ne.symm ne_b9_b10) (ninS ne_b10_b11 nin0))
  replace Kh := Kh.trans K16 (allS (Or.inr sz_b9) (allS (Or.inr sz_b11) all0))
  refine own_go (fun t k => st16.trans k) ?_
  show own_R p e below _ T16 (mkF m 96 #[.val (.int p0), .val (.int p1), .val (.int p2), .val (.int p3), .val (.int p4), .val (.int p5), .val (.int se), .val (.int ff), .val (.ref b9), .val (.int (3 : Int32)), .unset, .unset, .unset, .unset, .unset] [])
  refine own_go (fun t k => XS.aload X16.here hx rfl (hb hby at_96) rfl rfl  k) ?_
  show own_R p e below _ T16 (mkF m 98 #[.val (.int p0), .val (.int p1), .val (.int p2), .val (.int p3), .val (.int p4), .val (.int p5), .val (.int se), .val (.int ff), .val (.ref b9), .val (.int (3 : Int32)), .unset, .unset, .unset, .unset, .unset] [(.ref b9)])
  obtain ⟨cq17, kq17, q17a, q17b, q17c⟩ := isOf hZ e16 E16_a
  obtain ⟨_, _, ⟨T17, L17, k17, n17⟩, -, X17, ⟨Lc17, hQ17, l17, y17, z17⟩, st17⟩ := X16.virtualBack hx (y := (⟨"com/example/signetry/signetry/card/WordFrame", "localsVersion", "()I"⟩ : MethodName)) (z := (⟨"com/example/signetry/signetry/card/WordFrame", "localsVersion", "()I"⟩ : MethodName)) hown (mvT hZ (hw _ (List.mem_of_getElem? (i := 56) rfl))) (mvT hZ (hw _ (List.mem_of_getElem? (i := 57) rfl))) (notFace_of_selects (args := #[]) (mvT hZ (hw _ (List.mem_of_getElem? (i := 59) rfl)))) (mvT hZ (hw _ (List.mem_of_getElem? (i := 59) rfl))) (mvT hZ (hw _ (List.mem_of_getElem? (i := 58) rfl))) (by decide) (backOf (W := 0) (rmver_2 l Z a0 hw [] b9 b11 kb11 (if p0 = ff then p4 else p0) (if p1 = ff then p4 else p1) (if p2 = ff then p4 else p2) ((((3 : Int32) + (if p0 = ff then (1 : Int32) else (0 : Int32))) + (if p1 = ff then (1 : Int32) else (0 : Int32))) + (if p2 = ff then (1 : Int32) else (0 : Int32))) h16 n0 (Nat.le_trans Z0 Kh.1) F16_a_words F16_a_localCount F16_a_maxStack F16_a_top F16_a_thisUninitialized F16_a_localsVersion E16_a V16_w) hZ (hw _ (List.mem_of_getElem? (i := 60) rfl)) (hw _ (List.mem_of_getElem? (i := 2) rfl)) (by decide) (by decide)) q17a q17c (g := (mkF m 98 #[.val (.int p0), .val (.int p1), .val (.int p2), .val (.int p3), .val (.int p4), .val (.int p5), .val (.int se), .val (.int ff), .val (.ref b9), .val (.int (3 : Int32)), .unset, .unset, .unset, .unset, .unset] [(.ref b9)])) rfl (by rw [hml]; rfl) (Steps.refl _) (argsL := []) (rest := []) (lenOf pd_5 rfl) rfl (by show 2 * 0 + _ ≤ _; exact Nat.le_of_eq rfl) (hb hby at_98) (fun _ _ => ⟨rfl, e16, (by decide : 3 + 0 ≤ _), (by decide : 9 + 0 ≤ _)⟩)
  dsimp only [Pt.U, Pt.locs, Pt.cells, Pt.slots] at X17 l17 y17 z17 st17 hQ17
  subst l17 y17 z17
  obtain ⟨rfl, Nq17, e17⟩ := hQ17
  have N17 := Fr.app N16 Nq17
  refine own_go (fun t k => st17.trans k) ?_
  show own_R p e below _ T17 (mkF m 101 #[.val (.int p0), .val (.int p1), .val (.int p2), .val (.int p3), .val (.int p4), .val (.int p5), .val (.int se), .val (.int ff), .val (.ref b9), .val (.int (3 : Int32)), .unset, .unset, .unset, .unset, .unset] [(.int ((((3 : Int32) + (if p0 = ff then (1 : Int32) else (0 : Int32))) + (if p1 = ff then (1 : Int32) else (0 : Int32))) + (if p2 = ff then (1 : Int32) else (0 : Int32))))])
  refine own_go (fun t k => XS.istore X17.here hx rfl (hb hby at_101) rfl (l' := #[.val (.int p0), .val (.int p1), .val (.int p2), .val (.int p3), .val (.int p4), .val (.int p5), .val (.int se), .val (.int ff), .val (.ref b9), .val (.int (3 : Int32)), .val (.int ((((3 : Int32) + (if p0 = ff then (1 : Int32) else (0 : Int32))) + (if p1 = ff then (1 : Int32) else (0 : Int32))) + (if p2 = ff then (1 : Int32) else (0 : Int32)))), .unset, .unset, .unset, .unset]) rfl k) ?_
  show own_R p e below _ T17 (mkF m 103 #[.val (.int p0), .val (.int p1), .val (.int p2), .val (.int p3), .val (.int p4), .val (.int p5), .val (.int se), .val (.int ff), .val (.ref b9), .val (.int (3 : Int32)), .val (.int ((((3 : Int32) + (if p0 = ff then (1 : Int32) else (0 : Int32))) + (if p1 = ff then (1 : Int32) else (0 : Int32))) + (if p2 = ff then (1 : Int32) else (0 : Int32)))), .unset, .unset, .unset, .unset] [])
  refine own_go (fun t k => XS.iloadN X17.here hx rfl (hb hby at_103) rfl  k) ?_
  show own_R p e below _ T17 (mkF m 104 #[.val (.int p0), .val (.int p1), .val (.int p2), .val (.int p3), .val (.int p4), .val (.int p5), .val (.int se), .val (.int ff), .val (.ref b9), .val (.int (3 : Int32)), .val (.int ((((3 : Int32) + (if p0 = ff then (1 : Int32) else (0 : Int32))) + (if p1 = ff then (1 : Int32) else (0 : Int32))) + (if p2 = ff then (1 : Int32) else (0 : Int32)))), .unset, .unset, .unset, .unset] [(.int p0)])
  refine own_go (fun t k => XS.iload X17.here hx rfl (hb hby at_104) rfl  k) ?_
  show own_R p e below _ T17 (mkF m 106 #[.val (.int p0), .val (.int p1), .val (.int p2), .val (.int p3), .val (.int p4), .val (.int p5), .val (.int se), .val (.int ff), .val (.ref b9), .val (.int (3 : Int32)), .val (.int ((((3 : Int32) + (if p0 = ff then (1 : Int32) else (0 : Int32))) + (if p1 = ff then (1 : Int32) else (0 : Int32))) + (if p2 = ff then (1 : Int32) else (0 : Int32)))), .unset, .unset, .unset, .unset] [(.int ff), (.int p0)])
  obtain ⟨_, _, ⟨T18, L18, k18, n18⟩, -, X18, ⟨Lc18, hQ18, l18, y18, z18⟩, st18⟩ := Jvm.LawKit.callS X17 hx (y := (⟨"com/example/signetry/signetry/card/WordFrameReplaceAllPinLaw", "hit", "(II)I"⟩ : MethodName)) hown (mvT hZ (hw _ (List.mem_of_getElem? (i := 66) rfl))) (mvT hZ (hw _ (List.mem_of_getElem? (i := 67) rfl))) (mvT hZ (hw _ (List.mem_of_getElem? (i := 68) rfl))) (mvT hZ (hw _ (List.mem_of_getElem? (i := 69) rfl))) (by decide) (backOf (W := 0) (rm13 l Z a0 hw [] p0 ff h16 n0 (Nat.le_trans Z0 Kh.1)) hZ (hw _ (List.mem_of_getElem? (i := 69) rfl)) (hw _ (List.mem_of_getElem? (i := 68) rfl)) (by decide) (by decide)) (g := (mkF m 106 #[.val (.int p0), .val (.int p1), .val (.int p2), .val (.int p3), .val (.int p4), .val (.int p5), .val (.int se), .val (.int ff), .val (.ref b9), .val (.int (3 : Int32)), .val (.int ((((3 : Int32) + (if p0 = ff then (1 : Int32) else (0 : Int32))) + (if p1 = ff then (1 : Int32) else (0 : Int32))) + (if p2 = ff then (1 : Int32) else (0 : Int32)))), .unset, .unset, .unset, .unset] [(.int ff), (.int p0)])) rfl (by rw [hml]; rfl) (argsL := [(.int p0), (.int ff)]) (rest := []) (lenOf pd_6 rfl) rfl (by show 2 * 0 + _ ≤ _; exact Nat.le_of_eq rfl) (hb hby at_106) (fun _ _ => ⟨rfl, e17, (by decide : 3 + 0 ≤ _), (by decide : 9 + 0 ≤ _)⟩)
  dsimp only [Pt.U, Pt.locs, Pt.cells, Pt.slots] at X18 l18 y18 z18 st18 hQ18
  subst l18 y18 z18
  obtain ⟨rfl, Nq18, e18⟩ := hQ18
  have N18 := Fr.app N17 Nq18
  refine own_go (st18) ?_
  show own_R p e below _ T18 (mkF m 109 #[.val (.int p0), .val (.int p1), .val (.int p2), .val (.int p3), .val (.int p4), .val (.int p5), .val (.int se), .val (.int ff), .val (.ref b9), .val (.int (3 : Int32)), .val (.int ((((3 : Int32) + (if p0 = ff then (1 : Int32) else (0 : Int32))) + (if p1 = ff then (1 : Int32) else (0 : Int32))) + (if p2 = ff then (1 : Int32) else (0 : Int32)))), .unset, .unset, .unset, .unset] [(.int (if p0 = ff then (1 : Int32) else (0 : Int32)))])
  refine own_go (fun t k => XS.iloadN X18.here hx rfl (hb hby at_109) rfl  k) ?_
  show own_R p e below _ T18 (mkF m 110 #[.val (.int p0), .val (.int p1), .val (.int p2), .val (.int p3), .val (.int p4), .val (.int p5), .val (.int se), .val (.int ff), .val (.ref b9), .val (.int (3 : Int32)), .val (.int ((((3 : Int32) + (if p0 = ff then (1 : Int32) else (0 : Int32))) + (if p1 = ff then (1 : Int32) else (0 : Int32))) + (if p2 = ff then (1 : Int32) else (0 : Int32)))), .unset, .unset, .unset, .unset] [(.int p1), (.int (if p0 = ff then (1 : Int32) else (0 : Int32)))])
  refine own_go (fun t k => XS.iload X18.here hx rfl (hb hby at_110) rfl  k) ?_
  show own_R p e below _ T18 (mkF m 112 #[.val (.int p0), .val (.int p1), .val (.int p2), .val (.int p3), .val (.int p4), .val (.int p5), .val (.int se), .val (.int ff), .val (.ref b9), .val (.int (3 : Int32)), .val (.int ((((3 : Int32) + (if p0 = ff then (1 : Int32) else (0 : Int32))) + (if p1 = ff then (1 : Int32) else (0 : Int32))) + (if p2 = ff then (1 : Int32) else (0 : Int32)))), .unset, .unset, .unset, .unset] [(.int ff), (.int p1), (.int (if p0 = ff then (1 : Int32) else (0 : Int32)))])
  obtain ⟨_, _, ⟨T19, L19, k19, n19⟩, -, X19, ⟨Lc19, hQ19, l19, y19, z19⟩, st19⟩ := Jvm.LawKit.callS X18 hx (y := (⟨"com/example/signetry/signetry/card/WordFrameReplaceAllPinLaw", "hit", "(II)I"⟩ : MethodName)) hown (mvT hZ (hw _ (List.mem_of_getElem? (i := 66) rfl))) (mvT hZ (hw _ (List.mem_of_getElem? (i := 67) rfl))) (mvT hZ (hw _ (List.mem_of_getElem? (i := 68) rfl))) (mvT hZ (hw _ (List.mem_of_getElem? (i := 69) rfl))) (by decide) (backOf (W := 1) (rm13 l Z a0 hw [] p1 ff h16 n0 (Nat.le_trans Z0 Kh.1)) hZ (hw _ (List.mem_of_getElem? (i := 69) rfl)) (hw _ (List.mem_of_getElem? (i := 68) rfl)) (by decide) (by decide)) (g := (mkF m 112 #[.val (.int p0), .val (.int p1), .val (.int p2), .val (.int p3), .val (.int p4), .val (.int p5), .val (.int se), .val (.int ff), .val (.ref b9), .val (.int (3 : Int32)), .val (.int ((((3 : Int32) + (if p0 = ff then (1 : Int32) else (0 : Int32))) + (if p1 = ff then (1 : Int32) else (0 : Int32))) + (if p2 = ff then (1 : Int32) else (0 : Int32)))), .unset, .unset, .unset, .unset] [(.int ff), (.int p1), (.int (if p0 = ff then (1 : Int32) else (0 : Int32)))])) rfl (by rw [hml]; rfl) (argsL := [(.int p1), (.int ff)]) (rest := [(.int (if p0 = ff then (1 : Int32) else (0 : Int32)))]) (lenOf pd_6 rfl) rfl (by show 2 * 0 + _ ≤ _; exact Nat.le_of_eq rfl) (hb hby at_112) (fun _ _ => ⟨rfl, e18, (by decide : 3 + 0 ≤ _), (by decide : 9 + 0 ≤ _)⟩)
  dsimp only [Pt.U, Pt.locs, Pt.cells, Pt.slots] at X19 l19 y19 z19 st19 hQ19
  subst l19 y19 z19
  obtain ⟨rfl, Nq19, e19⟩ := hQ19
  have N19 := Fr.app N18 Nq19
  refine own_go (st19) ?_
  show own_R p e below _ T19 (mkF m 115 #[.val (.int p0), .val (.int p1), .val (.int p2), .val (.int p3), .val (.int p4), .val (.int p5), .val (.int se), .val (.int ff), .val (.ref b9), .val (.int (3 : Int32)), .val (.int ((((3 : Int32) + (if p0 = ff then (1 : Int32) else (0 : Int32))) + (if p1 = ff then (1 : Int32) else (0 : Int32))) + (if p2 = ff then (1 : Int32) else (0 : Int32)))), .unset, .unset, .unset, .unset] [(.int (if p1 = ff then (1 : Int32) else (0 : Int32))), (.int (if p0 = ff then (1 : Int32) else (0 : Int32)))])
  refine own_go (fun t k => XS.iadd X19.here hx rfl (hb hby at_115) rfl k) ?_
  show own_R p e below _ T19 (mkF m 116 #[.val (.int p0), .val (.int p1), .val (.int p2), .val (.int p3), .val (.int p4), .val (.int p5), .val (.int se), .val (.int ff), .val (.ref b9), .val (.int (3 : Int32)), .val (.int ((((3 : Int32) + (if p0 = ff then (1 : Int32) else (0 : Int32))) + (if p1 = ff then (1 : Int32) else (0 : Int32))) + (if p2 = ff then (1 : Int32) else (0 : Int32)))), .unset, .unset, .unset, .unset] [(.int ((if p0 = ff then (1 : Int32) else (0 : Int32)) + (if p1 = ff then (1 : Int32) else (0 : Int32))))])
  refine own_go (fun t k => XS.iloadN X19.here hx rfl (hb hby at_116) rfl  k) ?_
  show own_R p e below _ T19 (mkF m 117 #[.val (.int p0), .val (.int p1), .val (.int p2), .val (.int p3), .val (.int p4), .val (.int p5), .val (.int se), .val (.int ff), .val (.ref b9), .val (.int (3 : Int32)), .val (.int ((((3 : Int32) + (if p0 = ff then (1 : Int32) else (0 : Int32))) + (if p1 = ff then (1 : Int32) else (0 : Int32))) + (if p2 = ff then (1 : Int32) else (0 : Int32)))), .unset, .unset, .unset, .unset] [(.int p2), (.int ((if p0 = ff then (1 : Int32) else (0 : Int32)) + (if p1 = ff then (1 : Int32) else (0 : Int32))))])
  refine own_go (fun t k => XS.iload X19.here hx rfl (hb hby at_117) rfl  k) ?_
  show own_R p e below _ T19 (mkF m 119 #[.val (.int p0), .val (.int p1), .val (.int p2), .val (.int p3), .val (.int p4), .val (.int p5), .val (.int se), .val (.int ff), .val (.ref b9), .val (.int (3 : Int32)), .val (.int ((((3 : Int32) + (if p0 = ff then (1 : Int32) else (0 : Int32))) + (if p1 = ff then (1 : Int32) else (0 : Int32))) + (if p2 = ff then (1 : Int32) else (0 : Int32)))), .unset, .unset, .unset, .unset] [(.int ff), (.int p2), (.int ((if p0 = ff then (1 : Int32) else (0 : Int32)) + (if p1 = ff then (1 : Int32) else (0 : Int32))))])
  obtain ⟨_, _, ⟨T20, L20, k20, n20⟩, -, X20, ⟨Lc20, hQ20, l20, y20, z20⟩, st20⟩ := Jvm.LawKit.callS X19 hx (y := (⟨"com/example/signetry/signetry/card/WordFrameReplaceAllPinLaw", "hit", "(II)I"⟩ : MethodName)) hown (mvT hZ (hw _ (List.mem_of_getElem? (i := 66) rfl))) (mvT hZ (hw _ (List.mem_of_getElem? (i := 67) rfl))) (mvT hZ (hw _ (List.mem_of_getElem? (i := 68) rfl))) (mvT hZ (hw _ (List.mem_of_getElem? (i := 69) rfl))) (by decide) (backOf (W := 1) (rm13 l Z a0 hw [] p2 ff h16 n0 (Nat.le_trans Z0 Kh.1)) hZ (hw _ (List.mem_of_getElem? (i := 69) rfl)) (hw _ (List.mem_of_getElem? (i := 68) rfl)) (by decide) (by decide)) (g := (mkF m 119 #[.val (.int p0), .val (.int p1), .val (.int p2), .val (.int p3), .val (.int p4), .val (.int p5), .val (.int se), .val (.int ff), .val (.ref b9), .val (.int (3 : Int32)), .val (.int ((((3 : Int32) + (if p0 = ff then (1 : Int32) else (0 : Int32))) + (if p1 = ff then (1 : Int32) else (0 : Int32))) + (if p2 = ff then (1 : Int32) else (0 : Int32)))), .unset, .unset, .unset, .unset] [(.int ff), (.int p2), (.int ((if p0 = ff then (1 : Int32) else (0 : Int32)) + (if p1 = ff then (1 : Int32) else (0 : Int32))))])) rfl (by rw [hml]; rfl) (argsL := [(.int p2), (.int ff)]) (rest := [(.int ((if p0 = ff then (1 : Int32) else (0 : Int32)) + (if p1 = ff then (1 : Int32) else (0 : Int32))))]) (lenOf pd_6 rfl) rfl (by show 2 * 0 + _ ≤ _; exact Nat.le_of_eq rfl) (hb hby at_119) (fun _ _ => ⟨rfl, e19, (by decide : 3 + 0 ≤ _), (by decide : 9 + 0 ≤ _)⟩)
  dsimp only [Pt.U, Pt.locs, Pt.cells, Pt.slots] at X20 l20 y20 z20 st20 hQ20
  subst l20 y20 z20
  obtain ⟨rfl, Nq20, e20⟩ := hQ20
  have N20 := Fr.app N19 Nq20
  refine own_go (st20) ?_
  show own_R p e below _ T20 (mkF m 122 #[.val (.int p0), .val (.int p1), .val (.int p2), .val (.int p3), .val (.int p4), .val (.int p5), .val (.int se), .val (.int ff), .val (.ref b9), .val (.int (3 : Int32)), .val (.int ((((3 : Int32) + (if p0 = ff then (1 : Int32) else (0 : Int32))) + (if p1 = ff then (1 : Int32) else (0 : Int32))) + (if p2 = ff then (1 : Int32) else (0 : Int32)))), .unset, .unset, .unset, .unset] [(.int (if p2 = ff then (1 : Int32) else (0 : Int32))), (.int ((if p0 = ff then (1 : Int32) else (0 : Int32)) + (if p1 = ff then (1 : Int32) else (0 : Int32))))])
  refine own_go (fun t k => XS.iadd X20.here hx rfl (hb hby at_122) rfl k) ?_
  show own_R p e below _ T20 (mkF m 123 #[.val (.int p0), .val (.int p1), .val (.int p2), .val (.int p3), .val (.int p4), .val (.int p5), .val (.int se), .val (.int ff), .val (.ref b9), .val (.int (3 : Int32)), .val (.int ((((3 : Int32) + (if p0 = ff then (1 : Int32) else (0 : Int32))) + (if p1 = ff then (1 : Int32) else (0 : Int32))) + (if p2 = ff then (1 : Int32) else (0 : Int32)))), .unset, .unset, .unset, .unset] [(.int (((if p0 = ff then (1 : Int32) else (0 : Int32)) + (if p1 = ff then (1 : Int32) else (0 : Int32))) + (if p2 = ff then (1 : Int32) else (0 : Int32))))])
  refine own_go (fun t k => XS.istore X20.here hx rfl (hb hby at_123) rfl (l' := #[.val (.int p0), .val (.int p1), .val (.int p2), .val (.int p3), .val (.int p4), .val (.int p5), .val (.int se), .val (.int ff), .val (.ref b9), .val (.int (3 : Int32)), .val (.int ((((3 : Int32) + (if p0 = ff then (1 : Int32) else (0 : Int32))) + (if p1 = ff then (1 : Int32) else (0 : Int32))) + (if p2 = ff then (1 : Int32) else (0 : Int32)))), .val (.int (((if p0 = ff then (1 : Int32) else (0 : Int32)) + (if p1 = ff then (1 : Int32) else (0 : Int32))) + (if p2 = ff then (1 : Int32) else (0 : Int32)))), .unset, .unset, .unset]) rfl k) ?_
  show own_R p e below _ T20 (mkF m 125 #[.val (.int p0), .val (.int p1), .val (.int p2), .val (.int p3), .val (.int p4), .val (.int p5), .val (.int se), .val (.int ff), .val (.ref b9), .val (.int (3 : Int32)), .val (.int ((((3 : Int32) + (if p0 = ff then (1 : Int32) else (0 : Int32))) + (if p1 = ff then (1 : Int32) else (0 : Int32))) + (if p2 = ff then (1 : Int32) else (0 : Int32)))), .val (.int (((if p0 = ff then (1 : Int32) else (0 : Int32)) + (if p1 = ff then (1 : Int32) else (0 : Int32))) + (if p2 = ff then (1 : Int32) else (0 : Int32)))), .unset, .unset, .unset] [])
  refine own_go (fun t k => XS.iload X20.here hx rfl (hb hby at_125) rfl  k) ?_
  show own_R p e below _ T20 (mkF m 127 #[.val (.int p0), .val (.int p1), .val (.int p2), .val (.int p3), .val (.int p4), .val (.int p5), .val (.int se), .val (.int ff), .val (.ref b9), .val (.int (3 : Int32)), .val (.int ((((3 : Int32) + (if p0 = ff then (1 : Int32) else (0 : Int32))) + (if p1 = ff then (1 : Int32) else (0 : Int32))) + (if p2 = ff then (1 : Int32) else (0 : Int32)))), .val (.int (((if p0 = ff then (1 : Int32) else (0 : Int32)) + (if p1 = ff then (1 : Int32) else (0 : Int32))) + (if p2 = ff then (1 : Int32) else (0 : Int32)))), .unset, .unset, .unset] [(.int (((if p0 = ff then (1 : Int32) else (0 : Int32)) + (if p1 = ff then (1 : Int32) else (0 : Int32))) + (if p2 = ff then (1 : Int32) else (0 : Int32))))])
  by_cases hc127_21 : (((if p0 = ff then (1 : Int32) else (0 : Int32)) + (if p1 = ff then (1 : Int32) else (0 : Int32))) + (if p2 = ff then (1 : Int32) else (0 : Int32))) = (0 : Int32)
  · -- pc 127: yes
    refine own_go (fun t k => XS.ifNo X20.here hx rfl (hb hby at_127) rfl ((if0 _ _).trans (teq hc127_21).2) k) ?_
    show own_R p e below _ T20 (mkF m 130 #[.val (.int p0), .val (.int p1), .val (.int p2), .val (.int p3), .val (.int p4), .val (.int p5), .val (.int se), .val (.int ff), .val (.ref b9), .val (.int (3 : Int32)), .val (.int ((((3 : Int32) + (if p0 = ff then (1 : Int32) else (0 : Int32))) + (if p1 = ff then (1 : Int32) else (0 : Int32))) + (if p2 = ff then (1 : Int32) else (0 : Int32)))), .val (.int (((if p0 = ff then (1 : Int32) else (0 : Int32)) + (if p1 = ff then (1 : Int32) else (0 : Int32))) + (if p2 = ff then (1 : Int32) else (0 : Int32)))), .unset, .unset, .unset] [])
    refine own_go (fun t k => XS.iload X20.here hx rfl (hb hby at_130) rfl  k) ?_
    show own_R p e below _ T20 (mkF m 132 #[.val (.int p0), .val (.int p1), .val (.int p2), .val (.int p3), .val (.int p4), .val (.int p5), .val (.int se), .val (.int ff), .val (.ref b9), .val (.int (3 : Int32)), .val (.int ((((3 : Int32) + (if p0 = ff then (1 : Int32) else (0 : Int32))) + (if p1 = ff then (1 : Int32) else (0 : Int32))) + (if p2 = ff then (1 : Int32) else (0 : Int32)))), .val (.int (((if p0 = ff then (1 : Int32) else (0 : Int32)) + (if p1 = ff then (1 : Int32) else (0 : Int32))) + (if p2 = ff then (1 : Int32) else (0 : Int32)))), .unset, .unset, .unset] [(.int ((((3 : Int32) + (if p0 = ff then (1 : Int32) else (0 : Int32))) + (if p1 = ff then (1 : Int32) else (0 : Int32))) + (if p2 = ff then (1 : Int32) else (0 : Int32))))])
    refine own_go (fun t k => XS.iload X20.here hx rfl (hb hby at_132) rfl  k) ?_
    show own_R p e below _ T20 (mkF m 134 #[.val (.int p0), .val (.int p1), .val (.int p2), .val (.int p3), .val (.int p4), .val (.int p5), .val (.int se), .val (.int ff), .val (.ref b9), .val (.int (3 : Int32)), .val (.int ((((3 : Int32) + (if p0 = ff then (1 : Int32) else (0 : Int32))) + (if p1 = ff then (1 : Int32) else (0 : Int32))) + (if p2 = ff then (1 : Int32) else (0 : Int32)))), .val (.int (((if p0 = ff then (1 : Int32) else (0 : Int32)) + (if p1 = ff then (1 : Int32) else (0 : Int32))) + (if p2 = ff then (1 : Int32) else (0 : Int32)))), .unset, .unset, .unset] [(.int (3 : Int32)), (.int ((((3 : Int32) + (if p0 = ff then (1 : Int32) else (0 : Int32))) + (if p1 = ff then (1 : Int32) else (0 : Int32))) + (if p2 = ff then (1 : Int32) else (0 : Int32))))])
    refine own_go (fun t k => XS.icmpNo X20.here hx rfl (hb hby at_134) rfl (teq ((own_ver p0 p1 p2 ff).mpr hc127_21)).2 k) ?_
    show own_R p e below _ T20 (mkF m 137 #[.val (.int p0), .val (.int p1), .val (.int p2), .val (.int p3), .val (.int p4), .val (.int p5), .val (.int se), .val (.int ff), .val (.ref b9), .val (.int (3 : Int32)), .val (.int ((((3 : Int32) + (if p0 = ff then (1 : Int32) else (0 : Int32))) + (if p1 = ff then (1 : Int32) else (0 : Int32))) + (if p2 = ff then (1 : Int32) else (0 : Int32)))), .val (.int (((if p0 = ff then (1 : Int32) else (0 : Int32)) + (if p1 = ff then (1 : Int32) else (0 : Int32))) + (if p2 = ff then (1 : Int32) else (0 : Int32)))), .unset, .unset, .unset] [])
    refine own_go (fun t k => XS.iconst X20.here hx rfl (hb hby at_137) k) ?_
    show own_R p e below _ T20 (mkF m 138 #[.val (.int p0), .val (.int p1), .val (.int p2), .val (.int p3), .val (.int p4), .val (.int p5), .val (.int se), .val (.int ff), .val (.ref b9), .val (.int (3 : Int32)), .val (.int ((((3 : Int32) + (if p0 = ff then (1 : Int32) else (0 : Int32))) + (if p1 = ff then (1 : Int32) else (0 : Int32))) + (if p2 = ff then (1 : Int32) else (0 : Int32)))), .val (.int (((if p0 = ff then (1 : Int32) else (0 : Int32)) + (if p1 = ff then (1 : Int32) else (0 : Int32))) + (if p2 = ff then (1 : Int32) else (0 : Int32)))), .unset, .unset, .unset] [(.int (1 : Int32))])
    refine own_go (fun t k => XS.goto X20.here hx rfl (pc0 := 138) (pc' := 157) rfl (hb hby at_138) (by decide) (by decide) k) ?_
    show own_R p e below _ T20 (mkF m 157 #[.val (.int p0), .val (.int p1), .val (.int p2), .val (.int p3), .val (.int p4), .val (.int p5), .val (.int se), .val (.int ff), .val (.ref b9), .val (.int (3 : Int32)), .val (.int ((((3 : Int32) + (if p0 = ff then (1 : Int32) else (0 : Int32))) + (if p1 = ff then (1 : Int32) else (0 : Int32))) + (if p2 = ff then (1 : Int32) else (0 : Int32)))), .val (.int (((if p0 = ff then (1 : Int32) else (0 : Int32)) + (if p1 = ff then (1 : Int32) else (0 : Int32))) + (if p2 = ff then (1 : Int32) else (0 : Int32)))), .unset, .unset, .unset] [(.int (1 : Int32))])
    refine own_go (fun t k => XS.istore X20.here hx rfl (hb hby at_157) rfl (l' := #[.val (.int p0), .val (.int p1), .val (.int p2), .val (.int p3), .val (.int p4), .val (.int p5), .val (.int se), .val (.int ff), .val (.ref b9), .val (.int (3 : Int32)), .val (.int ((((3 : Int32) + (if p0 = ff then (1 : Int32) else (0 : Int32))) + (if p1 = ff then (1 : Int32) else (0 : Int32))) + (if p2 = ff then (1 : Int32) else (0 : Int32)))), .val (.int (((if p0 = ff then (1 : Int32) else (0 : Int32)) + (if p1 = ff then (1 : Int32) else (0 : Int32))) + (if p2 = ff then (1 : Int32) else (0 : Int32)))), .val (.int (1 : Int32)), .unset, .unset]) rfl k) ?_
    show own_R p e below _ T20 (mkF m 159 #[.val (.int p0), .val (.int p1), .val (.int p2), .val (.int p3), .val (.int p4), .val (.int p5), .val (.int se), .val (.int ff), .val (.ref b9), .val (.int (3 : Int32)), .val (.int ((((3 : Int32) + (if p0 = ff then (1 : Int32) else (0 : Int32))) + (if p1 = ff then (1 : Int32) else (0 : Int32))) + (if p2 = ff then (1 : Int32) else (0 : Int32)))), .val (.int (((if p0 = ff then (1 : Int32) else (0 : Int32)) + (if p1 = ff then (1 : Int32) else (0 : Int32))) + (if p2 = ff then (1 : Int32) else (0 : Int32)))), .val (.int (1 : Int32)), .unset, .unset] [])
    refine own_go (fun t k => XS.aload X20.here hx rfl (hb hby at_159) rfl rfl  k) ?_
    show own_R p e below _ T20 (mkF m 161 #[.val (.int p0), .val (.int p1), .val (.int p2), .val (.int p3), .val (.int p4), .val (.int p5), .val (.int se), .val (.int ff), .val (.ref b9), .val (.int (3 : Int32)), .val (.int ((((3 : Int32) + (if p0 = ff then (1 : Int32) else (0 : Int32))) + (if p1 = ff then (1 : Int32) else (0 : Int32))) + (if p2 = ff then (1 : Int32) else (0 : Int32)))), .val (.int (((if p0 = ff then (1 : Int32) else (0 : Int32)) + (if p1 = ff then (1 : Int32) else (0 : Int32))) + (if p2 = ff then (1 : Int32) else (0 : Int32)))), .val (.int (1 : Int32)), .unset, .unset] [(.ref b9)])
    refine own_go (fun t k => XS.iconst X20.here hx rfl (hb hby at_161) k) ?_
    show own_R p e below _ T20 (mkF m 162 #[.val (.int p0), .val (.int p1), .val (.int p2), .val (.int p3), .val (.int p4), .val (.int p5), .val (.int se), .val (.int ff), .val (.ref b9), .val (.int (3 : Int32)), .val (.int ((((3 : Int32) + (if p0 = ff then (1 : Int32) else (0 : Int32))) + (if p1 = ff then (1 : Int32) else (0 : Int32))) + (if p2 = ff then (1 : Int32) else (0 : Int32)))), .val (.int (((if p0 = ff then (1 : Int32) else (0 : Int32)) + (if p1 = ff then (1 : Int32) else (0 : Int32))) + (if p2 = ff then (1 : Int32) else (0 : Int32)))), .val (.int (1 : Int32)), .unset, .unset] [(.int (0 : Int32)), (.ref b9)])
    obtain ⟨cq22, kq22, q22a, q22b, q22c⟩ := isOf hZ e20 E16_a
    obtain ⟨_, _, ⟨T22, L22, k22, n22⟩, -, X22, ⟨Lc22, hQ22, l22, y22, z22⟩, st22⟩ := X20.virtualBack hx (y := (⟨"com/example/signetry/signetry/card/WordFrame", "local", "(I)I"⟩ : MethodName)) (z := (⟨"com/example/signetry/signetry/card/WordFrame", "local", "(I)I"⟩ : MethodName)) hown (mvT hZ (hw _ (List.mem_of_getElem? (i := 70) rfl))) (mvT hZ (hw _ (List.mem_of_getElem? (i := 71) rfl))) (notFace_of_selects (args := #[]) (mvT hZ (hw _ (List.mem_of_getElem? (i := 73) rfl)))) (mvT hZ (hw _ (List.mem_of_getElem? (i := 73) rfl))) (mvT hZ (hw _ (List.mem_of_getElem? (i := 72) rfl))) (by decide) (backOf (W := 0) (rmlocal_0 l Z a0 hw [] b9 b11 kb11 (if p0 = ff then p4 else p0) (if p1 = ff then p4 else p1) (if p2 = ff then p4 else p2) ((((3 : Int32) + (if p0 = ff then (1 : Int32) else (0 : Int32))) + (if p1 = ff then (1 : Int32) else (0 : Int32))) + (if p2 = ff then (1 : Int32) else (0 : Int32))) h16 n0 (Nat.le_trans Z0 Kh.1) F16_a_words F16_a_localCount F16_a_maxStack F16_a_top F16_a_thisUninitialized F16_a_localsVersion E16_a V16_w) hZ (hw _ (List.mem_of_getElem? (i := 74) rfl)) (hw _ (List.mem_of_getElem? (i := 2) rfl)) (by decide) (by decide)) q22a q22c (g := (mkF m 162 #[.val (.int p0), .val (.int p1), .val (.int p2), .val (.int p3), .val (.int p4), .val (.int p5), .val (.int se), .val (.int ff), .val (.ref b9), .val (.int (3 : Int32)), .val (.int ((((3 : Int32) + (if p0 = ff then (1 : Int32) else (0 : Int32))) + (if p1 = ff then (1 : Int32) else (0 : Int32))) + (if p2 = ff then (1 : Int32) else (0 : Int32)))), .val (.int (((if p0 = ff then (1 : Int32) else (0 : Int32)) + (if p1 = ff then (1 : Int32) else (0 : Int32))) + (if p2 = ff then (1 : Int32) else (0 : Int32)))), .val (.int (1 : Int32)), .unset, .unset] [(.int (0 : Int32)), (.ref b9)])) rfl (by rw [hml]; rfl) (Steps.refl _) (argsL := [(.int (0 : Int32))]) (rest := []) (lenOf pd_7 rfl) rfl (by show 2 * 0 + _ ≤ _; exact Nat.le_of_eq rfl) (hb hby at_162) (fun _ _ => ⟨rfl, e20, (by decide : 3 + 0 ≤ _), (by decide : 9 + 0 ≤ _)⟩)
    dsimp only [Pt.U, Pt.locs, Pt.cells, Pt.slots] at X22 l22 y22 z22 st22 hQ22
    subst l22 y22 z22
    obtain ⟨rfl, Nq22, e22⟩ := hQ22
    have N22 := Fr.app N20 Nq22
    refine own_go (fun t k => st22.trans k) ?_
    show own_R p e below _ T22 (mkF m 165 #[.val (.int p0), .val (.int p1), .val (.int p2), .val (.int p3), .val (.int p4), .val (.int p5), .val (.int se), .val (.int ff), .val (.ref b9), .val (.int (3 : Int32)), .val (.int ((((3 : Int32) + (if p0 = ff then (1 : Int32) else (0 : Int32))) + (if p1 = ff then (1 : Int32) else (0 : Int32))) + (if p2 = ff then (1 : Int32) else (0 : Int32)))), .val (.int (((if p0 = ff then (1 : Int32) else (0 : Int32)) + (if p1 = ff then (1 : Int32) else (0 : Int32))) + (if p2 = ff then (1 : Int32) else (0 : Int32)))), .val (.int (1 : Int32)), .unset, .unset] [(.int (if p0 = ff then p4 else p0))])
    refine own_go (fun t k => XS.iloadN X22.here hx rfl (hb hby at_165) rfl  k) ?_
    show own_R p e below _ T22 (mkF m 166 #[.val (.int p0), .val (.int p1), .val (.int p2), .val (.int p3), .val (.int p4), .val (.int p5), .val (.int se), .val (.int ff), .val (.ref b9), .val (.int (3 : Int32)), .val (.int ((((3 : Int32) + (if p0 = ff then (1 : Int32) else (0 : Int32))) + (if p1 = ff then (1 : Int32) else (0 : Int32))) + (if p2 = ff then (1 : Int32) else (0 : Int32)))), .val (.int (((if p0 = ff then (1 : Int32) else (0 : Int32)) + (if p1 = ff then (1 : Int32) else (0 : Int32))) + (if p2 = ff then (1 : Int32) else (0 : Int32)))), .val (.int (1 : Int32)), .unset, .unset] [(.int p0), (.int (if p0 = ff then p4 else p0))])
    refine own_go (fun t k => XS.iload X22.here hx rfl (hb hby at_166) rfl  k) ?_
    show own_R p e below _ T22 (mkF m 168 #[.val (.int p0), .val (.int p1), .val (.int p2), .val (.int p3), .val (.int p4), .val (.int p5), .val (.int se), .val (.int ff), .val (.ref b9), .val (.int (3 : Int32)), .val (.int ((((3 : Int32) + (if p0 = ff then (1 : Int32) else (0 : Int32))) + (if p1 = ff then (1 : Int32) else (0 : Int32))) + (if p2 = ff then (1 : Int32) else (0 : Int32)))), .val (.int (((if p0 = ff then (1 : Int32) else (0 : Int32)) + (if p1 = ff then (1 : Int32) else (0 : Int32))) + (if p2 = ff then (1 : Int32) else (0 : Int32)))), .val (.int (1 : Int32)), .unset, .unset] [(.int ff), (.int p0), (.int (if p0 = ff then p4 else p0))])
    refine own_go (fun t k => XS.iload X22.here hx rfl (hb hby at_168) rfl  k) ?_
    show own_R p e below _ T22 (mkF m 170 #[.val (.int p0), .val (.int p1), .val (.int p2), .val (.int p3), .val (.int p4), .val (.int p5), .val (.int se), .val (.int ff), .val (.ref b9), .val (.int (3 : Int32)), .val (.int ((((3 : Int32) + (if p0 = ff then (1 : Int32) else (0 : Int32))) + (if p1 = ff then (1 : Int32) else (0 : Int32))) + (if p2 = ff then (1 : Int32) else (0 : Int32)))), .val (.int (((if p0 = ff then (1 : Int32) else (0 : Int32)) + (if p1 = ff then (1 : Int32) else (0 : Int32))) + (if p2 = ff then (1 : Int32) else (0 : Int32)))), .val (.int (1 : Int32)), .unset, .unset] [(.int p4), (.int ff), (.int p0), (.int (if p0 = ff then p4 else p0))])
    obtain ⟨_, _, ⟨T23, L23, k23, n23⟩, -, X23, ⟨Lc23, hQ23, l23, y23, z23⟩, st23⟩ := Jvm.LawKit.callS X22 hx (y := (⟨"com/example/signetry/signetry/card/WordFrameReplaceAllPinLaw", "expect", "(III)I"⟩ : MethodName)) hown (mvT hZ (hw _ (List.mem_of_getElem? (i := 75) rfl))) (mvT hZ (hw _ (List.mem_of_getElem? (i := 76) rfl))) (mvT hZ (hw _ (List.mem_of_getElem? (i := 68) rfl))) (mvT hZ (hw _ (List.mem_of_getElem? (i := 77) rfl))) (by decide) (backOf (W := 1) (rm15 l Z a0 hw [] p0 ff p4 h16 n0 (Nat.le_trans Z0 Kh.1)) hZ (hw _ (List.mem_of_getElem? (i := 77) rfl)) (hw _ (List.mem_of_getElem? (i := 68) rfl)) (by decide) (by decide)) (g := (mkF m 170 #[.val (.int p0), .val (.int p1), .val (.int p2), .val (.int p3), .val (.int p4), .val (.int p5), .val (.int se), .val (.int ff), .val (.ref b9), .val (.int (3 : Int32)), .val (.int ((((3 : Int32) + (if p0 = ff then (1 : Int32) else (0 : Int32))) + (if p1 = ff then (1 : Int32) else (0 : Int32))) + (if p2 = ff then (1 : Int32) else (0 : Int32)))), .val (.int (((if p0 = ff then (1 : Int32) else (0 : Int32)) + (if p1 = ff then (1 : Int32) else (0 : Int32))) + (if p2 = ff then (1 : Int32) else (0 : Int32)))), .val (.int (1 : Int32)), .unset, .unset] [(.int p4), (.int ff), (.int p0), (.int (if p0 = ff then p4 else p0))])) rfl (by rw [hml]; rfl) (argsL := [(.int p0), (.int ff), (.int p4)]) (rest := [(.int (if p0 = ff then p4 else p0))]) (lenOf pd_8 rfl) rfl (by show 2 * 0 + _ ≤ _; exact Nat.le_of_eq rfl) (hb hby at_170) (fun _ _ => ⟨rfl, e22, (by decide : 3 + 0 ≤ _), (by decide : 9 + 0 ≤ _)⟩)
    dsimp only [Pt.U, Pt.locs, Pt.cells, Pt.slots] at X23 l23 y23 z23 st23 hQ23
    subst l23 y23 z23
    obtain ⟨rfl, Nq23, e23⟩ := hQ23
    have N23 := Fr.app N22 Nq23
    refine own_go (st23) ?_
    show own_R p e below _ T23 (mkF m 173 #[.val (.int p0), .val (.int p1), .val (.int p2), .val (.int p3), .val (.int p4), .val (.int p5), .val (.int se), .val (.int ff), .val (.ref b9), .val (.int (3 : Int32)), .val (.int ((((3 : Int32) + (if p0 = ff then (1 : Int32) else (0 : Int32))) + (if p1 = ff then (1 : Int32) else (0 : Int32))) + (if p2 = ff then (1 : Int32) else (0 : Int32)))), .val (.int (((if p0 = ff then (1 : Int32) else (0 : Int32)) + (if p1 = ff then (1 : Int32) else (0 : Int32))) + (if p2 = ff then (1 : Int32) else (0 : Int32)))), .val (.int (1 : Int32)), .unset, .unset] [(.int (if p0 = ff then p4 else p0)), (.int (if p0 = ff then p4 else p0))])
    refine own_go (fun t k => XS.icmpNo X23.here hx rfl (hb hby at_173) rfl (teq (rfl : (if p0 = ff then p4 else p0) = (if p0 = ff then p4 else p0))).2 k) ?_
    show own_R p e below _ T23 (mkF m 176 #[.val (.int p0), .val (.int p1), .val (.int p2), .val (.int p3), .val (.int p4), .val (.int p5), .val (.int se), .val (.int ff), .val (.ref b9), .val (.int (3 : Int32)), .val (.int ((((3 : Int32) + (if p0 = ff then (1 : Int32) else (0 : Int32))) + (if p1 = ff then (1 : Int32) else (0 : Int32))) + (if p2 = ff then (1 : Int32) else (0 : Int32)))), .val (.int (((if p0 = ff then (1 : Int32) else (0 : Int32)) + (if p1 = ff then (1 : Int32) else (0 : Int32))) + (if p2 = ff then (1 : Int32) else (0 : Int32)))), .val (.int (1 : Int32)), .unset, .unset] [])
    refine own_go (fun t k => XS.aload X23.here hx rfl (hb hby at_176) rfl rfl  k) ?_
    show own_R p e below _ T23 (mkF m 178 #[.val (.int p0), .val (.int p1), .val (.int p2), .val (.int p3), .val (.int p4), .val (.int p5), .val (.int se), .val (.int ff), .val (.ref b9), .val (.int (3 : Int32)), .val (.int ((((3 : Int32) + (if p0 = ff then (1 : Int32) else (0 : Int32))) + (if p1 = ff then (1 : Int32) else (0 : Int32))) + (if p2 = ff then (1 : Int32) else (0 : Int32)))), .val (.int (((if p0 = ff then (1 : Int32) else (0 : Int32)) + (if p1 = ff then (1 : Int32) else (0 : Int32))) + (if p2 = ff then (1 : Int32) else (0 : Int32)))), .val (.int (1 : Int32)), .unset, .unset] [(.ref b9)])
    refine own_go (fun t k => XS.iconst X23.here hx rfl (hb hby at_178) k) ?_
    show own_R p e below _ T23 (mkF m 179 #[.val (.int p0), .val (.int p1), .val (.int p2), .val (.int p3), .val (.int p4), .val (.int p5), .val (.int se), .val (.int ff), .val (.ref b9), .val (.int (3 : Int32)), .val (.int ((((3 : Int32) + (if p0 = ff then (1 : Int32) else (0 : Int32))) + (if p1 = ff then (1 : Int32) else (0 : Int32))) + (if p2 = ff then (1 : Int32) else (0 : Int32)))), .val (.int (((if p0 = ff then (1 : Int32) else (0 : Int32)) + (if p1 = ff then (1 : Int32) else (0 : Int32))) + (if p2 = ff then (1 : Int32) else (0 : Int32)))), .val (.int (1 : Int32)), .unset, .unset] [(.int (1 : Int32)), (.ref b9)])
    obtain ⟨cq24, kq24, q24a, q24b, q24c⟩ := isOf hZ e23 E16_a
    obtain ⟨_, _, ⟨T24, L24, k24, n24⟩, -, X24, ⟨Lc24, hQ24, l24, y24, z24⟩, st24⟩ := X23.virtualBack hx (y := (⟨"com/example/signetry/signetry/card/WordFrame", "local", "(I)I"⟩ : MethodName)) (z := (⟨"com/example/signetry/signetry/card/WordFrame", "local", "(I)I"⟩ : MethodName)) hown (mvT hZ (hw _ (List.mem_of_getElem? (i := 70) rfl))) (mvT hZ (hw _ (List.mem_of_getElem? (i := 71) rfl))) (notFace_of_selects (args := #[]) (mvT hZ (hw _ (List.mem_of_getElem? (i := 73) rfl)))) (mvT hZ (hw _ (List.mem_of_getElem? (i := 73) rfl))) (mvT hZ (hw _ (List.mem_of_getElem? (i := 72) rfl))) (by decide) (backOf (W := 0) (rmlocal_1 l Z a0 hw [] b9 b11 kb11 (if p0 = ff then p4 else p0) (if p1 = ff then p4 else p1) (if p2 = ff then p4 else p2) ((((3 : Int32) + (if p0 = ff then (1 : Int32) else (0 : Int32))) + (if p1 = ff then (1 : Int32) else (0 : Int32))) + (if p2 = ff then (1 : Int32) else (0 : Int32))) h16 n0 (Nat.le_trans Z0 Kh.1) F16_a_words F16_a_localCount F16_a_maxStack F16_a_top F16_a_thisUninitialized F16_a_localsVersion E16_a V16_w) hZ (hw _ (List.mem_of_getElem? (i := 74) rfl)) (hw _ (List.mem_of_getElem? (i := 2) rfl)) (by decide) (by decide)) q24a q24c (g := (mkF m 179 #[.val (.int p0), .val (.int p1), .val (.int p2), .val (.int p3), .val (.int p4), .val (.int p5), .val (.int se), .val (.int ff), .val (.ref b9), .val (.int (3 : Int32)), .val (.int ((((3 : Int32) + (if p0 = ff then (1 : Int32) else (0 : Int32))) + (if p1 = ff then (1 : Int32) else (0 : Int32))) + (if p2 = ff then (1 : Int32) else (0 : Int32)))), .val (.int (((if p0 = ff then (1 : Int32) else (0 : Int32)) + (if p1 = ff then (1 : Int32) else (0 : Int32))) + (if p2 = ff then (1 : Int32) else (0 : Int32)))), .val (.int (1 : Int32)), .unset, .unset] [(.int (1 : Int32)), (.ref b9)])) rfl (by rw [hml]; rfl) (Steps.refl _) (argsL := [(.int (1 : Int32))]) (rest := []) (lenOf pd_7 rfl) rfl (by show 2 * 0 + _ ≤ _; exact Nat.le_of_eq rfl) (hb hby at_179) (fun _ _ => ⟨rfl, e23, (by decide : 3 + 0 ≤ _), (by decide : 9 + 0 ≤ _)⟩)
    dsimp only [Pt.U, Pt.locs, Pt.cells, Pt.slots] at X24 l24 y24 z24 st24 hQ24
    subst l24 y24 z24
    obtain ⟨rfl, Nq24, e24⟩ := hQ24
    have N24 := Fr.app N23 Nq24
    refine own_go (fun t k => st24.trans k) ?_
    show own_R p e below _ T24 (mkF m 182 #[.val (.int p0), .val (.int p1), .val (.int p2), .val (.int p3), .val (.int p4), .val (.int p5), .val (.int se), .val (.int ff), .val (.ref b9), .val (.int (3 : Int32)), .val (.int ((((3 : Int32) + (if p0 = ff then (1 : Int32) else (0 : Int32))) + (if p1 = ff then (1 : Int32) else (0 : Int32))) + (if p2 = ff then (1 : Int32) else (0 : Int32)))), .val (.int (((if p0 = ff then (1 : Int32) else (0 : Int32)) + (if p1 = ff then (1 : Int32) else (0 : Int32))) + (if p2 = ff then (1 : Int32) else (0 : Int32)))), .val (.int (1 : Int32)), .unset, .unset] [(.int (if p1 = ff then p4 else p1))])
    refine own_go (fun t k => XS.iloadN X24.here hx rfl (hb hby at_182) rfl  k) ?_
    show own_R p e below _ T24 (mkF m 183 #[.val (.int p0), .val (.int p1), .val (.int p2), .val (.int p3), .val (.int p4), .val (.int p5), .val (.int se), .val (.int ff), .val (.ref b9), .val (.int (3 : Int32)), .val (.int ((((3 : Int32) + (if p0 = ff then (1 : Int32) else (0 : Int32))) + (if p1 = ff then (1 : Int32) else (0 : Int32))) + (if p2 = ff then (1 : Int32) else (0 : Int32)))), .val (.int (((if p0 = ff then (1 : Int32) else (0 : Int32)) + (if p1 = ff then (1 : Int32) else (0 : Int32))) + (if p2 = ff then (1 : Int32) else (0 : Int32)))), .val (.int (1 : Int32)), .unset, .unset] [(.int p1), (.int (if p1 = ff then p4 else p1))])
    refine own_go (fun t k => XS.iload X24.here hx rfl (hb hby at_183) rfl  k) ?_
    show own_R p e below _ T24 (mkF m 185 #[.val (.int p0), .val (.int p1), .val (.int p2), .val (.int p3), .val (.int p4), .val (.int p5), .val (.int se), .val (.int ff), .val (.ref b9), .val (.int (3 : Int32)), .val (.int ((((3 : Int32) + (if p0 = ff then (1 : Int32) else (0 : Int32))) + (if p1 = ff then (1 : Int32) else (0 : Int32))) + (if p2 = ff then (1 : Int32) else (0 : Int32)))), .val (.int (((if p0 = ff then (1 : Int32) else (0 : Int32)) + (if p1 = ff then (1 : Int32) else (0 : Int32))) + (if p2 = ff then (1 : Int32) else (0 : Int32)))), .val (.int (1 : Int32)), .unset, .unset] [(.int ff), (.int p1), (.int (if p1 = ff then p4 else p1))])
    refine own_go (fun t k => XS.iload X24.here hx rfl (hb hby at_185) rfl  k) ?_
    show own_R p e below _ T24 (mkF m 187 #[.val (.int p0), .val (.int p1), .val (.int p2), .val (.int p3), .val (.int p4), .val (.int p5), .val (.int se), .val (.int ff), .val (.ref b9), .val (.int (3 : Int32)), .val (.int ((((3 : Int32) + (if p0 = ff then (1 : Int32) else (0 : Int32))) + (if p1 = ff then (1 : Int32) else (0 : Int32))) + (if p2 = ff then (1 : Int32) else (0 : Int32)))), .val (.int (((if p0 = ff then (1 : Int32) else (0 : Int32)) + (if p1 = ff then (1 : Int32) else (0 : Int32))) + (if p2 = ff then (1 : Int32) else (0 : Int32)))), .val (.int (1 : Int32)), .unset, .unset] [(.int p4), (.int ff), (.int p1), (.int (if p1 = ff then p4 else p1))])
    obtain ⟨_, _, ⟨T25, L25, k25, n25⟩, -, X25, ⟨Lc25, hQ25, l25, y25, z25⟩, st25⟩ := Jvm.LawKit.callS X24 hx (y := (⟨"com/example/signetry/signetry/card/WordFrameReplaceAllPinLaw", "expect", "(III)I"⟩ : MethodName)) hown (mvT hZ (hw _ (List.mem_of_getElem? (i := 75) rfl))) (mvT hZ (hw _ (List.mem_of_getElem? (i := 76) rfl))) (mvT hZ (hw _ (List.mem_of_getElem? (i := 68) rfl))) (mvT hZ (hw _ (List.mem_of_getElem? (i := 77) rfl))) (by decide) (backOf (W := 1) (rm15 l Z a0 hw [] p1 ff p4 h16 n0 (Nat.le_trans Z0 Kh.1)) hZ (hw _ (List.mem_of_getElem? (i := 77) rfl)) (hw _ (List.mem_of_getElem? (i := 68) rfl)) (by decide) (by decide)) (g := (mkF m 187 #[.val (.int p0), .val (.int p1), .val (.int p2), .val (.int p3), .val (.int p4), .val (.int p5), .val (.int se), .val (.int ff), .val (.ref b9), .val (.int (3 : Int32)), .val (.int ((((3 : Int32) + (if p0 = ff then (1 : Int32) else (0 : Int32))) + (if p1 = ff then (1 : Int32) else (0 : Int32))) + (if p2 = ff then (1 : Int32) else (0 : Int32)))), .val (.int (((if p0 = ff then (1 : Int32) else (0 : Int32)) + (if p1 = ff then (1 : Int32) else (0 : Int32))) + (if p2 = ff then (1 : Int32) else (0 : Int32)))), .val (.int (1 : Int32)), .unset, .unset] [(.int p4), (.int ff), (.int p1), (.int (if p1 = ff then p4 else p1))])) rfl (by rw [hml]; rfl) (argsL := [(.int p1), (.int ff), (.int p4)]) (rest := [(.int (if p1 = ff then p4 else p1))]) (lenOf pd_8 rfl) rfl (by show 2 * 0 + _ ≤ _; exact Nat.le_of_eq rfl) (hb hby at_187) (fun _ _ => ⟨rfl, e24, (by decide : 3 + 0 ≤ _), (by decide : 9 + 0 ≤ _)⟩)
    dsimp only [Pt.U, Pt.locs, Pt.cells, Pt.slots] at X25 l25 y25 z25 st25 hQ25
    subst l25 y25 z25
    obtain ⟨rfl, Nq25, e25⟩ := hQ25
    have N25 := Fr.app N24 Nq25
    refine own_go (st25) ?_
    show own_R p e below _ T25 (mkF m 190 #[.val (.int p0), .val (.int p1), .val (.int p2), .val (.int p3), .val (.int p4), .val (.int p5), .val (.int se), .val (.int ff), .val (.ref b9), .val (.int (3 : Int32)), .val (.int ((((3 : Int32) + (if p0 = ff then (1 : Int32) else (0 : Int32))) + (if p1 = ff then (1 : Int32) else (0 : Int32))) + (if p2 = ff then (1 : Int32) else (0 : Int32)))), .val (.int (((if p0 = ff then (1 : Int32) else (0 : Int32)) + (if p1 = ff then (1 : Int32) else (0 : Int32))) + (if p2 = ff then (1 : Int32) else (0 : Int32)))), .val (.int (1 : Int32)), .unset, .unset] [(.int (if p1 = ff then p4 else p1)), (.int (if p1 = ff then p4 else p1))])
    refine own_go (fun t k => XS.icmpNo X25.here hx rfl (hb hby at_190) rfl (teq (rfl : (if p1 = ff then p4 else p1) = (if p1 = ff then p4 else p1))).2 k) ?_
    show own_R p e below _ T25 (mkF m 193 #[.val (.int p0), .val (.int p1), .val (.int p2), .val (.int p3), .val (.int p4), .val (.int p5), .val (.int se), .val (.int ff), .val (.ref b9), .val (.int (3 : Int32)), .val (.int ((((3 : Int32) + (if p0 = ff then (1 : Int32) else (0 : Int32))) + (if p1 = ff then (1 : Int32) else (0 : Int32))) + (if p2 = ff then (1 : Int32) else (0 : Int32)))), .val (.int (((if p0 = ff then (1 : Int32) else (0 : Int32)) + (if p1 = ff then (1 : Int32) else (0 : Int32))) + (if p2 = ff then (1 : Int32) else (0 : Int32)))), .val (.int (1 : Int32)), .unset, .unset] [])
    refine own_go (fun t k => XS.aload X25.here hx rfl (hb hby at_193) rfl rfl  k) ?_
    show own_R p e below _ T25 (mkF m 195 #[.val (.int p0), .val (.int p1), .val (.int p2), .val (.int p3), .val (.int p4), .val (.int p5), .val (.int se), .val (.int ff), .val (.ref b9), .val (.int (3 : Int32)), .val (.int ((((3 : Int32) + (if p0 = ff then (1 : Int32) else (0 : Int32))) + (if p1 = ff then (1 : Int32) else (0 : Int32))) + (if p2 = ff then (1 : Int32) else (0 : Int32)))), .val (.int (((if p0 = ff then (1 : Int32) else (0 : Int32)) + (if p1 = ff then (1 : Int32) else (0 : Int32))) + (if p2 = ff then (1 : Int32) else (0 : Int32)))), .val (.int (1 : Int32)), .unset, .unset] [(.ref b9)])
    refine own_go (fun t k => XS.iconst X25.here hx rfl (hb hby at_195) k) ?_
    show own_R p e below _ T25 (mkF m 196 #[.val (.int p0), .val (.int p1), .val (.int p2), .val (.int p3), .val (.int p4), .val (.int p5), .val (.int se), .val (.int ff), .val (.ref b9), .val (.int (3 : Int32)), .val (.int ((((3 : Int32) + (if p0 = ff then (1 : Int32) else (0 : Int32))) + (if p1 = ff then (1 : Int32) else (0 : Int32))) + (if p2 = ff then (1 : Int32) else (0 : Int32)))), .val (.int (((if p0 = ff then (1 : Int32) else (0 : Int32)) + (if p1 = ff then (1 : Int32) else (0 : Int32))) + (if p2 = ff then (1 : Int32) else (0 : Int32)))), .val (.int (1 : Int32)), .unset, .unset] [(.int (0 : Int32)), (.ref b9)])
    obtain ⟨cq26, kq26, q26a, q26b, q26c⟩ := isOf hZ e25 E16_a
    obtain ⟨_, _, ⟨T26, L26, k26, n26⟩, -, X26, ⟨Lc26, hQ26, l26, y26, z26⟩, st26⟩ := X25.virtualBack hx (y := (⟨"com/example/signetry/signetry/card/WordFrame", "peek", "(I)I"⟩ : MethodName)) (z := (⟨"com/example/signetry/signetry/card/WordFrame", "peek", "(I)I"⟩ : MethodName)) hown (mvT hZ (hw _ (List.mem_of_getElem? (i := 78) rfl))) (mvT hZ (hw _ (List.mem_of_getElem? (i := 79) rfl))) (notFace_of_selects (args := #[]) (mvT hZ (hw _ (List.mem_of_getElem? (i := 81) rfl)))) (mvT hZ (hw _ (List.mem_of_getElem? (i := 81) rfl))) (mvT hZ (hw _ (List.mem_of_getElem? (i := 80) rfl))) (by decide) (backOf (W := 0) (rmpeek_0 l Z a0 hw [] b9 b11 kb11 (if p0 = ff then p4 else p0) (if p1 = ff then p4 else p1) (if p2 = ff then p4 else p2) ((((3 : Int32) + (if p0 = ff then (1 : Int32) else (0 : Int32))) + (if p1 = ff then (1 : Int32) else (0 : Int32))) + (if p2 = ff then (1 : Int32) else (0 : Int32))) h16 n0 (Nat.le_trans Z0 Kh.1) F16_a_words F16_a_localCount F16_a_maxStack F16_a_top F16_a_thisUninitialized F16_a_localsVersion E16_a V16_w) hZ (hw _ (List.mem_of_getElem? (i := 82) rfl)) (hw _ (List.mem_of_getElem? (i := 2) rfl)) (by decide) (by decide)) q26a q26c (g := (mkF m 196 #[.val (.int p0), .val (.int p1), .val (.int p2), .val (.int p3), .val (.int p4), .val (.int p5), .val (.int se), .val (.int ff), .val (.ref b9), .val (.int (3 : Int32)), .val (.int ((((3 : Int32) + (if p0 = ff then (1 : Int32) else (0 : Int32))) + (if p1 = ff then (1 : Int32) else (0 : Int32))) + (if p2 = ff then (1 : Int32) else (0 : Int32)))), .val (.int (((if p0 = ff then (1 : Int32) else (0 : Int32)) + (if p1 = ff then (1 : Int32) else (0 : Int32))) + (if p2 = ff then (1 : Int32) else (0 : Int32)))), .val (.int (1 : Int32)), .unset, .unset] [(.int (0 : Int32)), (.ref b9)])) rfl (by rw [hml]; rfl) (Steps.refl _) (argsL := [(.int (0 : Int32))]) (rest := []) (lenOf pd_7 rfl) rfl (by show 2 * 0 + _ ≤ _; exact Nat.le_of_eq rfl) (hb hby at_196) (fun _ _ => ⟨rfl, e25, (by decide : 3 + 0 ≤ _), (by decide : 9 + 0 ≤ _)⟩)
    dsimp only [Pt.U, Pt.locs, Pt.cells, Pt.slots] at X26 l26 y26 z26 st26 hQ26
    subst l26 y26 z26
    obtain ⟨rfl, Nq26, e26⟩ := hQ26
    have N26 := Fr.app N25 Nq26
    refine own_go (fun t k => st26.trans k) ?_
    show own_R p e below _ T26 (mkF m 199 #[.val (.int p0), .val (.int p1), .val (.int p2), .val (.int p3), .val (.int p4), .val (.int p5), .val (.int se), .val (.int ff), .val (.ref b9), .val (.int (3 : Int32)), .val (.int ((((3 : Int32) + (if p0 = ff then (1 : Int32) else (0 : Int32))) + (if p1 = ff then (1 : Int32) else (0 : Int32))) + (if p2 = ff then (1 : Int32) else (0 : Int32)))), .val (.int (((if p0 = ff then (1 : Int32) else (0 : Int32)) + (if p1 = ff then (1 : Int32) else (0 : Int32))) + (if p2 = ff then (1 : Int32) else (0 : Int32)))), .val (.int (1 : Int32)), .unset, .unset] [(.int (if p2 = ff then p4 else p2))])
    refine own_go (fun t k => XS.iloadN X26.here hx rfl (hb hby at_199) rfl  k) ?_
    show own_R p e below _ T26 (mkF m 200 #[.val (.int p0), .val (.int p1), .val (.int p2), .val (.int p3), .val (.int p4), .val (.int p5), .val (.int se), .val (.int ff), .val (.ref b9), .val (.int (3 : Int32)), .val (.int ((((3 : Int32) + (if p0 = ff then (1 : Int32) else (0 : Int32))) + (if p1 = ff then (1 : Int32) else (0 : Int32))) + (if p2 = ff then (1 : Int32) else (0 : Int32)))), .val (.int (((if p0 = ff then (1 : Int32) else (0 : Int32)) + (if p1 = ff then (1 : Int32) else (0 : Int32))) + (if p2 = ff then (1 : Int32) else (0 : Int32)))), .val (.int (1 : Int32)), .unset, .unset] [(.int p2), (.int (if p2 = ff then p4 else p2))])
    refine own_go (fun t k => XS.iload X26.here hx rfl (hb hby at_200) rfl  k) ?_
    show own_R p e below _ T26 (mkF m 202 #[.val (.int p0), .val (.int p1), .val (.int p2), .val (.int p3), .val (.int p4), .val (.int p5), .val (.int se), .val (.int ff), .val (.ref b9), .val (.int (3 : Int32)), .val (.int ((((3 : Int32) + (if p0 = ff then (1 : Int32) else (0 : Int32))) + (if p1 = ff then (1 : Int32) else (0 : Int32))) + (if p2 = ff then (1 : Int32) else (0 : Int32)))), .val (.int (((if p0 = ff then (1 : Int32) else (0 : Int32)) + (if p1 = ff then (1 : Int32) else (0 : Int32))) + (if p2 = ff then (1 : Int32) else (0 : Int32)))), .val (.int (1 : Int32)), .unset, .unset] [(.int ff), (.int p2), (.int (if p2 = ff then p4 else p2))])
    refine own_go (fun t k => XS.iload X26.here hx rfl (hb hby at_202) rfl  k) ?_
    show own_R p e below _ T26 (mkF m 204 #[.val (.int p0), .val (.int p1), .val (.int p2), .val (.int p3), .val (.int p4), .val (.int p5), .val (.int se), .val (.int ff), .val (.ref b9), .val (.int (3 : Int32)), .val (.int ((((3 : Int32) + (if p0 = ff then (1 : Int32) else (0 : Int32))) + (if p1 = ff then (1 : Int32) else (0 : Int32))) + (if p2 = ff then (1 : Int32) else (0 : Int32)))), .val (.int (((if p0 = ff then (1 : Int32) else (0 : Int32)) + (if p1 = ff then (1 : Int32) else (0 : Int32))) + (if p2 = ff then (1 : Int32) else (0 : Int32)))), .val (.int (1 : Int32)), .unset, .unset] [(.int p4), (.int ff), (.int p2), (.int (if p2 = ff then p4 else p2))])
    obtain ⟨_, _, ⟨T27, L27, k27, n27⟩, -, X27, ⟨Lc27, hQ27, l27, y27, z27⟩, st27⟩ := Jvm.LawKit.callS X26 hx (y := (⟨"com/example/signetry/signetry/card/WordFrameReplaceAllPinLaw", "expect", "(III)I"⟩ : MethodName)) hown (mvT hZ (hw _ (List.mem_of_getElem? (i := 75) rfl))) (mvT hZ (hw _ (List.mem_of_getElem? (i := 76) rfl))) (mvT hZ (hw _ (List.mem_of_getElem? (i := 68) rfl))) (mvT hZ (hw _ (List.mem_of_getElem? (i := 77) rfl))) (by decide) (backOf (W := 1) (rm15 l Z a0 hw [] p2 ff p4 h16 n0 (Nat.le_trans Z0 Kh.1)) hZ (hw _ (List.mem_of_getElem? (i := 77) rfl)) (hw _ (List.mem_of_getElem? (i := 68) rfl)) (by decide) (by decide)) (g := (mkF m 204 #[.val (.int p0), .val (.int p1), .val (.int p2), .val (.int p3), .val (.int p4), .val (.int p5), .val (.int se), .val (.int ff), .val (.ref b9), .val (.int (3 : Int32)), .val (.int ((((3 : Int32) + (if p0 = ff then (1 : Int32) else (0 : Int32))) + (if p1 = ff then (1 : Int32) else (0 : Int32))) + (if p2 = ff then (1 : Int32) else (0 : Int32)))), .val (.int (((if p0 = ff then (1 : Int32) else (0 : Int32)) + (if p1 = ff then (1 : Int32) else (0 : Int32))) + (if p2 = ff then (1 : Int32) else (0 : Int32)))), .val (.int (1 : Int32)), .unset, .unset] [(.int p4), (.int ff), (.int p2), (.int (if p2 = ff then p4 else p2))])) rfl (by rw [hml]; rfl) (argsL := [(.int p2), (.int ff), (.int p4)]) (rest := [(.int (if p2 = ff then p4 else p2))]) (lenOf pd_8 rfl) rfl (by show 2 * 0 + _ ≤ _; exact Nat.le_of_eq rfl) (hb hby at_204) (fun _ _ => ⟨rfl, e26, (by decide : 3 + 0 ≤ _), (by decide : 9 + 0 ≤ _)⟩)
    dsimp only [Pt.U, Pt.locs, Pt.cells, Pt.slots] at X27 l27 y27 z27 st27 hQ27
    subst l27 y27 z27
    obtain ⟨rfl, Nq27, e27⟩ := hQ27
    have N27 := Fr.app N26 Nq27
    refine own_go (st27) ?_
    show own_R p e below _ T27 (mkF m 207 #[.val (.int p0), .val (.int p1), .val (.int p2), .val (.int p3), .val (.int p4), .val (.int p5), .val (.int se), .val (.int ff), .val (.ref b9), .val (.int (3 : Int32)), .val (.int ((((3 : Int32) + (if p0 = ff then (1 : Int32) else (0 : Int32))) + (if p1 = ff then (1 : Int32) else (0 : Int32))) + (if p2 = ff then (1 : Int32) else (0 : Int32)))), .val (.int (((if p0 = ff then (1 : Int32) else (0 : Int32)) + (if p1 = ff then (1 : Int32) else (0 : Int32))) + (if p2 = ff then (1 : Int32) else (0 : Int32)))), .val (.int (1 : Int32)), .unset, .unset] [(.int (if p2 = ff then p4 else p2)), (.int (if p2 = ff then p4 else p2))])
    refine own_go (fun t k => XS.icmpNo X27.here hx rfl (hb hby at_207) rfl (teq (rfl : (if p2 = ff then p4 else p2) = (if p2 = ff then p4 else p2))).2 k) ?_
    show own_R p e below _ T27 (mkF m 210 #[.val (.int p0), .val (.int p1), .val (.int p2), .val (.int p3), .val (.int p4), .val (.int p5), .val (.int se), .val (.int ff), .val (.ref b9), .val (.int (3 : Int32)), .val (.int ((((3 : Int32) + (if p0 = ff then (1 : Int32) else (0 : Int32))) + (if p1 = ff then (1 : Int32) else (0 : Int32))) + (if p2 = ff then (1 : Int32) else (0 : Int32)))), .val (.int (((if p0 = ff then (1 : Int32) else (0 : Int32)) + (if p1 = ff then (1 : Int32) else (0 : Int32))) + (if p2 = ff then (1 : Int32) else (0 : Int32)))), .val (.int (1 : Int32)), .unset, .unset] [])
    refine own_go (fun t k => XS.iconst X27.here hx rfl (hb hby at_210) k) ?_
    show own_R p e below _ T27 (mkF m 211 #[.val (.int p0), .val (.int p1), .val (.int p2), .val (.int p3), .val (.int p4), .val (.int p5), .val (.int se), .val (.int ff), .val (.ref b9), .val (.int (3 : Int32)), .val (.int ((((3 : Int32) + (if p0 = ff then (1 : Int32) else (0 : Int32))) + (if p1 = ff then (1 : Int32) else (0 : Int32))) + (if p2 = ff then (1 : Int32) else (0 : Int32)))), .val (.int (((if p0 = ff then (1 : Int32) else (0 : Int32)) + (if p1 = ff then (1 : Int32) else (0 : Int32))) + (if p2 = ff then (1 : Int32) else (0 : Int32)))), .val (.int (1 : Int32)), .unset, .unset] [(.int (1 : Int32))])
    refine own_go (fun t k => XS.goto X27.here hx rfl (pc0 := 211) (pc' := 215) rfl (hb hby at_211) (by decide) (by decide) k) ?_
    show own_R p e below _ T27 (mkF m 215 #[.val (.int p0), .val (.int p1), .val (.int p2), .val (.int p3), .val (.int p4), .val (.int p5), .val (.int se), .val (.int ff), .val (.ref b9), .val (.int (3 : Int32)), .val (.int ((((3 : Int32) + (if p0 = ff then (1 : Int32) else (0 : Int32))) + (if p1 = ff then (1 : Int32) else (0 : Int32))) + (if p2 = ff then (1 : Int32) else (0 : Int32)))), .val (.int (((if p0 = ff then (1 : Int32) else (0 : Int32)) + (if p1 = ff then (1 : Int32) else (0 : Int32))) + (if p2 = ff then (1 : Int32) else (0 : Int32)))), .val (.int (1 : Int32)), .unset, .unset] [(.int (1 : Int32))])
    refine own_go (fun t k => XS.istore X27.here hx rfl (hb hby at_215) rfl (l' := #[.val (.int p0), .val (.int p1), .val (.int p2), .val (.int p3), .val (.int p4), .val (.int p5), .val (.int se), .val (.int ff), .val (.ref b9), .val (.int (3 : Int32)), .val (.int ((((3 : Int32) + (if p0 = ff then (1 : Int32) else (0 : Int32))) + (if p1 = ff then (1 : Int32) else (0 : Int32))) + (if p2 = ff then (1 : Int32) else (0 : Int32)))), .val (.int (((if p0 = ff then (1 : Int32) else (0 : Int32)) + (if p1 = ff then (1 : Int32) else (0 : Int32))) + (if p2 = ff then (1 : Int32) else (0 : Int32)))), .val (.int (1 : Int32)), .val (.int (1 : Int32)), .unset]) rfl k) ?_
    show own_R p e below _ T27 (mkF m 217 #[.val (.int p0), .val (.int p1), .val (.int p2), .val (.int p3), .val (.int p4), .val (.int p5), .val (.int se), .val (.int ff), .val (.ref b9), .val (.int (3 : Int32)), .val (.int ((((3 : Int32) + (if p0 = ff then (1 : Int32) else (0 : Int32))) + (if p1 = ff then (1 : Int32) else (0 : Int32))) + (if p2 = ff then (1 : Int32) else (0 : Int32)))), .val (.int (((if p0 = ff then (1 : Int32) else (0 : Int32)) + (if p1 = ff then (1 : Int32) else (0 : Int32))) + (if p2 = ff then (1 : Int32) else (0 : Int32)))), .val (.int (1 : Int32)), .val (.int (1 : Int32)), .unset] [])
    refine own_go (fun t k => XS.aload X27.here hx rfl (hb hby at_217) rfl rfl  k) ?_
    show own_R p e below _ T27 (mkF m 219 #[.val (.int p0), .val (.int p1), .val (.int p2), .val (.int p3), .val (.int p4), .val (.int p5), .val (.int se), .val (.int ff), .val (.ref b9), .val (.int (3 : Int32)), .val (.int ((((3 : Int32) + (if p0 = ff then (1 : Int32) else (0 : Int32))) + (if p1 = ff then (1 : Int32) else (0 : Int32))) + (if p2 = ff then (1 : Int32) else (0 : Int32)))), .val (.int (((if p0 = ff then (1 : Int32) else (0 : Int32)) + (if p1 = ff then (1 : Int32) else (0 : Int32))) + (if p2 = ff then (1 : Int32) else (0 : Int32)))), .val (.int (1 : Int32)), .val (.int (1 : Int32)), .unset] [(.ref b9)])
    obtain ⟨cq28, kq28, q28a, q28b, q28c⟩ := isOf hZ e27 E16_a
    obtain ⟨_, _, ⟨T28, L28, k28, n28⟩, -, X28, ⟨Lc28, hQ28, l28, y28, z28⟩, st28⟩ := X27.virtualBack hx (y := (⟨"com/example/signetry/signetry/card/WordFrame", "stackSize", "()I"⟩ : MethodName)) (z := (⟨"com/example/signetry/signetry/card/WordFrame", "stackSize", "()I"⟩ : MethodName)) hown (mvT hZ (hw _ (List.mem_of_getElem? (i := 87) rfl))) (mvT hZ (hw _ (List.mem_of_getElem? (i := 88) rfl))) (notFace_of_selects (args := #[]) (mvT hZ (hw _ (List.mem_of_getElem? (i := 90) rfl)))) (mvT hZ (hw _ (List.mem_of_getElem? (i := 90) rfl))) (mvT hZ (hw _ (List.mem_of_getElem? (i := 89) rfl))) (by decide) (backOf (W := 0) (rmssize l Z a0 hw [] b9 b11 kb11 (if p0 = ff then p4 else p0) (if p1 = ff then p4 else p1) (if p2 = ff then p4 else p2) ((((3 : Int32) + (if p0 = ff then (1 : Int32) else (0 : Int32))) + (if p1 = ff then (1 : Int32) else (0 : Int32))) + (if p2 = ff then (1 : Int32) else (0 : Int32))) h16 n0 (Nat.le_trans Z0 Kh.1) F16_a_words F16_a_localCount F16_a_maxStack F16_a_top F16_a_thisUninitialized F16_a_localsVersion E16_a V16_w) hZ (hw _ (List.mem_of_getElem? (i := 91) rfl)) (hw _ (List.mem_of_getElem? (i := 2) rfl)) (by decide) (by decide)) q28a q28c (g := (mkF m 219 #[.val (.int p0), .val (.int p1), .val (.int p2), .val (.int p3), .val (.int p4), .val (.int p5), .val (.int se), .val (.int ff), .val (.ref b9), .val (.int (3 : Int32)), .val (.int ((((3 : Int32) + (if p0 = ff then (1 : Int32) else (0 : Int32))) + (if p1 = ff then (1 : Int32) else (0 : Int32))) + (if p2 = ff then (1 : Int32) else (0 : Int32)))), .val (.int (((if p0 = ff then (1 : Int32) else (0 : Int32)) + (if p1 = ff then (1 : Int32) else (0 : Int32))) + (if p2 = ff then (1 : Int32) else (0 : Int32)))), .val (.int (1 : Int32)), .val (.int (1 : Int32)), .unset] [(.ref b9)])) rfl (by rw [hml]; rfl) (Steps.refl _) (argsL := []) (rest := []) (lenOf pd_5 rfl) rfl (by show 2 * 0 + _ ≤ _; exact Nat.le_of_eq rfl) (hb hby at_219) (fun _ _ => ⟨rfl, e27, (by decide : 3 + 0 ≤ _), (by decide : 9 + 0 ≤ _)⟩)
    dsimp only [Pt.U, Pt.locs, Pt.cells, Pt.slots] at X28 l28 y28 z28 st28 hQ28
    subst l28 y28 z28
    obtain ⟨rfl, Nq28, e28⟩ := hQ28
    have N28 := Fr.app N27 Nq28
    refine own_go (fun t k => st28.trans k) ?_
    show own_R p e below _ T28 (mkF m 222 #[.val (.int p0), .val (.int p1), .val (.int p2), .val (.int p3), .val (.int p4), .val (.int p5), .val (.int se), .val (.int ff), .val (.ref b9), .val (.int (3 : Int32)), .val (.int ((((3 : Int32) + (if p0 = ff then (1 : Int32) else (0 : Int32))) + (if p1 = ff then (1 : Int32) else (0 : Int32))) + (if p2 = ff then (1 : Int32) else (0 : Int32)))), .val (.int (((if p0 = ff then (1 : Int32) else (0 : Int32)) + (if p1 = ff then (1 : Int32) else (0 : Int32))) + (if p2 = ff then (1 : Int32) else (0 : Int32)))), .val (.int (1 : Int32)), .val (.int (1 : Int32)), .unset] [(.int (1 : Int32))])
    refine own_go (fun t k => XS.iconst X28.here hx rfl (hb hby at_222) k) ?_
    show own_R p e below _ T28 (mkF m 223 #[.val (.int p0), .val (.int p1), .val (.int p2), .val (.int p3), .val (.int p4), .val (.int p5), .val (.int se), .val (.int ff), .val (.ref b9), .val (.int (3 : Int32)), .val (.int ((((3 : Int32) + (if p0 = ff then (1 : Int32) else (0 : Int32))) + (if p1 = ff then (1 : Int32) else (0 : Int32))) + (if p2 = ff then (1 : Int32) else (0 : Int32)))), .val (.int (((if p0 = ff then (1 : Int32) else (0 : Int32)) + (if p1 = ff then (1 : Int32) else (0 : Int32))) + (if p2 = ff then (1 : Int32) else (0 : Int32)))), .val (.int (1 : Int32)), .val (.int (1 : Int32)), .unset] [(.int (1 : Int32)), (.int (1 : Int32))])
    refine own_go (fun t k => XS.icmpNo X28.here hx rfl (hb hby at_223) rfl (teq (by decide : (1 : Int32) = (1 : Int32))).2 k) ?_
    show own_R p e below _ T28 (mkF m 226 #[.val (.int p0), .val (.int p1), .val (.int p2), .val (.int p3), .val (.int p4), .val (.int p5), .val (.int se), .val (.int ff), .val (.ref b9), .val (.int (3 : Int32)), .val (.int ((((3 : Int32) + (if p0 = ff then (1 : Int32) else (0 : Int32))) + (if p1 = ff then (1 : Int32) else (0 : Int32))) + (if p2 = ff then (1 : Int32) else (0 : Int32)))), .val (.int (((if p0 = ff then (1 : Int32) else (0 : Int32)) + (if p1 = ff then (1 : Int32) else (0 : Int32))) + (if p2 = ff then (1 : Int32) else (0 : Int32)))), .val (.int (1 : Int32)), .val (.int (1 : Int32)), .unset] [])
    refine own_go (fun t k => XS.iconst X28.here hx rfl (hb hby at_226) k) ?_
    show own_R p e below _ T28 (mkF m 227 #[.val (.int p0), .val (.int p1), .val (.int p2), .val (.int p3), .val (.int p4), .val (.int p5), .val (.int se), .val (.int ff), .val (.ref b9), .val (.int (3 : Int32)), .val (.int ((((3 : Int32) + (if p0 = ff then (1 : Int32) else (0 : Int32))) + (if p1 = ff then (1 : Int32) else (0 : Int32))) + (if p2 = ff then (1 : Int32) else (0 : Int32)))), .val (.int (((if p0 = ff then (1 : Int32) else (0 : Int32)) + (if p1 = ff then (1 : Int32) else (0 : Int32))) + (if p2 = ff then (1 : Int32) else (0 : Int32)))), .val (.int (1 : Int32)), .val (.int (1 : Int32)), .unset] [(.int (1 : Int32))])
    refine own_go (fun t k => XS.goto X28.here hx rfl (pc0 := 227) (pc' := 231) rfl (hb hby at_227) (by decide) (by decide) k) ?_
    show own_R p e below _ T28 (mkF m 231 #[.val (.int p0), .val (.int p1), .val (.int p2), .val (.int p3), .val (.int p4), .val (.int p5), .val (.int se), .val (.int ff), .val (.ref b9), .val (.int (3 : Int32)), .val (.int ((((3 : Int32) + (if p0 = ff then (1 : Int32) else (0 : Int32))) + (if p1 = ff then (1 : Int32) else (0 : Int32))) + (if p2 = ff then (1 : Int32) else (0 : Int32)))), .val (.int (((if p0 = ff then (1 : Int32) else (0 : Int32)) + (if p1 = ff then (1 : Int32) else (0 : Int32))) + (if p2 = ff then (1 : Int32) else (0 : Int32)))), .val (.int (1 : Int32)), .val (.int (1 : Int32)), .unset] [(.int (1 : Int32))])
    refine own_go (fun t k => XS.istore X28.here hx rfl (hb hby at_231) rfl (l' := #[.val (.int p0), .val (.int p1), .val (.int p2), .val (.int p3), .val (.int p4), .val (.int p5), .val (.int se), .val (.int ff), .val (.ref b9), .val (.int (3 : Int32)), .val (.int ((((3 : Int32) + (if p0 = ff then (1 : Int32) else (0 : Int32))) + (if p1 = ff then (1 : Int32) else (0 : Int32))) + (if p2 = ff then (1 : Int32) else (0 : Int32)))), .val (.int (((if p0 = ff then (1 : Int32) else (0 : Int32)) + (if p1 = ff then (1 : Int32) else (0 : Int32))) + (if p2 = ff then (1 : Int32) else (0 : Int32)))), .val (.int (1 : Int32)), .val (.int (1 : Int32)), .val (.int (1 : Int32))]) rfl k) ?_
    show own_R p e below _ T28 (mkF m 233 #[.val (.int p0), .val (.int p1), .val (.int p2), .val (.int p3), .val (.int p4), .val (.int p5), .val (.int se), .val (.int ff), .val (.ref b9), .val (.int (3 : Int32)), .val (.int ((((3 : Int32) + (if p0 = ff then (1 : Int32) else (0 : Int32))) + (if p1 = ff then (1 : Int32) else (0 : Int32))) + (if p2 = ff then (1 : Int32) else (0 : Int32)))), .val (.int (((if p0 = ff then (1 : Int32) else (0 : Int32)) + (if p1 = ff then (1 : Int32) else (0 : Int32))) + (if p2 = ff then (1 : Int32) else (0 : Int32)))), .val (.int (1 : Int32)), .val (.int (1 : Int32)), .val (.int (1 : Int32))] [])
    refine own_go (fun t k => XS.iload X28.here hx rfl (hb hby at_233) rfl  k) ?_
    show own_R p e below _ T28 (mkF m 235 #[.val (.int p0), .val (.int p1), .val (.int p2), .val (.int p3), .val (.int p4), .val (.int p5), .val (.int se), .val (.int ff), .val (.ref b9), .val (.int (3 : Int32)), .val (.int ((((3 : Int32) + (if p0 = ff then (1 : Int32) else (0 : Int32))) + (if p1 = ff then (1 : Int32) else (0 : Int32))) + (if p2 = ff then (1 : Int32) else (0 : Int32)))), .val (.int (((if p0 = ff then (1 : Int32) else (0 : Int32)) + (if p1 = ff then (1 : Int32) else (0 : Int32))) + (if p2 = ff then (1 : Int32) else (0 : Int32)))), .val (.int (1 : Int32)), .val (.int (1 : Int32)), .val (.int (1 : Int32))] [(.int (1 : Int32))])
    refine own_go (fun t k => XS.ifNo X28.here hx rfl (hb hby at_235) rfl ((if0 _ _).trans (feq (by decide : ¬ ((1 : Int32) = (0 : Int32)))).1) k) ?_
    show own_R p e below _ T28 (mkF m 238 #[.val (.int p0), .val (.int p1), .val (.int p2), .val (.int p3), .val (.int p4), .val (.int p5), .val (.int se), .val (.int ff), .val (.ref b9), .val (.int (3 : Int32)), .val (.int ((((3 : Int32) + (if p0 = ff then (1 : Int32) else (0 : Int32))) + (if p1 = ff then (1 : Int32) else (0 : Int32))) + (if p2 = ff then (1 : Int32) else (0 : Int32)))), .val (.int (((if p0 = ff then (1 : Int32) else (0 : Int32)) + (if p1 = ff then (1 : Int32) else (0 : Int32))) + (if p2 = ff then (1 : Int32) else (0 : Int32)))), .val (.int (1 : Int32)), .val (.int (1 : Int32)), .val (.int (1 : Int32))] [])
    refine own_go (fun t k => XS.iload X28.here hx rfl (hb hby at_238) rfl  k) ?_
    show own_R p e below _ T28 (mkF m 240 #[.val (.int p0), .val (.int p1), .val (.int p2), .val (.int p3), .val (.int p4), .val (.int p5), .val (.int se), .val (.int ff), .val (.ref b9), .val (.int (3 : Int32)), .val (.int ((((3 : Int32) + (if p0 = ff then (1 : Int32) else (0 : Int32))) + (if p1 = ff then (1 : Int32) else (0 : Int32))) + (if p2 = ff then (1 : Int32) else (0 : Int32)))), .val (.int (((if p0 = ff then (1 : Int32) else (0 : Int32)) + (if p1 = ff then (1 : Int32) else (0 : Int32))) + (if p2 = ff then (1 : Int32) else (0 : Int32)))), .val (.int (1 : Int32)), .val (.int (1 : Int32)), .val (.int (1 : Int32))] [(.int (1 : Int32))])
    refine own_go (fun t k => XS.ifNo X28.here hx rfl (hb hby at_240) rfl ((if0 _ _).trans (feq (by decide : ¬ ((1 : Int32) = (0 : Int32)))).1) k) ?_
    show own_R p e below _ T28 (mkF m 243 #[.val (.int p0), .val (.int p1), .val (.int p2), .val (.int p3), .val (.int p4), .val (.int p5), .val (.int se), .val (.int ff), .val (.ref b9), .val (.int (3 : Int32)), .val (.int ((((3 : Int32) + (if p0 = ff then (1 : Int32) else (0 : Int32))) + (if p1 = ff then (1 : Int32) else (0 : Int32))) + (if p2 = ff then (1 : Int32) else (0 : Int32)))), .val (.int (((if p0 = ff then (1 : Int32) else (0 : Int32)) + (if p1 = ff then (1 : Int32) else (0 : Int32))) + (if p2 = ff then (1 : Int32) else (0 : Int32)))), .val (.int (1 : Int32)), .val (.int (1 : Int32)), .val (.int (1 : Int32))] [])
    refine own_go (fun t k => XS.iload X28.here hx rfl (hb hby at_243) rfl  k) ?_
    show own_R p e below _ T28 (mkF m 245 #[.val (.int p0), .val (.int p1), .val (.int p2), .val (.int p3), .val (.int p4), .val (.int p5), .val (.int se), .val (.int ff), .val (.ref b9), .val (.int (3 : Int32)), .val (.int ((((3 : Int32) + (if p0 = ff then (1 : Int32) else (0 : Int32))) + (if p1 = ff then (1 : Int32) else (0 : Int32))) + (if p2 = ff then (1 : Int32) else (0 : Int32)))), .val (.int (((if p0 = ff then (1 : Int32) else (0 : Int32)) + (if p1 = ff then (1 : Int32) else (0 : Int32))) + (if p2 = ff then (1 : Int32) else (0 : Int32)))), .val (.int (1 : Int32)), .val (.int (1 : Int32)), .val (.int (1 : Int32))] [(.int (1 : Int32))])
    refine own_go (fun t k => XS.ifNo X28.here hx rfl (hb hby at_245) rfl ((if0 _ _).trans (feq (by decide : ¬ ((1 : Int32) = (0 : Int32)))).1) k) ?_
    show own_R p e below _ T28 (mkF m 248 #[.val (.int p0), .val (.int p1), .val (.int p2), .val (.int p3), .val (.int p4), .val (.int p5), .val (.int se), .val (.int ff), .val (.ref b9), .val (.int (3 : Int32)), .val (.int ((((3 : Int32) + (if p0 = ff then (1 : Int32) else (0 : Int32))) + (if p1 = ff then (1 : Int32) else (0 : Int32))) + (if p2 = ff then (1 : Int32) else (0 : Int32)))), .val (.int (((if p0 = ff then (1 : Int32) else (0 : Int32)) + (if p1 = ff then (1 : Int32) else (0 : Int32))) + (if p2 = ff then (1 : Int32) else (0 : Int32)))), .val (.int (1 : Int32)), .val (.int (1 : Int32)), .val (.int (1 : Int32))] [])
    refine own_go (fun t k => XS.iconst X28.here hx rfl (hb hby at_248) k) ?_
    show own_R p e below _ T28 (mkF m 249 #[.val (.int p0), .val (.int p1), .val (.int p2), .val (.int p3), .val (.int p4), .val (.int p5), .val (.int se), .val (.int ff), .val (.ref b9), .val (.int (3 : Int32)), .val (.int ((((3 : Int32) + (if p0 = ff then (1 : Int32) else (0 : Int32))) + (if p1 = ff then (1 : Int32) else (0 : Int32))) + (if p2 = ff then (1 : Int32) else (0 : Int32)))), .val (.int (((if p0 = ff then (1 : Int32) else (0 : Int32)) + (if p1 = ff then (1 : Int32) else (0 : Int32))) + (if p2 = ff then (1 : Int32) else (0 : Int32)))), .val (.int (1 : Int32)), .val (.int (1 : Int32)), .val (.int (1 : Int32))] [(.int (1 : Int32))])
    refine own_go (fun t k => XS.goto X28.here hx rfl (pc0 := 249) (pc' := 253) rfl (hb hby at_249) (by decide) (by decide) k) ?_
    show own_R p e below _ T28 (mkF m 253 #[.val (.int p0), .val (.int p1), .val (.int p2), .val (.int p3), .val (.int p4), .val (.int p5), .val (.int se), .val (.int ff), .val (.ref b9), .val (.int (3 : Int32)), .val (.int ((((3 : Int32) + (if p0 = ff then (1 : Int32) else (0 : Int32))) + (if p1 = ff then (1 : Int32) else (0 : Int32))) + (if p2 = ff then (1 : Int32) else (0 : Int32)))), .val (.int (((if p0 = ff then (1 : Int32) else (0 : Int32)) + (if p1 = ff then (1 : Int32) else (0 : Int32))) + (if p2 = ff then (1 : Int32) else (0 : Int32)))), .val (.int (1 : Int32)), .val (.int (1 : Int32)), .val (.int (1 : Int32))] [(.int (1 : Int32))])
    refine own_retN X28 hx Bd.returns (by simp) (BodyLoose.notSynchronized Bd) (hb hby at_253) (by decide) (by decide) ?_
    exact ⟨rfl, N28⟩
  · -- pc 127: no
    refine own_go (fun t k => XS.ifYes X20.here hx rfl (pc0 := 127) (pc' := 145) rfl (hb hby at_127) rfl ((if0 _ _).trans (feq hc127_21).2) (by decide) (by decide) k) ?_
    show own_R p e below _ T20 (mkF m 145 #[.val (.int p0), .val (.int p1), .val (.int p2), .val (.int p3), .val (.int p4), .val (.int p5), .val (.int se), .val (.int ff), .val (.ref b9), .val (.int (3 : Int32)), .val (.int ((((3 : Int32) + (if p0 = ff then (1 : Int32) else (0 : Int32))) + (if p1 = ff then (1 : Int32) else (0 : Int32))) + (if p2 = ff then (1 : Int32) else (0 : Int32)))), .val (.int (((if p0 = ff then (1 : Int32) else (0 : Int32)) + (if p1 = ff then (1 : Int32) else (0 : Int32))) + (if p2 = ff then (1 : Int32) else (0 : Int32)))), .unset, .unset, .unset] [])
    refine own_go (fun t k => XS.iload X20.here hx rfl (hb hby at_145) rfl  k) ?_
    show own_R p e below _ T20 (mkF m 147 #[.val (.int p0), .val (.int p1), .val (.int p2), .val (.int p3), .val (.int p4), .val (.int p5), .val (.int se), .val (.int ff), .val (.ref b9), .val (.int (3 : Int32)), .val (.int ((((3 : Int32) + (if p0 = ff then (1 : Int32) else (0 : Int32))) + (if p1 = ff then (1 : Int32) else (0 : Int32))) + (if p2 = ff then (1 : Int32) else (0 : Int32)))), .val (.int (((if p0 = ff then (1 : Int32) else (0 : Int32)) + (if p1 = ff then (1 : Int32) else (0 : Int32))) + (if p2 = ff then (1 : Int32) else (0 : Int32)))), .unset, .unset, .unset] [(.int ((((3 : Int32) + (if p0 = ff then (1 : Int32) else (0 : Int32))) + (if p1 = ff then (1 : Int32) else (0 : Int32))) + (if p2 = ff then (1 : Int32) else (0 : Int32))))])
    refine own_go (fun t k => XS.iload X20.here hx rfl (hb hby at_147) rfl  k) ?_
    show own_R p e below _ T20 (mkF m 149 #[.val (.int p0), .val (.int p1), .val (.int p2), .val (.int p3), .val (.int p4), .val (.int p5), .val (.int se), .val (.int ff), .val (.ref b9), .val (.int (3 : Int32)), .val (.int ((((3 : Int32) + (if p0 = ff then (1 : Int32) else (0 : Int32))) + (if p1 = ff then (1 : Int32) else (0 : Int32))) + (if p2 = ff then (1 : Int32) else (0 : Int32)))), .val (.int (((if p0 = ff then (1 : Int32) else (0 : Int32)) + (if p1 = ff then (1 : Int32) else (0 : Int32))) + (if p2 = ff then (1 : Int32) else (0 : Int32)))), .unset, .unset, .unset] [(.int (3 : Int32)), (.int ((((3 : Int32) + (if p0 = ff then (1 : Int32) else (0 : Int32))) + (if p1 = ff then (1 : Int32) else (0 : Int32))) + (if p2 = ff then (1 : Int32) else (0 : Int32))))])
    refine own_go (fun t k => XS.icmpNo X20.here hx rfl (hb hby at_149) rfl (feq (fun q => hc127_21 ((own_ver p0 p1 p2 ff).mp q))).1 k) ?_
    show own_R p e below _ T20 (mkF m 152 #[.val (.int p0), .val (.int p1), .val (.int p2), .val (.int p3), .val (.int p4), .val (.int p5), .val (.int se), .val (.int ff), .val (.ref b9), .val (.int (3 : Int32)), .val (.int ((((3 : Int32) + (if p0 = ff then (1 : Int32) else (0 : Int32))) + (if p1 = ff then (1 : Int32) else (0 : Int32))) + (if p2 = ff then (1 : Int32) else (0 : Int32)))), .val (.int (((if p0 = ff then (1 : Int32) else (0 : Int32)) + (if p1 = ff then (1 : Int32) else (0 : Int32))) + (if p2 = ff then (1 : Int32) else (0 : Int32)))), .unset, .unset, .unset] [])
    refine own_go (fun t k => XS.iconst X20.here hx rfl (hb hby at_152) k) ?_
    show own_R p e below _ T20 (mkF m 153 #[.val (.int p0), .val (.int p1), .val (.int p2), .val (.int p3), .val (.int p4), .val (.int p5), .val (.int se), .val (.int ff), .val (.ref b9), .val (.int (3 : Int32)), .val (.int ((((3 : Int32) + (if p0 = ff then (1 : Int32) else (0 : Int32))) + (if p1 = ff then (1 : Int32) else (0 : Int32))) + (if p2 = ff then (1 : Int32) else (0 : Int32)))), .val (.int (((if p0 = ff then (1 : Int32) else (0 : Int32)) + (if p1 = ff then (1 : Int32) else (0 : Int32))) + (if p2 = ff then (1 : Int32) else (0 : Int32)))), .unset, .unset, .unset] [(.int (1 : Int32))])
    refine own_go (fun t k => XS.goto X20.here hx rfl (pc0 := 153) (pc' := 157) rfl (hb hby at_153) (by decide) (by decide) k) ?_
    show own_R p e below _ T20 (mkF m 157 #[.val (.int p0), .val (.int p1), .val (.int p2), .val (.int p3), .val (.int p4), .val (.int p5), .val (.int se), .val (.int ff), .val (.ref b9), .val (.int (3 : Int32)), .val (.int ((((3 : Int32) + (if p0 = ff then (1 : Int32) else (0 : Int32))) + (if p1 = ff then (1 : Int32) else (0 : Int32))) + (if p2 = ff then (1 : Int32) else (0 : Int32)))), .val (.int (((if p0 = ff then (1 : Int32) else (0 : Int32)) + (if p1 = ff then (1 : Int32) else (0 : Int32))) + (if p2 = ff then (1 : Int32) else (0 : Int32)))), .unset, .unset, .unset] [(.int (1 : Int32))])
    refine own_go (fun t k => XS.istore X20.here hx rfl (hb hby at_157) rfl (l' := #[.val (.int p0), .val (.int p1), .val (.int p2), .val (.int p3), .val (.int p4), .val (.int p5), .val (.int se), .val (.int ff), .val (.ref b9), .val (.int (3 : Int32)), .val (.int ((((3 : Int32) + (if p0 = ff then (1 : Int32) else (0 : Int32))) + (if p1 = ff then (1 : Int32) else (0 : Int32))) + (if p2 = ff then (1 : Int32) else (0 : Int32)))), .val (.int (((if p0 = ff then (1 : Int32) else (0 : Int32)) + (if p1 = ff then (1 : Int32) else (0 : Int32))) + (if p2 = ff then (1 : Int32) else (0 : Int32)))), .val (.int (1 : Int32)), .unset, .unset]) rfl k) ?_
    show own_R p e below _ T20 (mkF m 159 #[.val (.int p0), .val (.int p1), .val (.int p2), .val (.int p3), .val (.int p4), .val (.int p5), .val (.int se), .val (.int ff), .val (.ref b9), .val (.int (3 : Int32)), .val (.int ((((3 : Int32) + (if p0 = ff then (1 : Int32) else (0 : Int32))) + (if p1 = ff then (1 : Int32) else (0 : Int32))) + (if p2 = ff then (1 : Int32) else (0 : Int32)))), .val (.int (((if p0 = ff then (1 : Int32) else (0 : Int32)) + (if p1 = ff then (1 : Int32) else (0 : Int32))) + (if p2 = ff then (1 : Int32) else (0 : Int32)))), .val (.int (1 : Int32)), .unset, .unset] [])
    refine own_go (fun t k => XS.aload X20.here hx rfl (hb hby at_159) rfl rfl  k) ?_
    show own_R p e below _ T20 (mkF m 161 #[.val (.int p0), .val (.int p1), .val (.int p2), .val (.int p3), .val (.int p4), .val (.int p5), .val (.int se), .val (.int ff), .val (.ref b9), .val (.int (3 : Int32)), .val (.int ((((3 : Int32) + (if p0 = ff then (1 : Int32) else (0 : Int32))) + (if p1 = ff then (1 : Int32) else (0 : Int32))) + (if p2 = ff then (1 : Int32) else (0 : Int32)))), .val (.int (((if p0 = ff then (1 : Int32) else (0 : Int32)) + (if p1 = ff then (1 : Int32) else (0 : Int32))) + (if p2 = ff then (1 : Int32) else (0 : Int32)))), .val (.int (1 : Int32)), .unset, .unset] [(.ref b9)])
    refine own_go (fun t k => XS.iconst X20.here hx rfl (hb hby at_161) k) ?_
    show own_R p e below _ T20 (mkF m 162 #[.val (.int p0), .val (.int p1), .val (.int p2), .val (.int p3), .val (.int p4), .val (.int p5), .val (.int se), .val (.int ff), .val (.ref b9), .val (.int (3 : Int32)), .val (.int ((((3 : Int32) + (if p0 = ff then (1 : Int32) else (0 : Int32))) + (if p1 = ff then (1 : Int32) else (0 : Int32))) + (if p2 = ff then (1 : Int32) else (0 : Int32)))), .val (.int (((if p0 = ff then (1 : Int32) else (0 : Int32)) + (if p1 = ff then (1 : Int32) else (0 : Int32))) + (if p2 = ff then (1 : Int32) else (0 : Int32)))), .val (.int (1 : Int32)), .unset, .unset] [(.int (0 : Int32)), (.ref b9)])
    obtain ⟨cq29, kq29, q29a, q29b, q29c⟩ := isOf hZ e20 E16_a
    obtain ⟨_, _, ⟨T29, L29, k29, n29⟩, -, X29, ⟨Lc29, hQ29, l29, y29, z29⟩, st29⟩ := X20.virtualBack hx (y := (⟨"com/example/signetry/signetry/card/WordFrame", "local", "(I)I"⟩ : MethodName)) (z := (⟨"com/example/signetry/signetry/card/WordFrame", "local", "(I)I"⟩ : MethodName)) hown (mvT hZ (hw _ (List.mem_of_getElem? (i := 70) rfl))) (mvT hZ (hw _ (List.mem_of_getElem? (i := 71) rfl))) (notFace_of_selects (args := #[]) (mvT hZ (hw _ (List.mem_of_getElem? (i := 73) rfl)))) (mvT hZ (hw _ (List.mem_of_getElem? (i := 73) rfl))) (mvT hZ (hw _ (List.mem_of_getElem? (i := 72) rfl))) (by decide) (backOf (W := 0) (rmlocal_0 l Z a0 hw [] b9 b11 kb11 (if p0 = ff then p4 else p0) (if p1 = ff then p4 else p1) (if p2 = ff then p4 else p2) ((((3 : Int32) + (if p0 = ff then (1 : Int32) else (0 : Int32))) + (if p1 = ff then (1 : Int32) else (0 : Int32))) + (if p2 = ff then (1 : Int32) else (0 : Int32))) h16 n0 (Nat.le_trans Z0 Kh.1) F16_a_words F16_a_localCount F16_a_maxStack F16_a_top F16_a_thisUninitialized F16_a_localsVersion E16_a V16_w) hZ (hw _ (List.mem_of_getElem? (i := 74) rfl)) (hw _ (List.mem_of_getElem? (i := 2) rfl)) (by decide) (by decide)) q29a q29c (g := (mkF m 162 #[.val (.int p0), .val (.int p1), .val (.int p2), .val (.int p3), .val (.int p4), .val (.int p5), .val (.int se), .val (.int ff), .val (.ref b9), .val (.int (3 : Int32)), .val (.int ((((3 : Int32) + (if p0 = ff then (1 : Int32) else (0 : Int32))) + (if p1 = ff then (1 : Int32) else (0 : Int32))) + (if p2 = ff then (1 : Int32) else (0 : Int32)))), .val (.int (((if p0 = ff then (1 : Int32) else (0 : Int32)) + (if p1 = ff then (1 : Int32) else (0 : Int32))) + (if p2 = ff then (1 : Int32) else (0 : Int32)))), .val (.int (1 : Int32)), .unset, .unset] [(.int (0 : Int32)), (.ref b9)])) rfl (by rw [hml]; rfl) (Steps.refl _) (argsL := [(.int (0 : Int32))]) (rest := []) (lenOf pd_7 rfl) rfl (by show 2 * 0 + _ ≤ _; exact Nat.le_of_eq rfl) (hb hby at_162) (fun _ _ => ⟨rfl, e20, (by decide : 3 + 0 ≤ _), (by decide : 9 + 0 ≤ _)⟩)
    dsimp only [Pt.U, Pt.locs, Pt.cells, Pt.slots] at X29 l29 y29 z29 st29 hQ29
    subst l29 y29 z29
    obtain ⟨rfl, Nq29, e29⟩ := hQ29
    have N29 := Fr.app N20 Nq29
    refine own_go (fun t k => st29.trans k) ?_
    show own_R p e below _ T29 (mkF m 165 #[.val (.int p0), .val (.int p1), .val (.int p2), .val (.int p3), .val (.int p4), .val (.int p5), .val (.int se), .val (.int ff), .val (.ref b9), .val (.int (3 : Int32)), .val (.int ((((3 : Int32) + (if p0 = ff then (1 : Int32) else (0 : Int32))) + (if p1 = ff then (1 : Int32) else (0 : Int32))) + (if p2 = ff then (1 : Int32) else (0 : Int32)))), .val (.int (((if p0 = ff then (1 : Int32) else (0 : Int32)) + (if p1 = ff then (1 : Int32) else (0 : Int32))) + (if p2 = ff then (1 : Int32) else (0 : Int32)))), .val (.int (1 : Int32)), .unset, .unset] [(.int (if p0 = ff then p4 else p0))])
    refine own_go (fun t k => XS.iloadN X29.here hx rfl (hb hby at_165) rfl  k) ?_
    show own_R p e below _ T29 (mkF m 166 #[.val (.int p0), .val (.int p1), .val (.int p2), .val (.int p3), .val (.int p4), .val (.int p5), .val (.int se), .val (.int ff), .val (.ref b9), .val (.int (3 : Int32)), .val (.int ((((3 : Int32) + (if p0 = ff then (1 : Int32) else (0 : Int32))) + (if p1 = ff then (1 : Int32) else (0 : Int32))) + (if p2 = ff then (1 : Int32) else (0 : Int32)))), .val (.int (((if p0 = ff then (1 : Int32) else (0 : Int32)) + (if p1 = ff then (1 : Int32) else (0 : Int32))) + (if p2 = ff then (1 : Int32) else (0 : Int32)))), .val (.int (1 : Int32)), .unset, .unset] [(.int p0), (.int (if p0 = ff then p4 else p0))])
    refine own_go (fun t k => XS.iload X29.here hx rfl (hb hby at_166) rfl  k) ?_
    show own_R p e below _ T29 (mkF m 168 #[.val (.int p0), .val (.int p1), .val (.int p2), .val (.int p3), .val (.int p4), .val (.int p5), .val (.int se), .val (.int ff), .val (.ref b9), .val (.int (3 : Int32)), .val (.int ((((3 : Int32) + (if p0 = ff then (1 : Int32) else (0 : Int32))) + (if p1 = ff then (1 : Int32) else (0 : Int32))) + (if p2 = ff then (1 : Int32) else (0 : Int32)))), .val (.int (((if p0 = ff then (1 : Int32) else (0 : Int32)) + (if p1 = ff then (1 : Int32) else (0 : Int32))) + (if p2 = ff then (1 : Int32) else (0 : Int32)))), .val (.int (1 : Int32)), .unset, .unset] [(.int ff), (.int p0), (.int (if p0 = ff then p4 else p0))])
    refine own_go (fun t k => XS.iload X29.here hx rfl (hb hby at_168) rfl  k) ?_
    show own_R p e below _ T29 (mkF m 170 #[.val (.int p0), .val (.int p1), .val (.int p2), .val (.int p3), .val (.int p4), .val (.int p5), .val (.int se), .val (.int ff), .val (.ref b9), .val (.int (3 : Int32)), .val (.int ((((3 : Int32) + (if p0 = ff then (1 : Int32) else (0 : Int32))) + (if p1 = ff then (1 : Int32) else (0 : Int32))) + (if p2 = ff then (1 : Int32) else (0 : Int32)))), .val (.int (((if p0 = ff then (1 : Int32) else (0 : Int32)) + (if p1 = ff then (1 : Int32) else (0 : Int32))) + (if p2 = ff then (1 : Int32) else (0 : Int32)))), .val (.int (1 : Int32)), .unset, .unset] [(.int p4), (.int ff), (.int p0), (.int (if p0 = ff then p4 else p0))])
    obtain ⟨_, _, ⟨T30, L30, k30, n30⟩, -, X30, ⟨Lc30, hQ30, l30, y30, z30⟩, st30⟩ := Jvm.LawKit.callS X29 hx (y := (⟨"com/example/signetry/signetry/card/WordFrameReplaceAllPinLaw", "expect", "(III)I"⟩ : MethodName)) hown (mvT hZ (hw _ (List.mem_of_getElem? (i := 75) rfl))) (mvT hZ (hw _ (List.mem_of_getElem? (i := 76) rfl))) (mvT hZ (hw _ (List.mem_of_getElem? (i := 68) rfl))) (mvT hZ (hw _ (List.mem_of_getElem? (i := 77) rfl))) (by decide) (backOf (W := 1) (rm15 l Z a0 hw [] p0 ff p4 h16 n0 (Nat.le_trans Z0 Kh.1)) hZ (hw _ (List.mem_of_getElem? (i := 77) rfl)) (hw _ (List.mem_of_getElem? (i := 68) rfl)) (by decide) (by decide)) (g := (mkF m 170 #[.val (.int p0), .val (.int p1), .val (.int p2), .val (.int p3), .val (.int p4), .val (.int p5), .val (.int se), .val (.int ff), .val (.ref b9), .val (.int (3 : Int32)), .val (.int ((((3 : Int32) + (if p0 = ff then (1 : Int32) else (0 : Int32))) + (if p1 = ff then (1 : Int32) else (0 : Int32))) + (if p2 = ff then (1 : Int32) else (0 : Int32)))), .val (.int (((if p0 = ff then (1 : Int32) else (0 : Int32)) + (if p1 = ff then (1 : Int32) else (0 : Int32))) + (if p2 = ff then (1 : Int32) else (0 : Int32)))), .val (.int (1 : Int32)), .unset, .unset] [(.int p4), (.int ff), (.int p0), (.int (if p0 = ff then p4 else p0))])) rfl (by rw [hml]; rfl) (argsL := [(.int p0), (.int ff), (.int p4)]) (rest := [(.int (if p0 = ff then p4 else p0))]) (lenOf pd_8 rfl) rfl (by show 2 * 0 + _ ≤ _; exact Nat.le_of_eq rfl) (hb hby at_170) (fun _ _ => ⟨rfl, e29, (by decide : 3 + 0 ≤ _), (by decide : 9 + 0 ≤ _)⟩)
    dsimp only [Pt.U, Pt.locs, Pt.cells, Pt.slots] at X30 l30 y30 z30 st30 hQ30
    subst l30 y30 z30
    obtain ⟨rfl, Nq30, e30⟩ := hQ30
    have N30 := Fr.app N29 Nq30
    refine own_go (st30) ?_
    show own_R p e below _ T30 (mkF m 173 #[.val (.int p0), .val (.int p1), .val (.int p2), .val (.int p3), .val (.int p4), .val (.int p5), .val (.int se), .val (.int ff), .val (.ref b9), .val (.int (3 : Int32)), .val (.int ((((3 : Int32) + (if p0 = ff then (1 : Int32) else (0 : Int32))) + (if p1 = ff then (1 : Int32) else (0 : Int32))) + (if p2 = ff then (1 : Int32) else (0 : Int32)))), .val (.int (((if p0 = ff then (1 : Int32) else (0 : Int32)) + (if p1 = ff then (1 : Int32) else (0 : Int32))) + (if p2 = ff then (1 : Int32) else (0 : Int32)))), .val (.int (1 : Int32)), .unset, .unset] [(.int (if p0 = ff then p4 else p0)), (.int (if p0 = ff then p4 else p0))])
    refine own_go (fun t k => XS.icmpNo X30.here hx rfl (hb hby at_173) rfl (teq (rfl : (if p0 = ff then p4 else p0) = (if p0 = ff then p4 else p0))).2 k) ?_
    show own_R p e below _ T30 (mkF m 176 #[.val (.int p0), .val (.int p1), .val (.int p2), .val (.int p3), .val (.int p4), .val (.int p5), .val (.int se), .val (.int ff), .val (.ref b9), .val (.int (3 : Int32)), .val (.int ((((3 : Int32) + (if p0 = ff then (1 : Int32) else (0 : Int32))) + (if p1 = ff then (1 : Int32) else (0 : Int32))) + (if p2 = ff then (1 : Int32) else (0 : Int32)))), .val (.int (((if p0 = ff then (1 : Int32) else (0 : Int32)) + (if p1 = ff then (1 : Int32) else (0 : Int32))) + (if p2 = ff then (1 : Int32) else (0 : Int32)))), .val (.int (1 : Int32)), .unset, .unset] [])
    refine own_go (fun t k => XS.aload X30.here hx rfl (hb hby at_176) rfl rfl  k) ?_
    show own_R p e below _ T30 (mkF m 178 #[.val (.int p0), .val (.int p1), .val (.int p2), .val (.int p3), .val (.int p4), .val (.int p5), .val (.int se), .val (.int ff), .val (.ref b9), .val (.int (3 : Int32)), .val (.int ((((3 : Int32) + (if p0 = ff then (1 : Int32) else (0 : Int32))) + (if p1 = ff then (1 : Int32) else (0 : Int32))) + (if p2 = ff then (1 : Int32) else (0 : Int32)))), .val (.int (((if p0 = ff then (1 : Int32) else (0 : Int32)) + (if p1 = ff then (1 : Int32) else (0 : Int32))) + (if p2 = ff then (1 : Int32) else (0 : Int32)))), .val (.int (1 : Int32)), .unset, .unset] [(.ref b9)])
    refine own_go (fun t k => XS.iconst X30.here hx rfl (hb hby at_178) k) ?_
    show own_R p e below _ T30 (mkF m 179 #[.val (.int p0), .val (.int p1), .val (.int p2), .val (.int p3), .val (.int p4), .val (.int p5), .val (.int se), .val (.int ff), .val (.ref b9), .val (.int (3 : Int32)), .val (.int ((((3 : Int32) + (if p0 = ff then (1 : Int32) else (0 : Int32))) + (if p1 = ff then (1 : Int32) else (0 : Int32))) + (if p2 = ff then (1 : Int32) else (0 : Int32)))), .val (.int (((if p0 = ff then (1 : Int32) else (0 : Int32)) + (if p1 = ff then (1 : Int32) else (0 : Int32))) + (if p2 = ff then (1 : Int32) else (0 : Int32)))), .val (.int (1 : Int32)), .unset, .unset] [(.int (1 : Int32)), (.ref b9)])
    obtain ⟨cq31, kq31, q31a, q31b, q31c⟩ := isOf hZ e30 E16_a
    obtain ⟨_, _, ⟨T31, L31, k31, n31⟩, -, X31, ⟨Lc31, hQ31, l31, y31, z31⟩, st31⟩ := X30.virtualBack hx (y := (⟨"com/example/signetry/signetry/card/WordFrame", "local", "(I)I"⟩ : MethodName)) (z := (⟨"com/example/signetry/signetry/card/WordFrame", "local", "(I)I"⟩ : MethodName)) hown (mvT hZ (hw _ (List.mem_of_getElem? (i := 70) rfl))) (mvT hZ (hw _ (List.mem_of_getElem? (i := 71) rfl))) (notFace_of_selects (args := #[]) (mvT hZ (hw _ (List.mem_of_getElem? (i := 73) rfl)))) (mvT hZ (hw _ (List.mem_of_getElem? (i := 73) rfl))) (mvT hZ (hw _ (List.mem_of_getElem? (i := 72) rfl))) (by decide) (backOf (W := 0) (rmlocal_1 l Z a0 hw [] b9 b11 kb11 (if p0 = ff then p4 else p0) (if p1 = ff then p4 else p1) (if p2 = ff then p4 else p2) ((((3 : Int32) + (if p0 = ff then (1 : Int32) else (0 : Int32))) + (if p1 = ff then (1 : Int32) else (0 : Int32))) + (if p2 = ff then (1 : Int32) else (0 : Int32))) h16 n0 (Nat.le_trans Z0 Kh.1) F16_a_words F16_a_localCount F16_a_maxStack F16_a_top F16_a_thisUninitialized F16_a_localsVersion E16_a V16_w) hZ (hw _ (List.mem_of_getElem? (i := 74) rfl)) (hw _ (List.mem_of_getElem? (i := 2) rfl)) (by decide) (by decide)) q31a q31c (g := (mkF m 179 #[.val (.int p0), .val (.int p1), .val (.int p2), .val (.int p3), .val (.int p4), .val (.int p5), .val (.int se), .val (.int ff), .val (.ref b9), .val (.int (3 : Int32)), .val (.int ((((3 : Int32) + (if p0 = ff then (1 : Int32) else (0 : Int32))) + (if p1 = ff then (1 : Int32) else (0 : Int32))) + (if p2 = ff then (1 : Int32) else (0 : Int32)))), .val (.int (((if p0 = ff then (1 : Int32) else (0 : Int32)) + (if p1 = ff then (1 : Int32) else (0 : Int32))) + (if p2 = ff then (1 : Int32) else (0 : Int32)))), .val (.int (1 : Int32)), .unset, .unset] [(.int (1 : Int32)), (.ref b9)])) rfl (by rw [hml]; rfl) (Steps.refl _) (argsL := [(.int (1 : Int32))]) (rest := []) (lenOf pd_7 rfl) rfl (by show 2 * 0 + _ ≤ _; exact Nat.le_of_eq rfl) (hb hby at_179) (fun _ _ => ⟨rfl, e30, (by decide : 3 + 0 ≤ _), (by decide : 9 + 0 ≤ _)⟩)
    dsimp only [Pt.U, Pt.locs, Pt.cells, Pt.slots] at X31 l31 y31 z31 st31 hQ31
    subst l31 y31 z31
    obtain ⟨rfl, Nq31, e31⟩ := hQ31
    have N31 := Fr.app N30 Nq31
    refine own_go (fun t k => st31.trans k) ?_
    show own_R p e below _ T31 (mkF m 182 #[.val (.int p0), .val (.int p1), .val (.int p2), .val (.int p3), .val (.int p4), .val (.int p5), .val (.int se), .val (.int ff), .val (.ref b9), .val (.int (3 : Int32)), .val (.int ((((3 : Int32) + (if p0 = ff then (1 : Int32) else (0 : Int32))) + (if p1 = ff then (1 : Int32) else (0 : Int32))) + (if p2 = ff then (1 : Int32) else (0 : Int32)))), .val (.int (((if p0 = ff then (1 : Int32) else (0 : Int32)) + (if p1 = ff then (1 : Int32) else (0 : Int32))) + (if p2 = ff then (1 : Int32) else (0 : Int32)))), .val (.int (1 : Int32)), .unset, .unset] [(.int (if p1 = ff then p4 else p1))])
    refine own_go (fun t k => XS.iloadN X31.here hx rfl (hb hby at_182) rfl  k) ?_
    show own_R p e below _ T31 (mkF m 183 #[.val (.int p0), .val (.int p1), .val (.int p2), .val (.int p3), .val (.int p4), .val (.int p5), .val (.int se), .val (.int ff), .val (.ref b9), .val (.int (3 : Int32)), .val (.int ((((3 : Int32) + (if p0 = ff then (1 : Int32) else (0 : Int32))) + (if p1 = ff then (1 : Int32) else (0 : Int32))) + (if p2 = ff then (1 : Int32) else (0 : Int32)))), .val (.int (((if p0 = ff then (1 : Int32) else (0 : Int32)) + (if p1 = ff then (1 : Int32) else (0 : Int32))) + (if p2 = ff then (1 : Int32) else (0 : Int32)))), .val (.int (1 : Int32)), .unset, .unset] [(.int p1), (.int (if p1 = ff then p4 else p1))])
    refine own_go (fun t k => XS.iload X31.here hx rfl (hb hby at_183) rfl  k) ?_
    show own_R p e below _ T31 (mkF m 185 #[.val (.int p0), .val (.int p1), .val (.int p2), .val (.int p3), .val (.int p4), .val (.int p5), .val (.int se), .val (.int ff), .val (.ref b9), .val (.int (3 : Int32)), .val (.int ((((3 : Int32) + (if p0 = ff then (1 : Int32) else (0 : Int32))) + (if p1 = ff then (1 : Int32) else (0 : Int32))) + (if p2 = ff then (1 : Int32) else (0 : Int32)))), .val (.int (((if p0 = ff then (1 : Int32) else (0 : Int32)) + (if p1 = ff then (1 : Int32) else (0 : Int32))) + (if p2 = ff then (1 : Int32) else (0 : Int32)))), .val (.int (1 : Int32)), .unset, .unset] [(.int ff), (.int p1), (.int (if p1 = ff then p4 else p1))])
    refine own_go (fun t k => XS.iload X31.here hx rfl (hb hby at_185) rfl  k) ?_
    show own_R p e below _ T31 (mkF m 187 #[.val (.int p0), .val (.int p1), .val (.int p2), .val (.int p3), .val (.int p4), .val (.int p5), .val (.int se), .val (.int ff), .val (.ref b9), .val (.int (3 : Int32)), .val (.int ((((3 : Int32) + (if p0 = ff then (1 : Int32) else (0 : Int32))) + (if p1 = ff then (1 : Int32) else (0 : Int32))) + (if p2 = ff then (1 : Int32) else (0 : Int32)))), .val (.int (((if p0 = ff then (1 : Int32) else (0 : Int32)) + (if p1 = ff then (1 : Int32) else (0 : Int32))) + (if p2 = ff then (1 : Int32) else (0 : Int32)))), .val (.int (1 : Int32)), .unset, .unset] [(.int p4), (.int ff), (.int p1), (.int (if p1 = ff then p4 else p1))])
    obtain ⟨_, _, ⟨T32, L32, k32, n32⟩, -, X32, ⟨Lc32, hQ32, l32, y32, z32⟩, st32⟩ := Jvm.LawKit.callS X31 hx (y := (⟨"com/example/signetry/signetry/card/WordFrameReplaceAllPinLaw", "expect", "(III)I"⟩ : MethodName)) hown (mvT hZ (hw _ (List.mem_of_getElem? (i := 75) rfl))) (mvT hZ (hw _ (List.mem_of_getElem? (i := 76) rfl))) (mvT hZ (hw _ (List.mem_of_getElem? (i := 68) rfl))) (mvT hZ (hw _ (List.mem_of_getElem? (i := 77) rfl))) (by decide) (backOf (W := 1) (rm15 l Z a0 hw [] p1 ff p4 h16 n0 (Nat.le_trans Z0 Kh.1)) hZ (hw _ (List.mem_of_getElem? (i := 77) rfl)) (hw _ (List.mem_of_getElem? (i := 68) rfl)) (by decide) (by decide)) (g := (mkF m 187 #[.val (.int p0), .val (.int p1), .val (.int p2), .val (.int p3), .val (.int p4), .val (.int p5), .val (.int se), .val (.int ff), .val (.ref b9), .val (.int (3 : Int32)), .val (.int ((((3 : Int32) + (if p0 = ff then (1 : Int32) else (0 : Int32))) + (if p1 = ff then (1 : Int32) else (0 : Int32))) + (if p2 = ff then (1 : Int32) else (0 : Int32)))), .val (.int (((if p0 = ff then (1 : Int32) else (0 : Int32)) + (if p1 = ff then (1 : Int32) else (0 : Int32))) + (if p2 = ff then (1 : Int32) else (0 : Int32)))), .val (.int (1 : Int32)), .unset, .unset] [(.int p4), (.int ff), (.int p1), (.int (if p1 = ff then p4 else p1))])) rfl (by rw [hml]; rfl) (argsL := [(.int p1), (.int ff), (.int p4)]) (rest := [(.int (if p1 = ff then p4 else p1))]) (lenOf pd_8 rfl) rfl (by show 2 * 0 + _ ≤ _; exact Nat.le_of_eq rfl) (hb hby at_187) (fun _ _ => ⟨rfl, e31, (by decide : 3 + 0 ≤ _), (by decide : 9 + 0 ≤ _)⟩)
    dsimp only [Pt.U, Pt.locs, Pt.cells, Pt.slots] at X32 l32 y32 z32 st32 hQ32
    subst l32 y32 z32
    obtain ⟨rfl, Nq32, e32⟩ := hQ32
    have N32 := Fr.app N31 Nq32
    refine own_go (st32) ?_
    show own_R p e below _ T32 (mkF m 190 #[.val (.int p0), .val (.int p1), .val (.int p2), .val (.int p3), .val (.int p4), .val (.int p5), .val (.int se), .val (.int ff), .val (.ref b9), .val (.int (3 : Int32)), .val (.int ((((3 : Int32) + (if p0 = ff then (1 : Int32) else (0 : Int32))) + (if p1 = ff then (1 : Int32) else (0 : Int32))) + (if p2 = ff then (1 : Int32) else (0 : Int32)))), .val (.int (((if p0 = ff then (1 : Int32) else (0 : Int32)) + (if p1 = ff then (1 : Int32) else (0 : Int32))) + (if p2 = ff then (1 : Int32) else (0 : Int32)))), .val (.int (1 : Int32)), .unset, .unset] [(.int (if p1 = ff then p4 else p1)), (.int (if p1 = ff then p4 else p1))])
    refine own_go (fun t k => XS.icmpNo X32.here hx rfl (hb hby at_190) rfl (teq (rfl : (if p1 = ff then p4 else p1) = (if p1 = ff then p4 else p1))).2 k) ?_
    show own_R p e below _ T32 (mkF m 193 #[.val (.int p0), .val (.int p1), .val (.int p2), .val (.int p3), .val (.int p4), .val (.int p5), .val (.int se), .val (.int ff), .val (.ref b9), .val (.int (3 : Int32)), .val (.int ((((3 : Int32) + (if p0 = ff then (1 : Int32) else (0 : Int32))) + (if p1 = ff then (1 : Int32) else (0 : Int32))) + (if p2 = ff then (1 : Int32) else (0 : Int32)))), .val (.int (((if p0 = ff then (1 : Int32) else (0 : Int32)) + (if p1 = ff then (1 : Int32) else (0 : Int32))) + (if p2 = ff then (1 : Int32) else (0 : Int32)))), .val (.int (1 : Int32)), .unset, .unset] [])
    refine own_go (fun t k => XS.aload X32.here hx rfl (hb hby at_193) rfl rfl  k) ?_
    show own_R p e below _ T32 (mkF m 195 #[.val (.int p0), .val (.int p1), .val (.int p2), .val (.int p3), .val (.int p4), .val (.int p5), .val (.int se), .val (.int ff), .val (.ref b9), .val (.int (3 : Int32)), .val (.int ((((3 : Int32) + (if p0 = ff then (1 : Int32) else (0 : Int32))) + (if p1 = ff then (1 : Int32) else (0 : Int32))) + (if p2 = ff then (1 : Int32) else (0 : Int32)))), .val (.int (((if p0 = ff then (1 : Int32) else (0 : Int32)) + (if p1 = ff then (1 : Int32) else (0 : Int32))) + (if p2 = ff then (1 : Int32) else (0 : Int32)))), .val (.int (1 : Int32)), .unset, .unset] [(.ref b9)])
    refine own_go (fun t k => XS.iconst X32.here hx rfl (hb hby at_195) k) ?_
    show own_R p e below _ T32 (mkF m 196 #[.val (.int p0), .val (.int p1), .val (.int p2), .val (.int p3), .val (.int p4), .val (.int p5), .val (.int se), .val (.int ff), .val (.ref b9), .val (.int (3 : Int32)), .val (.int ((((3 : Int32) + (if p0 = ff then (1 : Int32) else (0 : Int32))) + (if p1 = ff then (1 : Int32) else (0 : Int32))) + (if p2 = ff then (1 : Int32) else (0 : Int32)))), .val (.int (((if p0 = ff then (1 : Int32) else (0 : Int32)) + (if p1 = ff then (1 : Int32) else (0 : Int32))) + (if p2 = ff then (1 : Int32) else (0 : Int32)))), .val (.int (1 : Int32)), .unset, .unset] [(.int (0 : Int32)), (.ref b9)])
    obtain ⟨cq33, kq33, q33a, q33b, q33c⟩ := isOf hZ e32 E16_a
    obtain ⟨_, _, ⟨T33, L33, k33, n33⟩, -, X33, ⟨Lc33, hQ33, l33, y33, z33⟩, st33⟩ := X32.virtualBack hx (y := (⟨"com/example/signetry/signetry/card/WordFrame", "peek", "(I)I"⟩ : MethodName)) (z := (⟨"com/example/signetry/signetry/card/WordFrame", "peek", "(I)I"⟩ : MethodName)) hown (mvT hZ (hw _ (List.mem_of_getElem? (i := 78) rfl))) (mvT hZ (hw _ (List.mem_of_getElem? (i := 79) rfl))) (notFace_of_selects (args := #[]) (mvT hZ (hw _ (List.mem_of_getElem? (i := 81) rfl)))) (mvT hZ (hw _ (List.mem_of_getElem? (i := 81) rfl))) (mvT hZ (hw _ (List.mem_of_getElem? (i := 80) rfl))) (by decide) (backOf (W := 0) (rmpeek_0 l Z a0 hw [] b9 b11 kb11 (if p0 = ff then p4 else p0) (if p1 = ff then p4 else p1) (if p2 = ff then p4 else p2) ((((3 : Int32) + (if p0 = ff then (1 : Int32) else (0 : Int32))) + (if p1 = ff then (1 : Int32) else (0 : Int32))) + (if p2 = ff then (1 : Int32) else (0 : Int32))) h16 n0 (Nat.le_trans Z0 Kh.1) F16_a_words F16_a_localCount F16_a_maxStack F16_a_top F16_a_thisUninitialized F16_a_localsVersion E16_a V16_w) hZ (hw _ (List.mem_of_getElem? (i := 82) rfl)) (hw _ (List.mem_of_getElem? (i := 2) rfl)) (by decide) (by decide)) q33a q33c (g := (mkF m 196 #[.val (.int p0), .val (.int p1), .val (.int p2), .val (.int p3), .val (.int p4), .val (.int p5), .val (.int se), .val (.int ff), .val (.ref b9), .val (.int (3 : Int32)), .val (.int ((((3 : Int32) + (if p0 = ff then (1 : Int32) else (0 : Int32))) + (if p1 = ff then (1 : Int32) else (0 : Int32))) + (if p2 = ff then (1 : Int32) else (0 : Int32)))), .val (.int (((if p0 = ff then (1 : Int32) else (0 : Int32)) + (if p1 = ff then (1 : Int32) else (0 : Int32))) + (if p2 = ff then (1 : Int32) else (0 : Int32)))), .val (.int (1 : Int32)), .unset, .unset] [(.int (0 : Int32)), (.ref b9)])) rfl (by rw [hml]; rfl) (Steps.refl _) (argsL := [(.int (0 : Int32))]) (rest := []) (lenOf pd_7 rfl) rfl (by show 2 * 0 + _ ≤ _; exact Nat.le_of_eq rfl) (hb hby at_196) (fun _ _ => ⟨rfl, e32, (by decide : 3 + 0 ≤ _), (by decide : 9 + 0 ≤ _)⟩)
    dsimp only [Pt.U, Pt.locs, Pt.cells, Pt.slots] at X33 l33 y33 z33 st33 hQ33
    subst l33 y33 z33
    obtain ⟨rfl, Nq33, e33⟩ := hQ33
    have N33 := Fr.app N32 Nq33
    refine own_go (fun t k => st33.trans k) ?_
    show own_R p e below _ T33 (mkF m 199 #[.val (.int p0), .val (.int p1), .val (.int p2), .val (.int p3), .val (.int p4), .val (.int p5), .val (.int se), .val (.int ff), .val (.ref b9), .val (.int (3 : Int32)), .val (.int ((((3 : Int32) + (if p0 = ff then (1 : Int32) else (0 : Int32))) + (if p1 = ff then (1 : Int32) else (0 : Int32))) + (if p2 = ff then (1 : Int32) else (0 : Int32)))), .val (.int (((if p0 = ff then (1 : Int32) else (0 : Int32)) + (if p1 = ff then (1 : Int32) else (0 : Int32))) + (if p2 = ff then (1 : Int32) else (0 : Int32)))), .val (.int (1 : Int32)), .unset, .unset] [(.int (if p2 = ff then p4 else p2))])
    refine own_go (fun t k => XS.iloadN X33.here hx rfl (hb hby at_199) rfl  k) ?_
    show own_R p e below _ T33 (mkF m 200 #[.val (.int p0), .val (.int p1), .val (.int p2), .val (.int p3), .val (.int p4), .val (.int p5), .val (.int se), .val (.int ff), .val (.ref b9), .val (.int (3 : Int32)), .val (.int ((((3 : Int32) + (if p0 = ff then (1 : Int32) else (0 : Int32))) + (if p1 = ff then (1 : Int32) else (0 : Int32))) + (if p2 = ff then (1 : Int32) else (0 : Int32)))), .val (.int (((if p0 = ff then (1 : Int32) else (0 : Int32)) + (if p1 = ff then (1 : Int32) else (0 : Int32))) + (if p2 = ff then (1 : Int32) else (0 : Int32)))), .val (.int (1 : Int32)), .unset, .unset] [(.int p2), (.int (if p2 = ff then p4 else p2))])
    refine own_go (fun t k => XS.iload X33.here hx rfl (hb hby at_200) rfl  k) ?_
    show own_R p e below _ T33 (mkF m 202 #[.val (.int p0), .val (.int p1), .val (.int p2), .val (.int p3), .val (.int p4), .val (.int p5), .val (.int se), .val (.int ff), .val (.ref b9), .val (.int (3 : Int32)), .val (.int ((((3 : Int32) + (if p0 = ff then (1 : Int32) else (0 : Int32))) + (if p1 = ff then (1 : Int32) else (0 : Int32))) + (if p2 = ff then (1 : Int32) else (0 : Int32)))), .val (.int (((if p0 = ff then (1 : Int32) else (0 : Int32)) + (if p1 = ff then (1 : Int32) else (0 : Int32))) + (if p2 = ff then (1 : Int32) else (0 : Int32)))), .val (.int (1 : Int32)), .unset, .unset] [(.int ff), (.int p2), (.int (if p2 = ff then p4 else p2))])
    refine own_go (fun t k => XS.iload X33.here hx rfl (hb hby at_202) rfl  k) ?_
    show own_R p e below _ T33 (mkF m 204 #[.val (.int p0), .val (.int p1), .val (.int p2), .val (.int p3), .val (.int p4), .val (.int p5), .val (.int se), .val (.int ff), .val (.ref b9), .val (.int (3 : Int32)), .val (.int ((((3 : Int32) + (if p0 = ff then (1 : Int32) else (0 : Int32))) + (if p1 = ff then (1 : Int32) else (0 : Int32))) + (if p2 = ff then (1 : Int32) else (0 : Int32)))), .val (.int (((if p0 = ff then (1 : Int32) else (0 : Int32)) + (if p1 = ff then (1 : Int32) else (0 : Int32))) + (if p2 = ff then (1 : Int32) else (0 : Int32)))), .val (.int (1 : Int32)), .unset, .unset] [(.int p4), (.int ff), (.int p2), (.int (if p2 = ff then p4 else p2))])
    obtain ⟨_, _, ⟨T34, L34, k34, n34⟩, -, X34, ⟨Lc34, hQ34, l34, y34, z34⟩, st34⟩ := Jvm.LawKit.callS X33 hx (y := (⟨"com/example/signetry/signetry/card/WordFrameReplaceAllPinLaw", "expect", "(III)I"⟩ : MethodName)) hown (mvT hZ (hw _ (List.mem_of_getElem? (i := 75) rfl))) (mvT hZ (hw _ (List.mem_of_getElem? (i := 76) rfl))) (mvT hZ (hw _ (List.mem_of_getElem? (i := 68) rfl))) (mvT hZ (hw _ (List.mem_of_getElem? (i := 77) rfl))) (by decide) (backOf (W := 1) (rm15 l Z a0 hw [] p2 ff p4 h16 n0 (Nat.le_trans Z0 Kh.1)) hZ (hw _ (List.mem_of_getElem? (i := 77) rfl)) (hw _ (List.mem_of_getElem? (i := 68) rfl)) (by decide) (by decide)) (g := (mkF m 204 #[.val (.int p0), .val (.int p1), .val (.int p2), .val (.int p3), .val (.int p4), .val (.int p5), .val (.int se), .val (.int ff), .val (.ref b9), .val (.int (3 : Int32)), .val (.int ((((3 : Int32) + (if p0 = ff then (1 : Int32) else (0 : Int32))) + (if p1 = ff then (1 : Int32) else (0 : Int32))) + (if p2 = ff then (1 : Int32) else (0 : Int32)))), .val (.int (((if p0 = ff then (1 : Int32) else (0 : Int32)) + (if p1 = ff then (1 : Int32) else (0 : Int32))) + (if p2 = ff then (1 : Int32) else (0 : Int32)))), .val (.int (1 : Int32)), .unset, .unset] [(.int p4), (.int ff), (.int p2), (.int (if p2 = ff then p4 else p2))])) rfl (by rw [hml]; rfl) (argsL := [(.int p2), (.int ff), (.int p4)]) (rest := [(.int (if p2 = ff then p4 else p2))]) (lenOf pd_8 rfl) rfl (by show 2 * 0 + _ ≤ _; exact Nat.le_of_eq rfl) (hb hby at_204) (fun _ _ => ⟨rfl, e33, (by decide : 3 + 0 ≤ _), (by decide : 9 + 0 ≤ _)⟩)
    dsimp only [Pt.U, Pt.locs, Pt.cells, Pt.slots] at X34 l34 y34 z34 st34 hQ34
    subst l34 y34 z34
    obtain ⟨rfl, Nq34, e34⟩ := hQ34
    have N34 := Fr.app N33 Nq34
    refine own_go (st34) ?_
    show own_R p e below _ T34 (mkF m 207 #[.val (.int p0), .val (.int p1), .val (.int p2), .val (.int p3), .val (.int p4), .val (.int p5), .val (.int se), .val (.int ff), .val (.ref b9), .val (.int (3 : Int32)), .val (.int ((((3 : Int32) + (if p0 = ff then (1 : Int32) else (0 : Int32))) + (if p1 = ff then (1 : Int32) else (0 : Int32))) + (if p2 = ff then (1 : Int32) else (0 : Int32)))), .val (.int (((if p0 = ff then (1 : Int32) else (0 : Int32)) + (if p1 = ff then (1 : Int32) else (0 : Int32))) + (if p2 = ff then (1 : Int32) else (0 : Int32)))), .val (.int (1 : Int32)), .unset, .unset] [(.int (if p2 = ff then p4 else p2)), (.int (if p2 = ff then p4 else p2))])
    refine own_go (fun t k => XS.icmpNo X34.here hx rfl (hb hby at_207) rfl (teq (rfl : (if p2 = ff then p4 else p2) = (if p2 = ff then p4 else p2))).2 k) ?_
    show own_R p e below _ T34 (mkF m 210 #[.val (.int p0), .val (.int p1), .val (.int p2), .val (.int p3), .val (.int p4), .val (.int p5), .val (.int se), .val (.int ff), .val (.ref b9), .val (.int (3 : Int32)), .val (.int ((((3 : Int32) + (if p0 = ff then (1 : Int32) else (0 : Int32))) + (if p1 = ff then (1 : Int32) else (0 : Int32))) + (if p2 = ff then (1 : Int32) else (0 : Int32)))), .val (.int (((if p0 = ff then (1 : Int32) else (0 : Int32)) + (if p1 = ff then (1 : Int32) else (0 : Int32))) + (if p2 = ff then (1 : Int32) else (0 : Int32)))), .val (.int (1 : Int32)), .unset, .unset] [])
    refine own_go (fun t k => XS.iconst X34.here hx rfl (hb hby at_210) k) ?_
    show own_R p e below _ T34 (mkF m 211 #[.val (.int p0), .val (.int p1), .val (.int p2), .val (.int p3), .val (.int p4), .val (.int p5), .val (.int se), .val (.int ff), .val (.ref b9), .val (.int (3 : Int32)), .val (.int ((((3 : Int32) + (if p0 = ff then (1 : Int32) else (0 : Int32))) + (if p1 = ff then (1 : Int32) else (0 : Int32))) + (if p2 = ff then (1 : Int32) else (0 : Int32)))), .val (.int (((if p0 = ff then (1 : Int32) else (0 : Int32)) + (if p1 = ff then (1 : Int32) else (0 : Int32))) + (if p2 = ff then (1 : Int32) else (0 : Int32)))), .val (.int (1 : Int32)), .unset, .unset] [(.int (1 : Int32))])
    refine own_go (fun t k => XS.goto X34.here hx rfl (pc0 := 211) (pc' := 215) rfl (hb hby at_211) (by decide) (by decide) k) ?_
    show own_R p e below _ T34 (mkF m 215 #[.val (.int p0), .val (.int p1), .val (.int p2), .val (.int p3), .val (.int p4), .val (.int p5), .val (.int se), .val (.int ff), .val (.ref b9), .val (.int (3 : Int32)), .val (.int ((((3 : Int32) + (if p0 = ff then (1 : Int32) else (0 : Int32))) + (if p1 = ff then (1 : Int32) else (0 : Int32))) + (if p2 = ff then (1 : Int32) else (0 : Int32)))), .val (.int (((if p0 = ff then (1 : Int32) else (0 : Int32)) + (if p1 = ff then (1 : Int32) else (0 : Int32))) + (if p2 = ff then (1 : Int32) else (0 : Int32)))), .val (.int (1 : Int32)), .unset, .unset] [(.int (1 : Int32))])
    refine own_go (fun t k => XS.istore X34.here hx rfl (hb hby at_215) rfl (l' := #[.val (.int p0), .val (.int p1), .val (.int p2), .val (.int p3), .val (.int p4), .val (.int p5), .val (.int se), .val (.int ff), .val (.ref b9), .val (.int (3 : Int32)), .val (.int ((((3 : Int32) + (if p0 = ff then (1 : Int32) else (0 : Int32))) + (if p1 = ff then (1 : Int32) else (0 : Int32))) + (if p2 = ff then (1 : Int32) else (0 : Int32)))), .val (.int (((if p0 = ff then (1 : Int32) else (0 : Int32)) + (if p1 = ff then (1 : Int32) else (0 : Int32))) + (if p2 = ff then (1 : Int32) else (0 : Int32)))), .val (.int (1 : Int32)), .val (.int (1 : Int32)), .unset]) rfl k) ?_
    show own_R p e below _ T34 (mkF m 217 #[.val (.int p0), .val (.int p1), .val (.int p2), .val (.int p3), .val (.int p4), .val (.int p5), .val (.int se), .val (.int ff), .val (.ref b9), .val (.int (3 : Int32)), .val (.int ((((3 : Int32) + (if p0 = ff then (1 : Int32) else (0 : Int32))) + (if p1 = ff then (1 : Int32) else (0 : Int32))) + (if p2 = ff then (1 : Int32) else (0 : Int32)))), .val (.int (((if p0 = ff then (1 : Int32) else (0 : Int32)) + (if p1 = ff then (1 : Int32) else (0 : Int32))) + (if p2 = ff then (1 : Int32) else (0 : Int32)))), .val (.int (1 : Int32)), .val (.int (1 : Int32)), .unset] [])
    refine own_go (fun t k => XS.aload X34.here hx rfl (hb hby at_217) rfl rfl  k) ?_
    show own_R p e below _ T34 (mkF m 219 #[.val (.int p0), .val (.int p1), .val (.int p2), .val (.int p3), .val (.int p4), .val (.int p5), .val (.int se), .val (.int ff), .val (.ref b9), .val (.int (3 : Int32)), .val (.int ((((3 : Int32) + (if p0 = ff then (1 : Int32) else (0 : Int32))) + (if p1 = ff then (1 : Int32) else (0 : Int32))) + (if p2 = ff then (1 : Int32) else (0 : Int32)))), .val (.int (((if p0 = ff then (1 : Int32) else (0 : Int32)) + (if p1 = ff then (1 : Int32) else (0 : Int32))) + (if p2 = ff then (1 : Int32) else (0 : Int32)))), .val (.int (1 : Int32)), .val (.int (1 : Int32)), .unset] [(.ref b9)])
    obtain ⟨cq35, kq35, q35a, q35b, q35c⟩ := isOf hZ e34 E16_a
    obtain ⟨_, _, ⟨T35, L35, k35, n35⟩, -, X35, ⟨Lc35, hQ35, l35, y35, z35⟩, st35⟩ := X34.virtualBack hx (y := (⟨"com/example/signetry/signetry/card/WordFrame", "stackSize", "()I"⟩ : MethodName)) (z := (⟨"com/example/signetry/signetry/card/WordFrame", "stackSize", "()I"⟩ : MethodName)) hown (mvT hZ (hw _ (List.mem_of_getElem? (i := 87) rfl))) (mvT hZ (hw _ (List.mem_of_getElem? (i := 88) rfl))) (notFace_of_selects (args := #[]) (mvT hZ (hw _ (List.mem_of_getElem? (i := 90) rfl)))) (mvT hZ (hw _ (List.mem_of_getElem? (i := 90) rfl))) (mvT hZ (hw _ (List.mem_of_getElem? (i := 89) rfl))) (by decide) (backOf (W := 0) (rmssize l Z a0 hw [] b9 b11 kb11 (if p0 = ff then p4 else p0) (if p1 = ff then p4 else p1) (if p2 = ff then p4 else p2) ((((3 : Int32) + (if p0 = ff then (1 : Int32) else (0 : Int32))) + (if p1 = ff then (1 : Int32) else (0 : Int32))) + (if p2 = ff then (1 : Int32) else (0 : Int32))) h16 n0 (Nat.le_trans Z0 Kh.1) F16_a_words F16_a_localCount F16_a_maxStack F16_a_top F16_a_thisUninitialized F16_a_localsVersion E16_a V16_w) hZ (hw _ (List.mem_of_getElem? (i := 91) rfl)) (hw _ (List.mem_of_getElem? (i := 2) rfl)) (by decide) (by decide)) q35a q35c (g := (mkF m 219 #[.val (.int p0), .val (.int p1), .val (.int p2), .val (.int p3), .val (.int p4), .val (.int p5), .val (.int se), .val (.int ff), .val (.ref b9), .val (.int (3 : Int32)), .val (.int ((((3 : Int32) + (if p0 = ff then (1 : Int32) else (0 : Int32))) + (if p1 = ff then (1 : Int32) else (0 : Int32))) + (if p2 = ff then (1 : Int32) else (0 : Int32)))), .val (.int (((if p0 = ff then (1 : Int32) else (0 : Int32)) + (if p1 = ff then (1 : Int32) else (0 : Int32))) + (if p2 = ff then (1 : Int32) else (0 : Int32)))), .val (.int (1 : Int32)), .val (.int (1 : Int32)), .unset] [(.ref b9)])) rfl (by rw [hml]; rfl) (Steps.refl _) (argsL := []) (rest := []) (lenOf pd_5 rfl) rfl (by show 2 * 0 + _ ≤ _; exact Nat.le_of_eq rfl) (hb hby at_219) (fun _ _ => ⟨rfl, e34, (by decide : 3 + 0 ≤ _), (by decide : 9 + 0 ≤ _)⟩)
    dsimp only [Pt.U, Pt.locs, Pt.cells, Pt.slots] at X35 l35 y35 z35 st35 hQ35
    subst l35 y35 z35
    obtain ⟨rfl, Nq35, e35⟩ := hQ35
    have N35 := Fr.app N34 Nq35
    refine own_go (fun t k => st35.trans k) ?_
    show own_R p e below _ T35 (mkF m 222 #[.val (.int p0), .val (.int p1), .val (.int p2), .val (.int p3), .val (.int p4), .val (.int p5), .val (.int se), .val (.int ff), .val (.ref b9), .val (.int (3 : Int32)), .val (.int ((((3 : Int32) + (if p0 = ff then (1 : Int32) else (0 : Int32))) + (if p1 = ff then (1 : Int32) else (0 : Int32))) + (if p2 = ff then (1 : Int32) else (0 : Int32)))), .val (.int (((if p0 = ff then (1 : Int32) else (0 : Int32)) + (if p1 = ff then (1 : Int32) else (0 : Int32))) + (if p2 = ff then (1 : Int32) else (0 : Int32)))), .val (.int (1 : Int32)), .val (.int (1 : Int32)), .unset] [(.int (1 : Int32))])
    refine own_go (fun t k => XS.iconst X35.here hx rfl (hb hby at_222) k) ?_
    show own_R p e below _ T35 (mkF m 223 #[.val (.int p0), .val (.int p1), .val (.int p2), .val (.int p3), .val (.int p4), .val (.int p5), .val (.int se), .val (.int ff), .val (.ref b9), .val (.int (3 : Int32)), .val (.int ((((3 : Int32) + (if p0 = ff then (1 : Int32) else (0 : Int32))) + (if p1 = ff then (1 : Int32) else (0 : Int32))) + (if p2 = ff then (1 : Int32) else (0 : Int32)))), .val (.int (((if p0 = ff then (1 : Int32) else (0 : Int32)) + (if p1 = ff then (1 : Int32) else (0 : Int32))) + (if p2 = ff then (1 : Int32) else (0 : Int32)))), .val (.int (1 : Int32)), .val (.int (1 : Int32)), .unset] [(.int (1 : Int32)), (.int (1 : Int32))])
    refine own_go (fun t k => XS.icmpNo X35.here hx rfl (hb hby at_223) rfl (teq (by decide : (1 : Int32) = (1 : Int32))).2 k) ?_
    show own_R p e below _ T35 (mkF m 226 #[.val (.int p0), .val (.int p1), .val (.int p2), .val (.int p3), .val (.int p4), .val (.int p5), .val (.int se), .val (.int ff), .val (.ref b9), .val (.int (3 : Int32)), .val (.int ((((3 : Int32) + (if p0 = ff then (1 : Int32) else (0 : Int32))) + (if p1 = ff then (1 : Int32) else (0 : Int32))) + (if p2 = ff then (1 : Int32) else (0 : Int32)))), .val (.int (((if p0 = ff then (1 : Int32) else (0 : Int32)) + (if p1 = ff then (1 : Int32) else (0 : Int32))) + (if p2 = ff then (1 : Int32) else (0 : Int32)))), .val (.int (1 : Int32)), .val (.int (1 : Int32)), .unset] [])
    refine own_go (fun t k => XS.iconst X35.here hx rfl (hb hby at_226) k) ?_
    show own_R p e below _ T35 (mkF m 227 #[.val (.int p0), .val (.int p1), .val (.int p2), .val (.int p3), .val (.int p4), .val (.int p5), .val (.int se), .val (.int ff), .val (.ref b9), .val (.int (3 : Int32)), .val (.int ((((3 : Int32) + (if p0 = ff then (1 : Int32) else (0 : Int32))) + (if p1 = ff then (1 : Int32) else (0 : Int32))) + (if p2 = ff then (1 : Int32) else (0 : Int32)))), .val (.int (((if p0 = ff then (1 : Int32) else (0 : Int32)) + (if p1 = ff then (1 : Int32) else (0 : Int32))) + (if p2 = ff then (1 : Int32) else (0 : Int32)))), .val (.int (1 : Int32)), .val (.int (1 : Int32)), .unset] [(.int (1 : Int32))])
    refine own_go (fun t k => XS.goto X35.here hx rfl (pc0 := 227) (pc' := 231) rfl (hb hby at_227) (by decide) (by decide) k) ?_
    show own_R p e below _ T35 (mkF m 231 #[.val (.int p0), .val (.int p1), .val (.int p2), .val (.int p3), .val (.int p4), .val (.int p5), .val (.int se), .val (.int ff), .val (.ref b9), .val (.int (3 : Int32)), .val (.int ((((3 : Int32) + (if p0 = ff then (1 : Int32) else (0 : Int32))) + (if p1 = ff then (1 : Int32) else (0 : Int32))) + (if p2 = ff then (1 : Int32) else (0 : Int32)))), .val (.int (((if p0 = ff then (1 : Int32) else (0 : Int32)) + (if p1 = ff then (1 : Int32) else (0 : Int32))) + (if p2 = ff then (1 : Int32) else (0 : Int32)))), .val (.int (1 : Int32)), .val (.int (1 : Int32)), .unset] [(.int (1 : Int32))])
    refine own_go (fun t k => XS.istore X35.here hx rfl (hb hby at_231) rfl (l' := #[.val (.int p0), .val (.int p1), .val (.int p2), .val (.int p3), .val (.int p4), .val (.int p5), .val (.int se), .val (.int ff), .val (.ref b9), .val (.int (3 : Int32)), .val (.int ((((3 : Int32) + (if p0 = ff then (1 : Int32) else (0 : Int32))) + (if p1 = ff then (1 : Int32) else (0 : Int32))) + (if p2 = ff then (1 : Int32) else (0 : Int32)))), .val (.int (((if p0 = ff then (1 : Int32) else (0 : Int32)) + (if p1 = ff then (1 : Int32) else (0 : Int32))) + (if p2 = ff then (1 : Int32) else (0 : Int32)))), .val (.int (1 : Int32)), .val (.int (1 : Int32)), .val (.int (1 : Int32))]) rfl k) ?_
    show own_R p e below _ T35 (mkF m 233 #[.val (.int p0), .val (.int p1), .val (.int p2), .val (.int p3), .val (.int p4), .val (.int p5), .val (.int se), .val (.int ff), .val (.ref b9), .val (.int (3 : Int32)), .val (.int ((((3 : Int32) + (if p0 = ff then (1 : Int32) else (0 : Int32))) + (if p1 = ff then (1 : Int32) else (0 : Int32))) + (if p2 = ff then (1 : Int32) else (0 : Int32)))), .val (.int (((if p0 = ff then (1 : Int32) else (0 : Int32)) + (if p1 = ff then (1 : Int32) else (0 : Int32))) + (if p2 = ff then (1 : Int32) else (0 : Int32)))), .val (.int (1 : Int32)), .val (.int (1 : Int32)), .val (.int (1 : Int32))] [])
    refine own_go (fun t k => XS.iload X35.here hx rfl (hb hby at_233) rfl  k) ?_
    show own_R p e below _ T35 (mkF m 235 #[.val (.int p0), .val (.int p1), .val (.int p2), .val (.int p3), .val (.int p4), .val (.int p5), .val (.int se), .val (.int ff), .val (.ref b9), .val (.int (3 : Int32)), .val (.int ((((3 : Int32) + (if p0 = ff then (1 : Int32) else (0 : Int32))) + (if p1 = ff then (1 : Int32) else (0 : Int32))) + (if p2 = ff then (1 : Int32) else (0 : Int32)))), .val (.int (((if p0 = ff then (1 : Int32) else (0 : Int32)) + (if p1 = ff then (1 : Int32) else (0 : Int32))) + (if p2 = ff then (1 : Int32) else (0 : Int32)))), .val (.int (1 : Int32)), .val (.int (1 : Int32)), .val (.int (1 : Int32))] [(.int (1 : Int32))])
    refine own_go (fun t k => XS.ifNo X35.here hx rfl (hb hby at_235) rfl ((if0 _ _).trans (feq (by decide : ¬ ((1 : Int32) = (0 : Int32)))).1) k) ?_
    show own_R p e below _ T35 (mkF m 238 #[.val (.int p0), .val (.int p1), .val (.int p2), .val (.int p3), .val (.int p4), .val (.int p5), .val (.int se), .val (.int ff), .val (.ref b9), .val (.int (3 : Int32)), .val (.int ((((3 : Int32) + (if p0 = ff then (1 : Int32) else (0 : Int32))) + (if p1 = ff then (1 : Int32) else (0 : Int32))) + (if p2 = ff then (1 : Int32) else (0 : Int32)))), .val (.int (((if p0 = ff then (1 : Int32) else (0 : Int32)) + (if p1 = ff then (1 : Int32) else (0 : Int32))) + (if p2 = ff then (1 : Int32) else (0 : Int32)))), .val (.int (1 : Int32)), .val (.int (1 : Int32)), .val (.int (1 : Int32))] [])
    refine own_go (fun t k => XS.iload X35.here hx rfl (hb hby at_238) rfl  k) ?_
    show own_R p e below _ T35 (mkF m 240 #[.val (.int p0), .val (.int p1), .val (.int p2), .val (.int p3), .val (.int p4), .val (.int p5), .val (.int se), .val (.int ff), .val (.ref b9), .val (.int (3 : Int32)), .val (.int ((((3 : Int32) + (if p0 = ff then (1 : Int32) else (0 : Int32))) + (if p1 = ff then (1 : Int32) else (0 : Int32))) + (if p2 = ff then (1 : Int32) else (0 : Int32)))), .val (.int (((if p0 = ff then (1 : Int32) else (0 : Int32)) + (if p1 = ff then (1 : Int32) else (0 : Int32))) + (if p2 = ff then (1 : Int32) else (0 : Int32)))), .val (.int (1 : Int32)), .val (.int (1 : Int32)), .val (.int (1 : Int32))] [(.int (1 : Int32))])
    refine own_go (fun t k => XS.ifNo X35.here hx rfl (hb hby at_240) rfl ((if0 _ _).trans (feq (by decide : ¬ ((1 : Int32) = (0 : Int32)))).1) k) ?_
    show own_R p e below _ T35 (mkF m 243 #[.val (.int p0), .val (.int p1), .val (.int p2), .val (.int p3), .val (.int p4), .val (.int p5), .val (.int se), .val (.int ff), .val (.ref b9), .val (.int (3 : Int32)), .val (.int ((((3 : Int32) + (if p0 = ff then (1 : Int32) else (0 : Int32))) + (if p1 = ff then (1 : Int32) else (0 : Int32))) + (if p2 = ff then (1 : Int32) else (0 : Int32)))), .val (.int (((if p0 = ff then (1 : Int32) else (0 : Int32)) + (if p1 = ff then (1 : Int32) else (0 : Int32))) + (if p2 = ff then (1 : Int32) else (0 : Int32)))), .val (.int (1 : Int32)), .val (.int (1 : Int32)), .val (.int (1 : Int32))] [])
    refine own_go (fun t k => XS.iload X35.here hx rfl (hb hby at_243) rfl  k) ?_
    show own_R p e below _ T35 (mkF m 245 #[.val (.int p0), .val (.int p1), .val (.int p2), .val (.int p3), .val (.int p4), .val (.int p5), .val (.int se), .val (.int ff), .val (.ref b9), .val (.int (3 : Int32)), .val (.int ((((3 : Int32) + (if p0 = ff then (1 : Int32) else (0 : Int32))) + (if p1 = ff then (1 : Int32) else (0 : Int32))) + (if p2 = ff then (1 : Int32) else (0 : Int32)))), .val (.int (((if p0 = ff then (1 : Int32) else (0 : Int32)) + (if p1 = ff then (1 : Int32) else (0 : Int32))) + (if p2 = ff then (1 : Int32) else (0 : Int32)))), .val (.int (1 : Int32)), .val (.int (1 : Int32)), .val (.int (1 : Int32))] [(.int (1 : Int32))])
    refine own_go (fun t k => XS.ifNo X35.here hx rfl (hb hby at_245) rfl ((if0 _ _).trans (feq (by decide : ¬ ((1 : Int32) = (0 : Int32)))).1) k) ?_
    show own_R p e below _ T35 (mkF m 248 #[.val (.int p0), .val (.int p1), .val (.int p2), .val (.int p3), .val (.int p4), .val (.int p5), .val (.int se), .val (.int ff), .val (.ref b9), .val (.int (3 : Int32)), .val (.int ((((3 : Int32) + (if p0 = ff then (1 : Int32) else (0 : Int32))) + (if p1 = ff then (1 : Int32) else (0 : Int32))) + (if p2 = ff then (1 : Int32) else (0 : Int32)))), .val (.int (((if p0 = ff then (1 : Int32) else (0 : Int32)) + (if p1 = ff then (1 : Int32) else (0 : Int32))) + (if p2 = ff then (1 : Int32) else (0 : Int32)))), .val (.int (1 : Int32)), .val (.int (1 : Int32)), .val (.int (1 : Int32))] [])
    refine own_go (fun t k => XS.iconst X35.here hx rfl (hb hby at_248) k) ?_
    show own_R p e below _ T35 (mkF m 249 #[.val (.int p0), .val (.int p1), .val (.int p2), .val (.int p3), .val (.int p4), .val (.int p5), .val (.int se), .val (.int ff), .val (.ref b9), .val (.int (3 : Int32)), .val (.int ((((3 : Int32) + (if p0 = ff then (1 : Int32) else (0 : Int32))) + (if p1 = ff then (1 : Int32) else (0 : Int32))) + (if p2 = ff then (1 : Int32) else (0 : Int32)))), .val (.int (((if p0 = ff then (1 : Int32) else (0 : Int32)) + (if p1 = ff then (1 : Int32) else (0 : Int32))) + (if p2 = ff then (1 : Int32) else (0 : Int32)))), .val (.int (1 : Int32)), .val (.int (1 : Int32)), .val (.int (1 : Int32))] [(.int (1 : Int32))])
    refine own_go (fun t k => XS.goto X35.here hx rfl (pc0 := 249) (pc' := 253) rfl (hb hby at_249) (by decide) (by decide) k) ?_
    show own_R p e below _ T35 (mkF m 253 #[.val (.int p0), .val (.int p1), .val (.int p2), .val (.int p3), .val (.int p4), .val (.int p5), .val (.int se), .val (.int ff), .val (.ref b9), .val (.int (3 : Int32)), .val (.int ((((3 : Int32) + (if p0 = ff then (1 : Int32) else (0 : Int32))) + (if p1 = ff then (1 : Int32) else (0 : Int32))) + (if p2 = ff then (1 : Int32) else (0 : Int32)))), .val (.int (((if p0 = ff then (1 : Int32) else (0 : Int32)) + (if p1 = ff then (1 : Int32) else (0 : Int32))) + (if p2 = ff then (1 : Int32) else (0 : Int32)))), .val (.int (1 : Int32)), .val (.int (1 : Int32)), .val (.int (1 : Int32))] [(.int (1 : Int32))])
    refine own_retN X35 hx Bd.returns (by simp) (BodyLoose.notSynchronized Bd) (hb hby at_253) (by decide) (by decide) ?_
    exact ⟨rfl, N35⟩
set_option maxRecDepth 65536 in
set_option maxHeartbeats 40000000 in
theorem comes_1 {Post : Tables → Env → Array Value → State → Outcome → State → Prop} (hpost : ∀ tb e args s v u, (limb_1_1.after args s (.returned v) u = true ∧ limb_1_2.after args s (.returned v) u = true ∧ True) → FrameEnd s (.returned v) u (Jvm.fieldLocs frame_1_writes args s ++ Jvm.arrayLocs frame_1_arrays args s ++ Jvm.staticLocs frame_1_statics s) 16 128 → Post tb e args s (.returned v) u) :
    ArmFor flags0 classFile x code maxLocals ret World_1 tables_1 room_1 Calls_1 rest_1 Pre_1 Post := by
  intro l hfl _ _ p e ha hc hk s m args below hf hA hF happ hP
  obtain ⟨hcalls, hrest, hpre⟩ := hP
  obtain ⟨-, -, -, hnamed, -, -, -, hat⟩ := (Spec.applies_iff hf).mp happ
  obtain ⟨hg, hn⟩ := and_e (Cond.before_iff.mp (show (Jvm.Cond.and given_1 narrow_1).before args s = true from hpre))
  obtain ⟨g0, gr0⟩ := and_e hg
  obtain ⟨ga0, gr1⟩ := and_e gr0
  obtain ⟨ga1, gr2⟩ := and_e gr1
  obtain ⟨ga2, gr3⟩ := and_e gr2
  obtain ⟨ga3, gr4⟩ := and_e gr3
  obtain ⟨ga4, gr5⟩ := and_e gr4
  have ga5 := gr5
  obtain ⟨w0, w1, w2, w3, w4, w5, rfl⟩ : ∃ w0 w1 w2 w3 w4 w5 : Value, args = #[w0, w1, w2, w3, w4, w5] := by
    have hs : args.size = 6 := by simpa [Cond.value, given_1] using g0
    obtain ⟨L⟩ := args
    match L, hs with
    | [w0, w1, w2, w3, w4, w5], _ => exact ⟨w0, w1, w2, w3, w4, w5, rfl⟩
  have hw := fun d (hd : d ∈ tables_1) => atoms_spec (ws := Jvm.Cond.code x code maxLocals ret :: tables_1) hat d (List.mem_cons_of_mem _ hd)
  have hfit : Fit s := fun {y c} hc i hi => by
    obtain ⟨ha, rfl⟩ := Array.getElem?_eq_some_iff.mp hc
    have q := List.all_eq_true.mp ((Array.all_eq_true_iff_forall_mem.mp hF) _ (Array.getElem_mem ha)) i (List.mem_range.mpr hi)
    simpa [Array.getElem?_eq_getElem hi] using q
  obtain ⟨i0, ei0⟩ := is_v ga0
  obtain rfl : w0 = (.int i0) := Option.some.inj ei0
  obtain ⟨i1, ei1⟩ := is_v ga1
  obtain rfl : w1 = (.int i1) := Option.some.inj ei1
  obtain ⟨i2, ei2⟩ := is_v ga2
  obtain rfl : w2 = (.int i2) := Option.some.inj ei2
  obtain ⟨i3, ei3⟩ := is_v ga3
  obtain rfl : w3 = (.int i3) := Option.some.inj ei3
  obtain ⟨i4, ei4⟩ := is_v ga4
  obtain rfl : w4 = (.int i4) := Option.some.inj ei4
  obtain ⟨i5, ei5⟩ := is_v ga5
  obtain rfl : w5 = (.int i5) := Option.some.inj ei5
  obtain ⟨n, o, h1, h2, h3, _, L, rfl, ⟨rfl, N⟩, hq⟩ := rm0 l s _ hw tables_1 i0 i1 i2 i3 i4 i5  s.heap s.heap.size (Nat.le_refl _) p e ha hc hk s m _ below hf ((Spec.applies_iff_loose hf).mp happ).1 ⟨rfl, State.Warmed39.refl s, rfl⟩ trivial
  refine ⟨n, _, h1, h2, h3, hpost _ _ _ _ _ _ ⟨Cond.after_iff.mpr rfl, Cond.after_iff.mpr (eq_i res_at (Term.int_eval (1)) rfl), trivial⟩ ⟨hq.1, hq.2.1, (hq.2.2.sift fun y hy => Or.inr (N y hy)).mono (by decide) (by decide)⟩⟩
theorem main_1_1 : Claimed_1_1 := comes_1 fun _ _ _ _ _ _ h hF => ⟨h.1, hF⟩
theorem main_1_2 : Claimed_1_2 := comes_1 fun _ _ _ _ _ _ h hF => ⟨h.2.1, hF⟩
end Jvm.Pilot.@@N@@
namespace Jvm.Pilot.@@N@@
open Jvm Jvm.ClassFile Sem Op Lib Jvm.Free Jvm.Stand Jvm.Pilot.@@N@@.Jvm.D
/-! MADE BY PROGRAM (witnessworld.py) out of the Statement's table words and the real class files: 10 classes; the members and pool entries that the words name. The judged class is class 1, her method 3. -/
namespace start1
open Jvm.ClassFile
def u (s : String) : CpInfo := .utf8 (stringToUtf16 s)
/-- a pool by its gaps: so many unusable entries, then the entry; so many at the end -/
def gap : Nat → List CpInfo → List CpInfo
  | 0, r => r
  | n + 1, r => .unusable :: gap n r
def poolList (es : List (Nat × CpInfo)) (last : Nat) : List CpInfo := es.foldr (fun e r => gap e.1 (e.2 :: r)) (gap last [])
def pool (es : List (Nat × CpInfo)) (last : Nat) : Array CpInfo := ⟨poolList es last⟩
def fileOf (pool : Array CpInfo) (this : Nat) (attrs : Array Attribute := #[]) (ms : Array MethodInfo := #[]) (fl : Nat := 33) (sup : Nat := 0) (ifs : Array Nat := #[]) (fds : Array FieldInfo := #[]) : ClassFile where
  minorVersion := 0
  majorVersion := 65
  constantPool := pool
  accessFlags := fl
  thisClass := this
  superClass := sup
  interfaces := ifs
  fields := fds
  methods := ms
  attributes := attrs
def plain (name : String) (sup : Option ClassId) : Class where
  name := name
  kind := .ordinary
  loader := none
  accessFlags := 33
  super := sup
  interfaces := #[]
  cf := none
  fields := #[]
  methods := #[]
  instanceTypes := #[]
  staticTypes := #[]
  resolved := #[]
  callSites := []
  init := .initialized
  statics := none
  mirror := none

def pool0 : Array CpInfo := pool [(5, u "<init>"), (0, u "()V"), (1, .class_ 10), (1, u "java/lang/Object")] 113

def k0c0 : Code := { maxStack := 0, maxLocals := 1, code := object_method_1_code, exceptionTable := #[], attributes := #[] }
def k0m0 : Method := { name := "<init>", desc := "()V", sig := { parameters := [], returnType := none }, accessFlags := 1, code := some k0c0 }
/-- java/lang/Object -/
def k0 : Class := { plain "java/lang/Object" none with
  accessFlags := 33
  interfaces := #[]
  cf := some (fileOf pool0 8 #[] #[{ accessFlags := 1, nameIndex := 5, descriptorIndex := 6, attributes := #[] }] 33 0 #[] #[])
  fields := #[]
  methods := #[k0m0]
  instanceTypes := #[]
  staticTypes := #[]
  resolved := Array.replicate 124 none
  statics := none }

def pool1 : Array CpInfo := pool [(2, .class_ 4), (0, .nameAndType 5 6), (0, u "java/lang/Object"), (0, u "<init>"), (0, u "()V"), (0, .class_ 8), (0, u "com/example/signetry/signetry/card/WordFrame"), (0, .methodref 7 3), (0, .methodref 7 11), (0, .nameAndType 12 13), (0, u "reset"), (0, u "(II)V"), (0, .methodref 7 15), (0, .nameAndType 16 13), (0, u "store"), (0, .methodref 7 18), (0, .nameAndType 19 20), (0, u "push"), (0, u "(I)V"), (0, .methodref 7 22), (0, .nameAndType 23 24), (0, u "localsVersion"), (0, u "()I"), (0, .methodref 7 26), (0, .nameAndType 27 13), (0, u "replaceAll"), (0, .methodref 29 30), (0, .class_ 31), (0, .nameAndType 32 33), (0, u "com/example/signetry/signetry/card/WordFrameReplaceAllPinLaw"), (0, u "hit"), (0, u "(II)I"), (0, .methodref 7 35), (0, .nameAndType 36 37), (0, u "local"), (0, u "(I)I"), (0, .methodref 29 39), (0, .nameAndType 40 41), (0, u "expect"), (0, u "(III)I"), (0, .methodref 7 43), (0, .nameAndType 44 37), (0, u "peek"), (0, .methodref 7 46), (0, .nameAndType 47 24), (0, u "stackSize"), (3, u "law"), (0, u "(IIIIII)Z")] 5

def k1m0 : Method := { name := "<init>", desc := "()V", sig := { parameters := [], returnType := none }, accessFlags := 1, code := none }
def k1c1 : Code := { maxStack := 2, maxLocals := 3, code := method_2_code, exceptionTable := #[], attributes := #[] }
def k1m1 : Method := { name := "expect", desc := "(III)I", sig := { parameters := [.int, .int, .int], returnType := some .int }, accessFlags := 10, code := some k1c1 }
def k1c2 : Code := { maxStack := 2, maxLocals := 2, code := method_3_code, exceptionTable := #[], attributes := #[] }
def k1m2 : Method := { name := "hit", desc := "(II)I", sig := { parameters := [.int, .int], returnType := some .int }, accessFlags := 10, code := some k1c2 }
def k1c3 : Code := { maxStack := 4, maxLocals := 15, code := code, exceptionTable := #[], attributes := #[] }
def k1m3 : Method := { name := "law", desc := "(IIIIII)Z", sig := { parameters := [.int, .int, .int, .int, .int, .int], returnType := some .boolean }, accessFlags := 9, code := some k1c3 }
/-- com/example/signetry/signetry/card/WordFrameReplaceAllPinLaw -/
def k1 : Class := { plain "com/example/signetry/signetry/card/WordFrameReplaceAllPinLaw" (some 0) with
  accessFlags := 49
  interfaces := #[]
  cf := some (fileOf pool1 29 #[] #[{ accessFlags := 1, nameIndex := 5, descriptorIndex := 6, attributes := #[] }, { accessFlags := 10, nameIndex := 40, descriptorIndex := 41, attributes := #[] }, { accessFlags := 10, nameIndex := 32, descriptorIndex := 33, attributes := #[] }, { accessFlags := 9, nameIndex := 51, descriptorIndex := 52, attributes := #[] }] 49 2 #[] #[])
  fields := #[]
  methods := #[k1m0, k1m1, k1m2, k1m3]
  instanceTypes := #[]
  staticTypes := #[]
  resolved := Array.replicate 58 none
  statics := none }

def pool2 : Array CpInfo := pool [(1, .methodref 2 3), (0, .class_ 4), (0, .nameAndType 5 6), (0, u "java/lang/Object"), (0, u "<init>"), (0, u "()V"), (0, .fieldref 8 9), (0, .class_ 10), (0, .nameAndType 11 12), (0, u "com/example/signetry/signetry/card/WordFrame"), (0, u "words"), (0, u "[I"), (2, .methodref 16 17), (0, .class_ 18), (0, .nameAndType 19 20), (0, u "java/util/Arrays"), (0, u "fill"), (0, u "([IIII)V"), (0, .fieldref 8 22), (0, .nameAndType 23 24), (0, u "localCount"), (0, u "I"), (0, .fieldref 8 26), (0, .nameAndType 27 24), (0, u "maxStack"), (0, .fieldref 8 29), (0, .nameAndType 30 24), (0, u "top"), (0, .fieldref 8 32), (0, .nameAndType 33 34), (0, u "thisUninitialized"), (0, u "Z"), (0, .fieldref 8 36), (0, .nameAndType 37 24), (0, u "localsVersion"), (0, .methodref 8 39), (0, .nameAndType 40 41), (0, u "requireLocal"), (0, u "(I)V"), (0, .methodref 8 43), (0, .nameAndType 44 41), (0, u "invalidateIntAround"), (6, .methodref 8 52), (0, .nameAndType 53 41), (0, u "requireRoom"), (0, .methodref 8 55), (0, .nameAndType 56 41), (0, u "requireWords"), (24, u "()I"), (6, u "stackSize"), (16, u "reset"), (0, u "(II)V"), (3, u "local"), (0, u "(I)I"), (1, u "store"), (1, u "push"), (1, u "peek"), (3, u "replaceAll")] 13

def k2c0 : Code := { maxStack := 2, maxLocals := 1, code := prog_110_method_1_code, exceptionTable := #[], attributes := #[] }
def k2m0 : Method := { name := "<init>", desc := "()V", sig := { parameters := [], returnType := none }, accessFlags := 0, code := some k2c0 }
def k2c1 : Code := { maxStack := 4, maxLocals := 3, code := prog_110_method_2_code, exceptionTable := #[], attributes := #[] }
def k2m1 : Method := { name := "reset", desc := "(II)V", sig := { parameters := [.int, .int], returnType := none }, accessFlags := 0, code := some k2c1 }
def k2c2 : Code := { maxStack := 2, maxLocals := 1, code := prog_110_method_5_code, exceptionTable := #[], attributes := #[] }
def k2m2 : Method := { name := "stackSize", desc := "()I", sig := { parameters := [], returnType := some .int }, accessFlags := 0, code := some k2c2 }
def k2c3 : Code := { maxStack := 1, maxLocals := 1, code := prog_110_method_6_code, exceptionTable := #[], attributes := #[] }
def k2m3 : Method := { name := "localsVersion", desc := "()I", sig := { parameters := [], returnType := some .int }, accessFlags := 0, code := some k2c3 }
def k2c4 : Code := { maxStack := 2, maxLocals := 2, code := prog_110_method_9_code, exceptionTable := #[], attributes := #[] }
def k2m4 : Method := { name := "local", desc := "(I)I", sig := { parameters := [.int], returnType := some .int }, accessFlags := 0, code := some k2c4 }
def k2c5 : Code := { maxStack := 3, maxLocals := 3, code := prog_110_method_10_code, exceptionTable := #[], attributes := #[] }
def k2m5 : Method := { name := "store", desc := "(II)V", sig := { parameters := [.int, .int], returnType := none }, accessFlags := 0, code := some k2c5 }
def k2c6 : Code := { maxStack := 3, maxLocals := 2, code := prog_110_method_12_code, exceptionTable := #[], attributes := #[] }
def k2m6 : Method := { name := "invalidateIntAround", desc := "(I)V", sig := { parameters := [.int], returnType := none }, accessFlags := 2, code := some k2c6 }
def k2c7 : Code := { maxStack := 2, maxLocals := 2, code := prog_110_method_13_code, exceptionTable := #[], attributes := #[] }
def k2m7 : Method := { name := "requireLocal", desc := "(I)V", sig := { parameters := [.int], returnType := none }, accessFlags := 2, code := some k2c7 }
def k2c8 : Code := { maxStack := 3, maxLocals := 2, code := prog_110_method_14_code, exceptionTable := #[], attributes := #[] }
def k2m8 : Method := { name := "push", desc := "(I)V", sig := { parameters := [.int], returnType := none }, accessFlags := 0, code := some k2c8 }
def k2c9 : Code := { maxStack := 3, maxLocals := 2, code := prog_110_method_16_code, exceptionTable := #[], attributes := #[] }
def k2m9 : Method := { name := "peek", desc := "(I)I", sig := { parameters := [.int], returnType := some .int }, accessFlags := 0, code := some k2c9 }
def k2c10 : Code := { maxStack := 3, maxLocals := 2, code := prog_110_method_20_code, exceptionTable := #[], attributes := #[] }
def k2m10 : Method := { name := "requireRoom", desc := "(I)V", sig := { parameters := [.int], returnType := none }, accessFlags := 2, code := some k2c10 }
def k2c11 : Code := { maxStack := 2, maxLocals := 2, code := prog_110_method_21_code, exceptionTable := #[], attributes := #[] }
def k2m11 : Method := { name := "requireWords", desc := "(I)V", sig := { parameters := [.int], returnType := none }, accessFlags := 2, code := some k2c11 }
def k2c12 : Code := { maxStack := 3, maxLocals := 4, code := prog_110_method_23_code, exceptionTable := #[], attributes := #[] }
def k2m12 : Method := { name := "replaceAll", desc := "(II)V", sig := { parameters := [.int, .int], returnType := none }, accessFlags := 0, code := some k2c12 }
/-- com/example/signetry/signetry/card/WordFrame -/
def k2 : Class := { plain "com/example/signetry/signetry/card/WordFrame" (some 0) with
  accessFlags := 48
  interfaces := #[]
  cf := some (fileOf pool2 8 #[] #[{ accessFlags := 0, nameIndex := 5, descriptorIndex := 6, attributes := #[] }, { accessFlags := 0, nameIndex := 105, descriptorIndex := 106, attributes := #[] }, { accessFlags := 0, nameIndex := 88, descriptorIndex := 81, attributes := #[] }, { accessFlags := 0, nameIndex := 37, descriptorIndex := 81, attributes := #[] }, { accessFlags := 0, nameIndex := 110, descriptorIndex := 111, attributes := #[] }, { accessFlags := 0, nameIndex := 113, descriptorIndex := 106, attributes := #[] }, { accessFlags := 2, nameIndex := 44, descriptorIndex := 41, attributes := #[] }, { accessFlags := 2, nameIndex := 40, descriptorIndex := 41, attributes := #[] }, { accessFlags := 0, nameIndex := 115, descriptorIndex := 41, attributes := #[] }, { accessFlags := 0, nameIndex := 117, descriptorIndex := 111, attributes := #[] }, { accessFlags := 2, nameIndex := 53, descriptorIndex := 41, attributes := #[] }, { accessFlags := 2, nameIndex := 56, descriptorIndex := 41, attributes := #[] }, { accessFlags := 0, nameIndex := 121, descriptorIndex := 106, attributes := #[] }] 48 2 #[] #[{ accessFlags := 2, nameIndex := 11, descriptorIndex := 12, attributes := #[] }, { accessFlags := 2, nameIndex := 23, descriptorIndex := 24, attributes := #[] }, { accessFlags := 2, nameIndex := 27, descriptorIndex := 24, attributes := #[] }, { accessFlags := 2, nameIndex := 30, descriptorIndex := 24, attributes := #[] }, { accessFlags := 2, nameIndex := 33, descriptorIndex := 34, attributes := #[] }, { accessFlags := 2, nameIndex := 37, descriptorIndex := 24, attributes := #[] }])
  fields := #[{ name := "words", type := (.array .int), accessFlags := 2, slot := 0, constantValue := 0 }, { name := "localCount", type := .int, accessFlags := 2, slot := 1, constantValue := 0 }, { name := "maxStack", type := .int, accessFlags := 2, slot := 2, constantValue := 0 }, { name := "top", type := .int, accessFlags := 2, slot := 3, constantValue := 0 }, { name := "thisUninitialized", type := .boolean, accessFlags := 2, slot := 4, constantValue := 0 }, { name := "localsVersion", type := .int, accessFlags := 2, slot := 5, constantValue := 0 }]
  methods := #[k2m0, k2m1, k2m2, k2m3, k2m4, k2m5, k2m6, k2m7, k2m8, k2m9, k2m10, k2m11, k2m12]
  instanceTypes := #[(.array .int), .int, .int, .int, .boolean, .int]
  staticTypes := #[]
  resolved := Array.replicate 135 none
  statics := none }

def pool3 : Array CpInfo := pool [(2, .class_ 4), (1, u "java/lang/Object"), (0, u "<init>"), (0, u "()V"), (5, u "([IIII)V"), (0, .methodref 14 15), (0, .class_ 16), (0, .nameAndType 17 18), (0, u "java/util/Arrays"), (0, u "rangeCheck"), (0, u "(III)V"), (55, .class_ 76), (1, u "java/util/Arrays$NaturalOrder"), (36, .class_ 115), (1, u "java/util/Arrays$LegacyMergeSort"), (1, u "Z"), (257, .class_ 376), (0, u "java/util/Arrays$ArrayList"), (68, u "$assertionsDisabled"), (269, u "MIN_ARRAY_SORT_GRAN"), (0, u "I"), (2, u "INSERTIONSORT_THRESHOLD"), (120, u "fill"), (134, .class_ 976), (0, u "java/util/Arrays$ArrayItr")] 52

def k3m0 : Method := { name := "<init>", desc := "()V", sig := { parameters := [], returnType := none }, accessFlags := 2, code := none }
def k3c1 : Code := { maxStack := 4, maxLocals := 3, code := jdk_65_method_30_code, exceptionTable := #[], attributes := #[] }
def k3m1 : Method := { name := "rangeCheck", desc := "(III)V", sig := { parameters := [.int, .int, .int], returnType := none }, accessFlags := 8, code := some k3c1 }
def k3c2 : Code := { maxStack := 3, maxLocals := 5, code := jdk_65_method_104_code, exceptionTable := #[], attributes := #[] }
def k3m2 : Method := { name := "fill", desc := "([IIII)V", sig := { parameters := [(.array .int), .int, .int, .int], returnType := none }, accessFlags := 9, code := some k3c2 }
/-- java/util/Arrays -/
def k3 : Class := { plain "java/util/Arrays" (some 0) with
  accessFlags := 49
  interfaces := #[]
  cf := some (fileOf pool3 14 #[.nestMembers #[975, 375, 113, 74]] #[{ accessFlags := 2, nameIndex := 5, descriptorIndex := 6, attributes := #[] }, { accessFlags := 8, nameIndex := 17, descriptorIndex := 18, attributes := #[] }, { accessFlags := 9, nameIndex := 840, descriptorIndex := 12, attributes := #[] }] 49 2 #[] #[{ accessFlags := 26, nameIndex := 715, descriptorIndex := 716, attributes := #[] }, { accessFlags := 26, nameIndex := 719, descriptorIndex := 716, attributes := #[] }, { accessFlags := 4120, nameIndex := 445, descriptorIndex := 117, attributes := #[] }])
  fields := #[{ name := "MIN_ARRAY_SORT_GRAN", type := .int, accessFlags := 26, slot := 0, constantValue := 0 }, { name := "INSERTIONSORT_THRESHOLD", type := .int, accessFlags := 26, slot := 1, constantValue := 0 }, { name := "$assertionsDisabled", type := .boolean, accessFlags := 4120, slot := 2, constantValue := 0 }]
  methods := #[k3m0, k3m1, k3m2]
  instanceTypes := #[]
  staticTypes := #[.int, .int, .boolean]
  resolved := Array.replicate 1029 none
  statics := none }

def pool4 : Array CpInfo := pool [(1, u "java/lang/Cloneable"), (0, .class_ 1), (0, u "java/lang/Object"), (0, .class_ 3)] 3

/-- java/lang/Cloneable -/
def k4 : Class := { plain "java/lang/Cloneable" (some 0) with
  accessFlags := 1537
  interfaces := #[]
  cf := some (fileOf pool4 2 #[] #[] 1537 4 #[] #[])
  fields := #[]
  methods := #[]
  instanceTypes := #[]
  staticTypes := #[]
  resolved := Array.replicate 8 none
  statics := none }

def pool5 : Array CpInfo := pool [(1, u "java/io/Serializable"), (0, .class_ 1), (0, u "java/lang/Object"), (0, .class_ 3)] 3

/-- java/io/Serializable -/
def k5 : Class := { plain "java/io/Serializable" (some 0) with
  accessFlags := 1537
  interfaces := #[]
  cf := some (fileOf pool5 2 #[] #[] 1537 4 #[] #[])
  fields := #[]
  methods := #[]
  instanceTypes := #[]
  staticTypes := #[]
  resolved := Array.replicate 8 none
  statics := none }

/-- the primitive byte -/
def k6 : Class := { plain "byte" none with kind := .primitive 'B', accessFlags := 0x411 }
/-- [B -/
def k7 : Class := { plain "[B" (some 0) with kind := .array 6 .byte, interfaces := #[4, 5], accessFlags := 1041 }

/-- the primitive int -/
def k8 : Class := { plain "int" none with kind := .primitive 'I', accessFlags := 0x411 }
/-- [I -/
def k9 : Class := { plain "[I" (some 0) with kind := .array 8 .int, interfaces := #[4, 5], accessFlags := 1041 }

def heap : Heap := #[]
def classes : Array Class := #[k0, k1, k2, k3, k4, k5, k6, k7, k8, k9]
def interned : List (Array UInt16 × Addr) := []
def slotsUsed : Nat := 0
def theMethod : MethodId := ⟨1, 3⟩
def args0 : Array Value := #[.int 10, .int 20, .int 30, .int 40, .int 50, .int 5]
def aboutOver (below : List Frame) : State where
  vm := { classes := classes, interned := interned.toArray }
  heap := heap
  slotsUsed := slotsUsed
  threads := #[{ frames := .invoking theMethod args0 :: below }]
def below0 : List Frame := [.native { method := ⟨0, 0⟩, args := #[] }]
def about1 : State := aboutOver below0
def p0 : Program := .bare "" "" ""
def e0 : Env := launch0.env 0 0 0
theorem w_frames : about1.frames = Frame.invoking theMethod args0 :: below0 := rfl
set_option maxRecDepth 65536 in
theorem w_args : argsFit about1.vm theMethod args0 = true := by decide +kernel
set_option maxRecDepth 65536 in
theorem w_heap : heapFits about1 = true := by decide +kernel
set_option maxRecDepth 65536 in
theorem w_runnable : about1.curStatus? = some .runnable := by decide +kernel
set_option maxRecDepth 65536 in
theorem w_alone : about1.alone = true := by decide +kernel
set_option maxRecDepth 65536 in
theorem w_named : about1.methodNamed? x = some theMethod := by decide +kernel
set_option maxRecDepth 65536 in
theorem w_hears : about1.hears theMethod below0 = true := by decide +kernel
set_option maxRecDepth 65536 in
theorem w_ripe : about1.ripe theMethod args0 below0 = true := by decide +kernel
theorem w_running : about1.status = .running := rfl
set_option maxRecDepth 65536 in
theorem w_room : about1.hasRoom e0.platform room_1 = true :=
  launch0.hasRoom_least _ room_1 (by decide +kernel) (by decide +kernel) (by decide +kernel) (by decide +kernel) (by decide +kernel) (by decide +kernel)
theorem allAtoms_all (ts : List Jvm.Cond) (a : Array Jvm.Value) (st : Jvm.State) : (allAtoms ts).before a st = ts.all (fun c => c.before a st) := by
  induction ts with
  | nil => rfl
  | cons c t ih =>
    show (Jvm.Cond.and c (allAtoms t)).before a st = _
    rw [Jvm.Cond.before_and, ih, List.all_cons]
def words1 : List Jvm.Cond := Jvm.Cond.code x code maxLocals ret :: tables_1
/-- a 'code' word, met by the world's own term for the bytes: nothing is compared byte by byte -/
theorem code_word {y : MethodName} {bytes : ByteArray} {mx : Nat} {rt : Option FieldType} {a : Array Value} {s : State} {m : MethodId} {meth : Method} {c : Code} (h1 : s.methodNamed? y = some m) (h2 : s.vm.method? m = some meth) (h3 : meth.code = some c) (h4 : c.code = bytes)
    (h5 : (c.maxLocals == mx && c.exceptionTable.isEmpty && decide (c.maxStack ≤ mostOperands) && decide (meth.sig.returnType = rt) && !meth.locks && decide (parseMethodDescriptor y.desc = some meth.sig)) = true) : (Jvm.Cond.code y bytes mx rt).before a s = true := by
  simp only [Bool.and_eq_true, beq_iff_eq, Bool.not_eq_true', decide_eq_true_eq] at h5
  obtain ⟨⟨⟨⟨⟨g1, g2⟩, g3⟩, g4⟩, g5⟩, g6⟩ := h5
  simp [Cond.before, Cond.holds, Cond.value, h1, h2, h3, h4, g1, g2, g3, g4, g5, g6]
def isCode : Jvm.Cond → Bool
  | .code _ _ _ _ => true
  | _ => false
theorem all_split {L : List Jvm.Cond} {P : Jvm.Cond → Bool} (h1 : L.all (fun c => isCode c || P c) = true) (h2 : ∀ c ∈ L.filter isCode, P c = true) : L.all P = true := by
  refine List.all_eq_true.mpr fun c hc => ?_
  have h := List.all_eq_true.mp h1 c hc
  rcases Bool.eq_false_or_eq_true (isCode c) with hi | hi
  · exact h2 c (List.mem_filter.mpr ⟨hc, hi⟩)
  · simpa [hi] using h
set_option maxRecDepth 65536 in
theorem w_c0 : (Jvm.Cond.code x code maxLocals ret).before args0 about1 = true := code_word (m := ⟨1, 3⟩) (meth := k1m3) (c := k1c3) (by decide +kernel) rfl rfl rfl (by decide +kernel)
set_option maxRecDepth 65536 in
theorem w_c1 : (Jvm.Cond.code ({ cls := "com/example/signetry/signetry/card/WordFrame", name := "<init>", desc := "()V" } : Jvm.MethodName) prog_110_method_1_code (1 : Nat) (Option.none : Option Jvm.ClassFile.FieldType)).before args0 about1 = true := code_word (m := ⟨2, 0⟩) (meth := k2m0) (c := k2c0) (by decide +kernel) rfl rfl rfl (by decide +kernel)
set_option maxRecDepth 65536 in
theorem w_c2 : (Jvm.Cond.code ({ cls := "java/lang/Object", name := "<init>", desc := "()V" } : Jvm.MethodName) object_method_1_code (1 : Nat) (Option.none : Option Jvm.ClassFile.FieldType)).before args0 about1 = true := code_word (m := ⟨0, 0⟩) (meth := k0m0) (c := k0c0) (by decide +kernel) rfl rfl rfl (by decide +kernel)
set_option maxRecDepth 65536 in
theorem w_c3 : (Jvm.Cond.code ({ cls := "com/example/signetry/signetry/card/WordFrame", name := "reset", desc := "(II)V" } : Jvm.MethodName) prog_110_method_2_code (3 : Nat) (Option.none : Option Jvm.ClassFile.FieldType)).before args0 about1 = true := code_word (m := ⟨2, 1⟩) (meth := k2m1) (c := k2c1) (by decide +kernel) rfl rfl rfl (by decide +kernel)
set_option maxRecDepth 65536 in
theorem w_c4 : (Jvm.Cond.code ({ cls := "java/util/Arrays", name := "fill", desc := "([IIII)V" } : Jvm.MethodName) jdk_65_method_104_code (5 : Nat) (Option.none : Option Jvm.ClassFile.FieldType)).before args0 about1 = true := code_word (m := ⟨3, 2⟩) (meth := k3m2) (c := k3c2) (by decide +kernel) rfl rfl rfl (by decide +kernel)
set_option maxRecDepth 65536 in
theorem w_c5 : (Jvm.Cond.code ({ cls := "java/util/Arrays", name := "rangeCheck", desc := "(III)V" } : Jvm.MethodName) jdk_65_method_30_code (3 : Nat) (Option.none : Option Jvm.ClassFile.FieldType)).before args0 about1 = true := code_word (m := ⟨3, 1⟩) (meth := k3m1) (c := k3c1) (by decide +kernel) rfl rfl rfl (by decide +kernel)
set_option maxRecDepth 65536 in
theorem w_c6 : (Jvm.Cond.code ({ cls := "com/example/signetry/signetry/card/WordFrame", name := "store", desc := "(II)V" } : Jvm.MethodName) prog_110_method_10_code (3 : Nat) (Option.none : Option Jvm.ClassFile.FieldType)).before args0 about1 = true := code_word (m := ⟨2, 5⟩) (meth := k2m5) (c := k2c5) (by decide +kernel) rfl rfl rfl (by decide +kernel)
set_option maxRecDepth 65536 in
theorem w_c7 : (Jvm.Cond.code ({ cls := "com/example/signetry/signetry/card/WordFrame", name := "requireLocal", desc := "(I)V" } : Jvm.MethodName) prog_110_method_13_code (2 : Nat) (Option.none : Option Jvm.ClassFile.FieldType)).before args0 about1 = true := code_word (m := ⟨2, 7⟩) (meth := k2m7) (c := k2c7) (by decide +kernel) rfl rfl rfl (by decide +kernel)
set_option maxRecDepth 65536 in
theorem w_c8 : (Jvm.Cond.code ({ cls := "com/example/signetry/signetry/card/WordFrame", name := "invalidateIntAround", desc := "(I)V" } : Jvm.MethodName) prog_110_method_12_code (2 : Nat) (Option.none : Option Jvm.ClassFile.FieldType)).before args0 about1 = true := code_word (m := ⟨2, 6⟩) (meth := k2m6) (c := k2c6) (by decide +kernel) rfl rfl rfl (by decide +kernel)
set_option maxRecDepth 65536 in
theorem w_c9 : (Jvm.Cond.code ({ cls := "com/example/signetry/signetry/card/WordFrame", name := "push", desc := "(I)V" } : Jvm.MethodName) prog_110_method_14_code (2 : Nat) (Option.none : Option Jvm.ClassFile.FieldType)).before args0 about1 = true := code_word (m := ⟨2, 8⟩) (meth := k2m8) (c := k2c8) (by decide +kernel) rfl rfl rfl (by decide +kernel)
set_option maxRecDepth 65536 in
theorem w_c10 : (Jvm.Cond.code ({ cls := "com/example/signetry/signetry/card/WordFrame", name := "requireRoom", desc := "(I)V" } : Jvm.MethodName) prog_110_method_20_code (2 : Nat) (Option.none : Option Jvm.ClassFile.FieldType)).before args0 about1 = true := code_word (m := ⟨2, 10⟩) (meth := k2m10) (c := k2c10) (by decide +kernel) rfl rfl rfl (by decide +kernel)
set_option maxRecDepth 65536 in
theorem w_c11 : (Jvm.Cond.code ({ cls := "com/example/signetry/signetry/card/WordFrame", name := "localsVersion", desc := "()I" } : Jvm.MethodName) prog_110_method_6_code (1 : Nat) (Option.some Jvm.ClassFile.FieldType.int)).before args0 about1 = true := code_word (m := ⟨2, 3⟩) (meth := k2m3) (c := k2c3) (by decide +kernel) rfl rfl rfl (by decide +kernel)
set_option maxRecDepth 65536 in
theorem w_c12 : (Jvm.Cond.code ({ cls := "com/example/signetry/signetry/card/WordFrame", name := "replaceAll", desc := "(II)V" } : Jvm.MethodName) prog_110_method_23_code (4 : Nat) (Option.none : Option Jvm.ClassFile.FieldType)).before args0 about1 = true := code_word (m := ⟨2, 12⟩) (meth := k2m12) (c := k2c12) (by decide +kernel) rfl rfl rfl (by decide +kernel)
set_option maxRecDepth 65536 in
theorem w_c13 : (Jvm.Cond.code ({ cls := "com/example/signetry/signetry/card/WordFrameReplaceAllPinLaw", name := "hit", desc := "(II)I" } : Jvm.MethodName) method_3_code (2 : Nat) (Option.some Jvm.ClassFile.FieldType.int)).before args0 about1 = true := code_word (m := ⟨1, 2⟩) (meth := k1m2) (c := k1c2) (by decide +kernel) rfl rfl rfl (by decide +kernel)
set_option maxRecDepth 65536 in
theorem w_c14 : (Jvm.Cond.code ({ cls := "com/example/signetry/signetry/card/WordFrame", name := "local", desc := "(I)I" } : Jvm.MethodName) prog_110_method_9_code (2 : Nat) (Option.some Jvm.ClassFile.FieldType.int)).before args0 about1 = true := code_word (m := ⟨2, 4⟩) (meth := k2m4) (c := k2c4) (by decide +kernel) rfl rfl rfl (by decide +kernel)
set_option maxRecDepth 65536 in
theorem w_c15 : (Jvm.Cond.code ({ cls := "com/example/signetry/signetry/card/WordFrameReplaceAllPinLaw", name := "expect", desc := "(III)I" } : Jvm.MethodName) method_2_code (3 : Nat) (Option.some Jvm.ClassFile.FieldType.int)).before args0 about1 = true := code_word (m := ⟨1, 1⟩) (meth := k1m1) (c := k1c1) (by decide +kernel) rfl rfl rfl (by decide +kernel)
set_option maxRecDepth 65536 in
theorem w_c16 : (Jvm.Cond.code ({ cls := "com/example/signetry/signetry/card/WordFrame", name := "peek", desc := "(I)I" } : Jvm.MethodName) prog_110_method_16_code (2 : Nat) (Option.some Jvm.ClassFile.FieldType.int)).before args0 about1 = true := code_word (m := ⟨2, 9⟩) (meth := k2m9) (c := k2c9) (by decide +kernel) rfl rfl rfl (by decide +kernel)
set_option maxRecDepth 65536 in
theorem w_c17 : (Jvm.Cond.code ({ cls := "com/example/signetry/signetry/card/WordFrame", name := "requireWords", desc := "(I)V" } : Jvm.MethodName) prog_110_method_21_code (2 : Nat) (Option.none : Option Jvm.ClassFile.FieldType)).before args0 about1 = true := code_word (m := ⟨2, 11⟩) (meth := k2m11) (c := k2c11) (by decide +kernel) rfl rfl rfl (by decide +kernel)
set_option maxRecDepth 65536 in
theorem w_c18 : (Jvm.Cond.code ({ cls := "com/example/signetry/signetry/card/WordFrame", name := "stackSize", desc := "()I" } : Jvm.MethodName) prog_110_method_5_code (1 : Nat) (Option.some Jvm.ClassFile.FieldType.int)).before args0 about1 = true := code_word (m := ⟨2, 2⟩) (meth := k2m2) (c := k2c2) (by decide +kernel) rfl rfl rfl (by decide +kernel)
def codes1 : List Jvm.Cond := [Jvm.Cond.code x code maxLocals ret, Jvm.Cond.code ({ cls := "com/example/signetry/signetry/card/WordFrame", name := "<init>", desc := "()V" } : Jvm.MethodName) prog_110_method_1_code (1 : Nat) (Option.none : Option Jvm.ClassFile.FieldType), Jvm.Cond.code ({ cls := "java/lang/Object", name := "<init>", desc := "()V" } : Jvm.MethodName) object_method_1_code (1 : Nat) (Option.none : Option Jvm.ClassFile.FieldType), Jvm.Cond.code ({ cls := "com/example/signetry/signetry/card/WordFrame", name := "reset", desc := "(II)V" } : Jvm.MethodName) prog_110_method_2_code (3 : Nat) (Option.none : Option Jvm.ClassFile.FieldType), Jvm.Cond.code ({ cls := "java/util/Arrays", name := "fill", desc := "([IIII)V" } : Jvm.MethodName) jdk_65_method_104_code (5 : Nat) (Option.none : Option Jvm.ClassFile.FieldType), Jvm.Cond.code ({ cls := "java/util/Arrays", name := "rangeCheck", desc := "(III)V" } : Jvm.MethodName) jdk_65_method_30_code (3 : Nat) (Option.none : Option Jvm.ClassFile.FieldType), Jvm.Cond.code ({ cls := "com/example/signetry/signetry/card/WordFrame", name := "store", desc := "(II)V" } : Jvm.MethodName) prog_110_method_10_code (3 : Nat) (Option.none : Option Jvm.ClassFile.FieldType), Jvm.Cond.code ({ cls := "com/example/signetry/signetry/card/WordFrame", name := "requireLocal", desc := "(I)V" } : Jvm.MethodName) prog_110_method_13_code (2 : Nat) (Option.none : Option Jvm.ClassFile.FieldType), Jvm.Cond.code ({ cls := "com/example/signetry/signetry/card/WordFrame", name := "invalidateIntAround", desc := "(I)V" } : Jvm.MethodName) prog_110_method_12_code (2 : Nat) (Option.none : Option Jvm.ClassFile.FieldType), Jvm.Cond.code ({ cls := "com/example/signetry/signetry/card/WordFrame", name := "push", desc := "(I)V" } : Jvm.MethodName) prog_110_method_14_code (2 : Nat) (Option.none : Option Jvm.ClassFile.FieldType), Jvm.Cond.code ({ cls := "com/example/signetry/signetry/card/WordFrame", name := "requireRoom", desc := "(I)V" } : Jvm.MethodName) prog_110_method_20_code (2 : Nat) (Option.none : Option Jvm.ClassFile.FieldType), Jvm.Cond.code ({ cls := "com/example/signetry/signetry/card/WordFrame", name := "localsVersion", desc := "()I" } : Jvm.MethodName) prog_110_method_6_code (1 : Nat) (Option.some Jvm.ClassFile.FieldType.int), Jvm.Cond.code ({ cls := "com/example/signetry/signetry/card/WordFrame", name := "replaceAll", desc := "(II)V" } : Jvm.MethodName) prog_110_method_23_code (4 : Nat) (Option.none : Option Jvm.ClassFile.FieldType), Jvm.Cond.code ({ cls := "com/example/signetry/signetry/card/WordFrameReplaceAllPinLaw", name := "hit", desc := "(II)I" } : Jvm.MethodName) method_3_code (2 : Nat) (Option.some Jvm.ClassFile.FieldType.int), Jvm.Cond.code ({ cls := "com/example/signetry/signetry/card/WordFrame", name := "local", desc := "(I)I" } : Jvm.MethodName) prog_110_method_9_code (2 : Nat) (Option.some Jvm.ClassFile.FieldType.int), Jvm.Cond.code ({ cls := "com/example/signetry/signetry/card/WordFrameReplaceAllPinLaw", name := "expect", desc := "(III)I" } : Jvm.MethodName) method_2_code (3 : Nat) (Option.some Jvm.ClassFile.FieldType.int), Jvm.Cond.code ({ cls := "com/example/signetry/signetry/card/WordFrame", name := "peek", desc := "(I)I" } : Jvm.MethodName) prog_110_method_16_code (2 : Nat) (Option.some Jvm.ClassFile.FieldType.int), Jvm.Cond.code ({ cls := "com/example/signetry/signetry/card/WordFrame", name := "requireWords", desc := "(I)V" } : Jvm.MethodName) prog_110_method_21_code (2 : Nat) (Option.none : Option Jvm.ClassFile.FieldType), Jvm.Cond.code ({ cls := "com/example/signetry/signetry/card/WordFrame", name := "stackSize", desc := "()I" } : Jvm.MethodName) prog_110_method_5_code (1 : Nat) (Option.some Jvm.ClassFile.FieldType.int)]
set_option maxRecDepth 65536 in
theorem codes_eq : words1.filter isCode = codes1 := rfl
theorem w_codes : ∀ c ∈ words1.filter isCode, c.before args0 about1 = true := by
  rw [codes_eq]
  intro c hc
  simp only [codes1, List.mem_cons, List.not_mem_nil, or_false] at hc
  rcases hc with rfl | rfl | rfl | rfl | rfl | rfl | rfl | rfl | rfl | rfl | rfl | rfl | rfl | rfl | rfl | rfl | rfl | rfl | rfl
  · exact w_c0
  · exact w_c1
  · exact w_c2
  · exact w_c3
  · exact w_c4
  · exact w_c5
  · exact w_c6
  · exact w_c7
  · exact w_c8
  · exact w_c9
  · exact w_c10
  · exact w_c11
  · exact w_c12
  · exact w_c13
  · exact w_c14
  · exact w_c15
  · exact w_c16
  · exact w_c17
  · exact w_c18
set_option maxRecDepth 65536 in
theorem w_t1 : (words1.take 24).all (fun c => isCode c || c.before args0 about1) = true := by decide +kernel
set_option maxRecDepth 65536 in
theorem w_t2 : ((words1.drop 24).take 24).all (fun c => isCode c || c.before args0 about1) = true := by decide +kernel
set_option maxRecDepth 65536 in
theorem w_t3 : (((words1.drop 24).drop 24).take 24).all (fun c => isCode c || c.before args0 about1) = true := by decide +kernel
set_option maxRecDepth 65536 in
theorem w_t4 : (((words1.drop 24).drop 24).drop 24).all (fun c => isCode c || c.before args0 about1) = true := by decide +kernel
theorem w_tables : (allAtoms (Jvm.Cond.code x code maxLocals ret :: tables_1)).before args0 about1 = true := by
  rw [allAtoms_all]
  show words1.all (fun c => c.before args0 about1) = true
  refine all_split ?_ w_codes
  rw [← List.take_append_drop 24 words1, List.all_append, w_t1, ← List.take_append_drop 24 (words1.drop 24), List.all_append, w_t2, ← List.take_append_drop 24 ((words1.drop 24).drop 24), List.all_append, w_t3, w_t4]
  rfl
set_option maxRecDepth 65536 in
theorem w_case : (Jvm.Cond.and given_1 narrow_1).before args0 about1 = true := by decide +kernel
theorem w_applies : (headSpec (Jvm.Cond.code x code maxLocals ret :: tables_1) room_1).applies x e0.platform about1 = true :=
  (Spec.applies_iff w_frames).mpr ⟨w_running, w_runnable, w_alone, w_named, w_hears, w_ripe, w_room, w_tables⟩
theorem atStart : AtStart classFile x code maxLocals ret World_1 tables_1 room_1 Calls_1 rest_1 Pre_1 launch0 p0 e0 about1 theMethod args0 below0 :=
  ⟨lists_1, trivial, launch0.admits_env _ _ _, launch0.least_env, fairChoices_fair.cas, fairChoices_fair.clock, w_frames, w_args, w_heap, w_applies, trivial, trivial, w_case⟩
end start1
theorem witness_1 : WitnessClaimed_1 := ⟨start1.p0, start1.e0, start1.about1, start1.theMethod, start1.args0, start1.below0, start1.atStart⟩
end Jvm.Pilot.@@N@@
