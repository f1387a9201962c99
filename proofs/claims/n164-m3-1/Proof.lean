import JvmDerived
import JvmDerived.Pilot.@@N@@Statement
import JvmDerived.Pilot.@@N@@Code
set_option linter.unusedVariables false
set_option linter.unusedSimpArgs false
@@BLOCK:HandJ.lean.txt@@
@@BLOCK:SymMore.lean.txt@@
namespace Jvm.Pilot.@@N@@
open Jvm Jvm.ClassFile Sem Op Lib Jvm.Free Jvm.Stand Jvm.LawKit Jvm.RoadKit Bundle Jvm.Pilot.@@N@@.Jvm.D
section OwnKit
variable {p : Program} {l : Launch} {e : Env} {R : Room} {s : State} {m : MethodId} {args : Array Value} {below : List Frame} {meth : Method} {c : Code} {T T' : State} {locs : List Loc} {cells slots : Nat} {F F' : JFrame} {K : State → Prop}
/-- from the frame F the run comes to a state that K takes -/
def own_R (p : Program) (e : Env) (below : List Frame) (K : State → Prop) (T : State) (F : JFrame) : Prop := ∃ t, Steps p.tables e below (T.setTop F) t ∧ K t
theorem own_go (h : ∀ t, Steps p.tables e below (T'.setTop F') t → Steps p.tables e below (T.setTop F) t) (r : own_R p e below K T' F') : own_R p e below K T F := by
  obtain ⟨t, h1, h2⟩ := r
  exact ⟨t, h t h1, h2⟩
/-- the end of the body: it returned, and Q holds -/
def own_E (s : State) (below : List Frame) (Q : Option Value → Heap → List Loc → Prop) (k n : Nat) (t : State) : Prop :=
  t.status = .running ∧ ∃ v L, Ended t below (.returned v) ∧ Q v t.heap L ∧ FrameEnd s (.returned v) t L k n
/-- a join: the run stands at F', the heap as I says -/
def own_K (p : Program) (l : Launch) (e : Env) (R : Room) (s : State) (m : MethodId) (args : Array Value) (below : List Frame) (meth : Method) (c : Code) (n0 cells slots : Nat) (I : Heap → Prop) (F' : JFrame) (t : State) : Prop :=
  ∃ (T' : State) (L' : List Loc), t = T'.setTop F' ∧ Stand p l e R s m args below meth c T' L' cells slots ∧ I T'.heap ∧ Fr n0 L'
theorem own_here {n0 : Nat} {I : Heap → Prop} (X : Stand p l e R s m args below meth c T locs cells slots) (i : I T.heap) (N : Fr n0 locs) : own_R p e below (own_K p l e R s m args below meth c n0 cells slots I F) T F :=
  ⟨_, Steps.refl _, T, locs, rfl, X, i, N⟩
theorem own_retN {Q : Option Value → Heap → List Loc → Prop} {k n : Nat} (X : Stand p l e R s m args below meth c T locs cells slots) (hx : p.tables.exec = Jvm.exec) {pc : Nat} {Ls : Array Slot} {z : Int32} {t : FieldType} {rest : List Value} (hret : meth.sig.returnType = some t) (ht : t = .boolean ∨ t = .byte ∨ t = .char ∨ t = .short) (hlk : meth.locks = false)
    (hd : decode c.code pc = .ok (.ireturn, 1)) (hk : cells ≤ k) (hn : slots ≤ n) (hQ : Q (some (.int (nar t z))) T.heap locs) : own_R p e below (own_E s below Q k n) T (mkF m pc Ls (.int z :: rest)) := by
  obtain ⟨fs, hr, hrun, hended, hW, hsame⟩ := X.leave (v := some (.int (nar t z))) (fun h => by rw [hret] at h; cases h) hlk
  exact ⟨_, retN X hx hret ht hd hr, hrun, _, _, hended, hQ, ⟨_, rfl⟩, hW, hsame.mono hk hn⟩
theorem own_retW {Q : Option Value → Heap → List Loc → Prop} {k n : Nat} (X : Stand p l e R s m args below meth c T locs cells slots) (hx : p.tables.exec = Jvm.exec) {pc : Nat} {Ls : Array Slot} {w : Value} {t : FieldType} {i : Instr} {rest : List Value} (hret : meth.sig.returnType = some t) (hnw : narrow t w = w)
    (hi : (i = .ireturn ∧ (t = .int ∨ t = .boolean ∨ t = .byte ∨ t = .char ∨ t = .short) ∧ ∃ z, w = .int z) ∨ (i = .lreturn ∧ t = .long ∧ ∃ z, w = .long z) ∨ (i = .dreturn ∧ t = .double ∧ ∃ z, w = .double z) ∨ (i = .freturn ∧ t = .float ∧ ∃ z, w = .float z) ∨ (i = .areturn ∧ t.isReference = true ∧ w.isRef = true)) (hlk : meth.locks = false)
    (hd : decode c.code pc = .ok (i, 1)) (hk : cells ≤ k) (hn : slots ≤ n) (hQ : Q (some w) T.heap locs) : own_R p e below (own_E s below Q k n) T (mkF m pc Ls (w :: rest)) := by
  obtain ⟨fs, hr, hrun, hended, hW, hsame⟩ := X.leave (v := some w) (fun h => by rw [hret] at h; cases h) hlk
  exact ⟨_, retOut X hx hret hnw hi hd hr, hrun, _, _, hended, hQ, ⟨_, rfl⟩, hW, hsame.mono hk hn⟩
theorem own_retV {Q : Option Value → Heap → List Loc → Prop} {k n : Nat} (X : Stand p l e R s m args below meth c T locs cells slots) (hx : p.tables.exec = Jvm.exec) {pc : Nat} {Ls : Array Slot} (hret : meth.sig.returnType = none) (hlk : meth.locks = false)
    (hd : decode c.code pc = .ok (.return_, 1)) (hk : cells ≤ k) (hn : slots ≤ n) (hQ : Q none T.heap locs) : own_R p e below (own_E s below Q k n) T (mkF m pc Ls []) := by
  obtain ⟨fs, hr, hrun, hended, hW, hsame⟩ := X.leave (v := none) (fun _ => rfl) hlk
  exact ⟨_, X.returnOut hx hret hd hr, hrun, _, _, hended, hQ, ⟨_, rfl⟩, hW, hsame.mono hk hn⟩
theorem own_lti {x y : Int32} {a b : Int} (h : x < y) (ha : x.toInt = a) (hb : y.toInt = b) : a < b := by rw [← ha, ← hb]; exact Int32.lt_iff_toInt_lt.mp h
theorem own_nlti {x y : Int32} {a b : Int} (h : ¬ x < y) (ha : x.toInt = a) (hb : y.toInt = b) : b ≤ a := by rw [← ha, ← hb]; rw [Int32.lt_iff_toInt_lt] at h; omega
theorem own_eqi {x y : Int32} {a b : Int} (h : x = y) (ha : x.toInt = a) (hb : y.toInt = b) : a = b := by rw [← ha, ← hb, h]
theorem own_nei {x y : Int32} {a b : Int} (h : ¬ x = y) (ha : x.toInt = a) (hb : y.toInt = b) : a ≠ b := by rw [← ha, ← hb]; exact fun q => h (Int32.toInt_inj.mp q)
theorem own_if0 {P : Prop} [Decidable P] (h : (if P then (1 : Int32) else (0 : Int32)) = (0 : Int32)) : ¬ P := fun q => by rw [if_pos q] at h; exact absurd h (by decide)
theorem own_if1 {P : Prop} [Decidable P] (h : ¬ (if P then (1 : Int32) else (0 : Int32)) = (0 : Int32)) : P := by
  by_cases q : P
  · exact q
  · exact absurd (if_neg q) h
theorem own_b01 {P : Prop} [Decidable P] : nar .boolean (if P then (1 : Int32) else (0 : Int32)) = (if P then (1 : Int32) else (0 : Int32)) := by split <;> rfl
/-- the end of the body, where a String constant may have been interned -/
def own_EW (s : State) (below : List Frame) (Q : Option Value → Heap → List Loc → Prop) (k n : Nat) (t : State) : Prop :=
  t.status = .running ∧ ∃ v L, Ended t below (.returned v) ∧ Q v t.heap L ∧ ReturnedEndW s (.returned v) t L k n
theorem own_retNW {Q : Option Value → Heap → List Loc → Prop} {k n j : Nat} {vm₁ : Vm} (X : Stand p l e R (s.setVm vm₁) m args below meth c T locs cells slots) (hx : p.tables.exec = Jvm.exec) {pc : Nat} {Ls : Array Slot} {z : Int32} {t : FieldType} {rest : List Value} (hret : meth.sig.returnType = some t) (ht : t = .boolean ∨ t = .byte ∨ t = .char ∨ t = .short) (hlk : meth.locks = false)
    (hd : decode c.code pc = .ok (.ireturn, 1)) (hS : s.Since vm₁ j) (hj : j ≤ T.heap.size) (hk : cells ≤ k) (hn : slots ≤ n) (hQ : Q (some (.int (nar t z))) T.heap locs) : own_R p e below (own_EW s below Q k n) T (mkF m pc Ls (.int z :: rest)) := by
  obtain ⟨fs, hr, hrun, hended, h1, h2, h3, h4⟩ := X.leaveW hS hj (v := some (.int (nar t z))) (fun h => by rw [hret] at h; cases h) hlk
  exact ⟨_, retN X hx hret ht hd hr, hrun, _, _, hended, hQ, h1, h2, h3, h4.mono hk hn⟩
end OwnKit
theorem pd_0 : parseMethodDescriptor "()V" = some ⟨[], none⟩ := by decide +kernel
theorem pd_1 : parseMethodDescriptor "(II)V" = some ⟨[.int, .int], none⟩ := by decide +kernel
theorem pd_2 : parseMethodDescriptor "([IIII)V" = some ⟨[(.array .int), .int, .int, .int], none⟩ := by decide +kernel
theorem pd_3 : parseMethodDescriptor "(III)V" = some ⟨[.int, .int, .int], none⟩ := by decide +kernel
theorem pd_4 : parseMethodDescriptor "(I)V" = some ⟨[.int], none⟩ := by decide +kernel
theorem pd_5 : parseMethodDescriptor "(I)Z" = some ⟨[.int], some .boolean⟩ := by decide +kernel
theorem pd_6 : parseMethodDescriptor "()I" = some ⟨[], some .int⟩ := by decide +kernel
theorem d1_0 : decode prog_110_method_1_code 0 = .ok (.aload_n 0, 1) := by decide +kernel
theorem d1_1 : decode prog_110_method_1_code 1 = .ok (.invokespecial 1, 3) := by decide +kernel
theorem d1_4 : decode prog_110_method_1_code 4 = .ok (.aload_n 0, 1) := by decide +kernel
theorem d1_5 : decode prog_110_method_1_code 5 = .ok (.iconst 0, 1) := by decide +kernel
theorem d1_6 : decode prog_110_method_1_code 6 = .ok (.newarray .int, 2) := by decide +kernel
theorem d1_8 : decode prog_110_method_1_code 8 = .ok (.putfield 7, 3) := by decide +kernel
theorem d1_11 : decode prog_110_method_1_code 11 = .ok (.return_, 1) := by decide +kernel
theorem pn_0 : plainName "com/example/signetry/signetry/card/WordFrame" = true := by first | (simp [plainName, overriddenIn]; done) | decide +kernel
theorem ef_1 (m : MethodId) (x0 : Addr) : entryFrame m #[(.ref x0)] 1 = mkF m 0 #[.val (.ref x0)] [] := by first | (simp [entryFrame, mkF, argsToLocals, Value.category]; done) | rfl
def Q1 (Z : State) (a : Addr) (h0 : Heap) (n0 : Nat) (v : Option Value) (h : Heap) (L : List Loc) : Prop := ∃ (b : Addr) (kb : ClassId), v = none ∧ Fr n0 L ∧ Keep h0 h [a] ∧ h0.size ≤ b ∧ Exa Z h a "com/example/signetry/signetry/card/WordFrame" ∧ Fld Z h a "com/example/signetry/signetry/card/WordFrame" "words" "[I" (.ref b) ∧ Fld Z h a "com/example/signetry/signetry/card/WordFrame" "localCount" "I" (.int (0 : Int32)) ∧ Fld Z h a "com/example/signetry/signetry/card/WordFrame" "maxStack" "I" (.int (0 : Int32)) ∧ Fld Z h a "com/example/signetry/signetry/card/WordFrame" "top" "I" (.int (0 : Int32)) ∧ Fld Z h a "com/example/signetry/signetry/card/WordFrame" "thisUninitialized" "Z" (.int (0 : Int32)) ∧ Fld Z h a "com/example/signetry/signetry/card/WordFrame" "localsVersion" "I" (.int (0 : Int32)) ∧ Arv Z h b kb .int (0 : Int32) [] (.int (0 : Int32))
set_option maxRecDepth 65536 in
set_option maxHeartbeats 40000000 in
theorem rm1 (l : Launch) (Z : State) (a0 : Array Value) (hw : ∀ d ∈ tables_1, d.before a0 Z = true) (ws : List Jvm.Cond) (a : Addr) (h0 : Heap) (n0 : Nat) (Z0 : n0 ≤ h0.size) (F_words_a : Fld Z h0 a "com/example/signetry/signetry/card/WordFrame" "words" "[I" .null) (F_localCount_a : Fld Z h0 a "com/example/signetry/signetry/card/WordFrame" "localCount" "I" (.int (0 : Int32))) (F_maxStack_a : Fld Z h0 a "com/example/signetry/signetry/card/WordFrame" "maxStack" "I" (.int (0 : Int32))) (F_top_a : Fld Z h0 a "com/example/signetry/signetry/card/WordFrame" "top" "I" (.int (0 : Int32))) (F_thisUninitialized_a : Fld Z h0 a "com/example/signetry/signetry/card/WordFrame" "thisUninitialized" "Z" (.int (0 : Int32))) (F_localsVersion_a : Fld Z h0 a "com/example/signetry/signetry/card/WordFrame" "localsVersion" "I" (.int (0 : Int32))) (E_a : Exa Z h0 a "com/example/signetry/signetry/card/WordFrame") (g_a : n0 ≤ a) :
    MetFree l (⟨"com/example/signetry/signetry/card/WordFrame", "<init>", "()V"⟩ : MethodName) (head1 (Jvm.Cond.code (⟨"com/example/signetry/signetry/card/WordFrame", "<init>", "()V"⟩ : MethodName) prog_110_method_1_code 1 none :: ws) ({ frames := 1, cells := 1, slots := 0, locals := 12 } : Room)) (fun aS U => aS = #[(.ref a)] ∧ Z.Warmed39 U.vm ∧ U.heap = h0) (fun _ _ _ _ _ => True) (fun _ U o U' => ∃ v L, o = .returned v ∧ Q1 Z a h0 n0 v U'.heap L ∧ FrameEnd U o U' L ({ frames := 1, cells := 1, slots := 0, locals := 12 } : Room).cells ({ frames := 1, cells := 1, slots := 0, locals := 12 } : Room).slots) := by
  refine MetFree.of_bodySF (plainFor_of_name pn_0) hisR ?_
  intro p e s m args below meth c s₁ Bd hml0 hP hK
  obtain ⟨rfl, hZ, hh⟩ := hP
  have hx := Bd.exec
  have hby := Bd.bytes
  have hml : c.maxLocals = 1 := hml0
  have hown : s.vm.findClass "com/example/signetry/signetry/card/WordFrame" = some m.cls := findClass_of_methodNamed Bd.named
  have hnm := (name_of_methodNamed Bd.named Bd.method).1
  have X0 : Stand p l e ({ frames := 1, cells := 1, slots := 0, locals := 12 } : Room) s m #[(.ref a)] below meth c s₁ [] 0 0 := Stand.of_body Bd
  have e0 : s₁.heap = h0 := by rw [← hh, Bd.state]; rfl
  have N0 := Fr.nil n0
  have Kh : Keep h0 h0 [a] := Keep.refl _ _
  suffices H : own_R p e below (own_E s below (Q1 Z a h0 n0) ({ frames := 1, cells := 1, slots := 0, locals := 12 } : Room).cells ({ frames := 1, cells := 1, slots := 0, locals := 12 } : Room).slots) s₁ (mkF m 0 #[.val (.ref a)] []) by
    obtain ⟨t, hst, hrun, v, L, hend, hQ, hF⟩ := H
    exact ⟨t, _, castTop (ef_1 m a) hst, hrun, hend, v, L, rfl, hQ, hF⟩
  show own_R p e below _ s₁ (mkF m 0 #[.val (.ref a)] [])
  refine own_go (fun t k => XS.aloadN X0.here hx rfl (hb hby d1_0) rfl rfl  k) ?_
  show own_R p e below _ s₁ (mkF m 1 #[.val (.ref a)] [(.ref a)])
  obtain ⟨T1, X1, e1, st1⟩ := initO X0 hx hZ hown (hw _ (List.mem_of_getElem? (i := 7) rfl)) (hw _ (List.mem_of_getElem? (i := 8) rfl)) (hw _ (List.mem_of_getElem? (i := 9) rfl)) e0 (g := (mkF m 1 #[.val (.ref a)] [(.ref a)])) rfl (by rw [hml]; rfl) rfl (hb hby d1_1) (by decide) (W := 0) (by show 2 * 0 + _ ≤ _; exact Nat.le_of_eq rfl) (by decide)
  refine own_go (st1) ?_
  show own_R p e below _ T1 (mkF m 4 #[.val (.ref a)] [])
  refine own_go (fun t k => XS.aloadN X1.here hx rfl (hb hby d1_4) rfl rfl  k) ?_
  show own_R p e below _ T1 (mkF m 5 #[.val (.ref a)] [(.ref a)])
  refine own_go (fun t k => XS.iconst X1.here hx rfl (hb hby d1_5) k) ?_
  show own_R p e below _ T1 (mkF m 6 #[.val (.ref a)] [(.int (0 : Int32)), (.ref a)])
  obtain ⟨T2, h2, k2, X2, e2, E2, A2, st2⟩ := newP X1 hx hZ (hw _ (List.mem_of_getElem? (i := 10) rfl)) e1 (g := (mkF m 6 #[.val (.ref a)] [(.int (0 : Int32)), (.ref a)])) rfl (hb hby d1_6) rfl (by decide) (cap := 0) (by decide) (by decide) (by decide) (by decide)
  obtain ⟨b2, g2⟩ : ∃ z, z = h0.size := ⟨_, rfl⟩
  rw [← g2] at A2 st2
  have g_b2 : n0 ≤ b2 := Nat.le_trans (Nat.le_trans Z0 Kh.1) (Nat.le_of_eq g2.symm)
  have sz_b2 : h0.size ≤ b2 := Nat.le_trans Kh.1 (Nat.le_of_eq g2.symm)
  have ne_a_b2 : a ≠ b2 := Nat.ne_of_lt (Nat.lt_of_lt_of_le F_words_a.lt (Nat.le_of_eq g2.symm))
  replace F_words_a := Fld.ext E2 F_words_a
  replace F_localCount_a := Fld.ext E2 F_localCount_a
  replace F_maxStack_a := Fld.ext E2 F_maxStack_a
  replace F_top_a := Fld.ext E2 F_top_a
  replace F_thisUninitialized_a := Fld.ext E2 F_thisUninitialized_a
  replace F_localsVersion_a := Fld.ext E2 F_localsVersion_a
  replace E_a := Exa.ext E2 E_a
  replace Kh := Kh.ext E2
  have V_b2 : Arv Z h2 b2 k2 .int (0 : Int32) [] (.int (0 : Int32)) := (Arv.new A2 (by decide)).pad (pad_rep [] (.int (0 : Int32)) 0)
  refine own_go (st2) ?_
  show own_R p e below _ T2 (mkF m 8 #[.val (.ref a)] [(.ref b2), (.ref a)])
  obtain ⟨T3, h3, X3, e3, W3, st3⟩ := putF X2 hx hZ hown (host := "") (Or.inl (hw _ (List.mem_of_getElem? (i := 11) rfl))) Via.refl e2 F_words_a E_a (Or.inl (hw _ (List.mem_of_getElem? (i := 12) rfl))) (hw _ (List.mem_of_getElem? (i := 2) rfl)) (ty := (.array .int)) (by decide) rfl rfl (g := (mkF m 8 #[.val (.ref a)] [(.ref b2), (.ref a)])) rfl rfl (hb hby d1_8)
  have N3 := Fr.snoc X3 N0 g_a
  replace Kh := Kh.wr W3 (Or.inl (List.mem_of_getElem? (i := 0) rfl))
  replace F_words_a := Fld.same W3 F_words_a
  replace F_localCount_a := Fld.other W3 F_localCount_a (Or.inr (slot_ne (Or.inl (hw _ (List.mem_of_getElem? (i := 26) rfl))) (Or.inl (hw _ (List.mem_of_getElem? (i := 12) rfl))) (by decide) (t := .int) (t' := (.array .int)) (by decide) (by decide)))
  replace F_maxStack_a := Fld.other W3 F_maxStack_a (Or.inr (slot_ne (Or.inl (hw _ (List.mem_of_getElem? (i := 28) rfl))) (Or.inl (hw _ (List.mem_of_getElem? (i := 12) rfl))) (by decide) (t := .int) (t' := (.array .int)) (by decide) (by decide)))
  replace F_top_a := Fld.other W3 F_top_a (Or.inr (slot_ne (Or.inl (hw _ (List.mem_of_getElem? (i := 30) rfl))) (Or.inl (hw _ (List.mem_of_getElem? (i := 12) rfl))) (by decide) (t := .int) (t' := (.array .int)) (by decide) (by decide)))
  replace F_thisUninitialized_a := Fld.other W3 F_thisUninitialized_a (Or.inr (slot_ne (Or.inl (hw _ (List.mem_of_getElem? (i := 32) rfl))) (Or.inl (hw _ (List.mem_of_getElem? (i := 12) rfl))) (by decide) (t := .boolean) (t' := (.array .int)) (by decide) (by decide)))
  replace F_localsVersion_a := Fld.other W3 F_localsVersion_a (Or.inr (slot_ne (Or.inl (hw _ (List.mem_of_getElem? (i := 34) rfl))) (Or.inl (hw _ (List.mem_of_getElem? (i := 12) rfl))) (by decide) (t := .int) (t' := (.array .int)) (by decide) (by decide)))
  replace E_a := Exa.wr W3 E_a
  replace V_b2 := Arv.other V_b2 W3 (Ne.symm ne_a_b2)
  refine own_go (st3) ?_
  show own_R p e below _ T3 (mkF m 11 #[.val (.ref a)] [])
  refine own_retV X3 hx Bd.returns (BodyLoose.notSynchronized Bd) (hb hby d1_11) (by decide) (by decide) ?_
  rw [e3]
  exact ⟨b2, k2, rfl, N3, Kh, sz_b2, E_a, F_words_a, F_localCount_a, F_maxStack_a, F_top_a, F_thisUninitialized_a, F_localsVersion_a, V_b2⟩
theorem d5_0 : decode jdk_65_method_30_code 0 = .ok (.iload_n 1, 1) := by decide +kernel
theorem d5_1 : decode jdk_65_method_30_code 1 = .ok (.iload_n 2, 1) := by decide +kernel
theorem d5_2 : decode jdk_65_method_30_code 2 = .ok (.if_icmp .le 44, 3) := by decide +kernel
theorem d5_46 : decode jdk_65_method_30_code 46 = .ok (.iload_n 1, 1) := by decide +kernel
theorem d5_47 : decode jdk_65_method_30_code 47 = .ok (.ifCond .ge 12, 3) := by decide +kernel
theorem d5_59 : decode jdk_65_method_30_code 59 = .ok (.iload_n 2, 1) := by decide +kernel
theorem d5_60 : decode jdk_65_method_30_code 60 = .ok (.iload_n 0, 1) := by decide +kernel
theorem d5_61 : decode jdk_65_method_30_code 61 = .ok (.if_icmp .le 12, 3) := by decide +kernel
theorem d5_73 : decode jdk_65_method_30_code 73 = .ok (.return_, 1) := by decide +kernel
theorem pn_1 : plainName "java/util/Arrays" = true := by first | (simp [plainName, overriddenIn]; done) | decide +kernel
theorem ef_rc4 (m : MethodId)  : entryFrame m #[(.int (4 : Int32)), (.int (0 : Int32)), (.int (2 : Int32))] 3 = mkF m 0 #[.val (.int (4 : Int32)), .val (.int (0 : Int32)), .val (.int (2 : Int32))] [] := by first | (simp [entryFrame, mkF, argsToLocals, Value.category]; done) | rfl
def Qrc4 (Z : State)  (h0 : Heap) (n0 : Nat) (v : Option Value) (h : Heap) (L : List Loc) : Prop := v = none ∧ Fr n0 L ∧ h = h0
set_option maxRecDepth 65536 in
set_option maxHeartbeats 40000000 in
theorem rmrc4 (l : Launch) (Z : State) (a0 : Array Value) (hw : ∀ d ∈ tables_1, d.before a0 Z = true) (ws : List Jvm.Cond)  (h0 : Heap) (n0 : Nat) (Z0 : n0 ≤ h0.size) :
    MetFree l (⟨"java/util/Arrays", "rangeCheck", "(III)V"⟩ : MethodName) (head1 (Jvm.Cond.code (⟨"java/util/Arrays", "rangeCheck", "(III)V"⟩ : MethodName) jdk_65_method_30_code 3 none :: ws) ({ frames := 0, cells := 0, slots := 0, locals := 0 } : Room)) (fun aS U => aS = #[(.int (4 : Int32)), (.int (0 : Int32)), (.int (2 : Int32))] ∧ Z.Warmed39 U.vm ∧ U.heap = h0) (fun _ _ _ _ _ => True) (fun _ U o U' => ∃ v L, o = .returned v ∧ Qrc4 Z  h0 n0 v U'.heap L ∧ FrameEnd U o U' L ({ frames := 0, cells := 0, slots := 0, locals := 0 } : Room).cells ({ frames := 0, cells := 0, slots := 0, locals := 0 } : Room).slots) := by
  refine MetFree.of_bodySF (plainFor_of_name pn_1) hisR ?_
  intro p e s m args below meth c s₁ Bd hml0 hP hK
  obtain ⟨rfl, hZ, hh⟩ := hP
  have hx := Bd.exec
  have hby := Bd.bytes
  have hml : c.maxLocals = 3 := hml0
  have hown : s.vm.findClass "java/util/Arrays" = some m.cls := findClass_of_methodNamed Bd.named
  have hnm := (name_of_methodNamed Bd.named Bd.method).1
  have X0 : Stand p l e ({ frames := 0, cells := 0, slots := 0, locals := 0 } : Room) s m #[(.int (4 : Int32)), (.int (0 : Int32)), (.int (2 : Int32))] below meth c s₁ [] 0 0 := Stand.of_body Bd
  have e0 : s₁.heap = h0 := by rw [← hh, Bd.state]; rfl
  have N0 := Fr.nil n0
  have Kh : Keep h0 h0 [] := Keep.refl _ _
  suffices H : own_R p e below (own_E s below (Qrc4 Z  h0 n0) ({ frames := 0, cells := 0, slots := 0, locals := 0 } : Room).cells ({ frames := 0, cells := 0, slots := 0, locals := 0 } : Room).slots) s₁ (mkF m 0 #[.val (.int (4 : Int32)), .val (.int (0 : Int32)), .val (.int (2 : Int32))] []) by
    obtain ⟨t, hst, hrun, v, L, hend, hQ, hF⟩ := H
    exact ⟨t, _, castTop (ef_rc4 m ) hst, hrun, hend, v, L, rfl, hQ, hF⟩
  show own_R p e below _ s₁ (mkF m 0 #[.val (.int (4 : Int32)), .val (.int (0 : Int32)), .val (.int (2 : Int32))] [])
  refine own_go (fun t k => XS.iloadN X0.here hx rfl (hb hby d5_0) rfl  k) ?_
  show own_R p e below _ s₁ (mkF m 1 #[.val (.int (4 : Int32)), .val (.int (0 : Int32)), .val (.int (2 : Int32))] [(.int (0 : Int32))])
  refine own_go (fun t k => XS.iloadN X0.here hx rfl (hb hby d5_1) rfl  k) ?_
  show own_R p e below _ s₁ (mkF m 2 #[.val (.int (4 : Int32)), .val (.int (0 : Int32)), .val (.int (2 : Int32))] [(.int (2 : Int32)), (.int (0 : Int32))])
  refine own_go (fun t k => XS.icmpYes X0.here hx rfl (pc0 := 2) (pc' := 46) rfl (hb hby d5_2) rfl (flt (by decide : ¬ ((2 : Int32) < (0 : Int32)))).2.2.2 (by decide) (by decide) k) ?_
  show own_R p e below _ s₁ (mkF m 46 #[.val (.int (4 : Int32)), .val (.int (0 : Int32)), .val (.int (2 : Int32))] [])
  refine own_go (fun t k => XS.iloadN X0.here hx rfl (hb hby d5_46) rfl  k) ?_
  show own_R p e below _ s₁ (mkF m 47 #[.val (.int (4 : Int32)), .val (.int (0 : Int32)), .val (.int (2 : Int32))] [(.int (0 : Int32))])
  refine own_go (fun t k => XS.ifYes X0.here hx rfl (pc0 := 47) (pc' := 59) rfl (hb hby d5_47) rfl ((if0 _ _).trans (flt (by decide : ¬ ((0 : Int32) < (0 : Int32)))).2.1) (by decide) (by decide) k) ?_
  show own_R p e below _ s₁ (mkF m 59 #[.val (.int (4 : Int32)), .val (.int (0 : Int32)), .val (.int (2 : Int32))] [])
  refine own_go (fun t k => XS.iloadN X0.here hx rfl (hb hby d5_59) rfl  k) ?_
  show own_R p e below _ s₁ (mkF m 60 #[.val (.int (4 : Int32)), .val (.int (0 : Int32)), .val (.int (2 : Int32))] [(.int (2 : Int32))])
  refine own_go (fun t k => XS.iloadN X0.here hx rfl (hb hby d5_60) rfl  k) ?_
  show own_R p e below _ s₁ (mkF m 61 #[.val (.int (4 : Int32)), .val (.int (0 : Int32)), .val (.int (2 : Int32))] [(.int (4 : Int32)), (.int (2 : Int32))])
  refine own_go (fun t k => XS.icmpYes X0.here hx rfl (pc0 := 61) (pc' := 73) rfl (hb hby d5_61) rfl (flt (by decide : ¬ ((4 : Int32) < (2 : Int32)))).2.2.2 (by decide) (by decide) k) ?_
  show own_R p e below _ s₁ (mkF m 73 #[.val (.int (4 : Int32)), .val (.int (0 : Int32)), .val (.int (2 : Int32))] [])
  refine own_retV X0 hx Bd.returns (BodyLoose.notSynchronized Bd) (hb hby d5_73) (by decide) (by decide) ?_
  exact ⟨rfl, N0, e0⟩
theorem d4_0 : decode jdk_65_method_104_code 0 = .ok (.aload_n 0, 1) := by decide +kernel
theorem d4_1 : decode jdk_65_method_104_code 1 = .ok (.arraylength, 1) := by decide +kernel
theorem d4_2 : decode jdk_65_method_104_code 2 = .ok (.iload_n 1, 1) := by decide +kernel
theorem d4_3 : decode jdk_65_method_104_code 3 = .ok (.iload_n 2, 1) := by decide +kernel
theorem d4_4 : decode jdk_65_method_104_code 4 = .ok (.invokestatic 13, 3) := by decide +kernel
theorem d4_7 : decode jdk_65_method_104_code 7 = .ok (.iload_n 1, 1) := by decide +kernel
theorem d4_8 : decode jdk_65_method_104_code 8 = .ok (.istore 4, 2) := by decide +kernel
theorem d4_10 : decode jdk_65_method_104_code 10 = .ok (.iload 4, 2) := by decide +kernel
theorem d4_12 : decode jdk_65_method_104_code 12 = .ok (.iload_n 2, 1) := by decide +kernel
theorem d4_13 : decode jdk_65_method_104_code 13 = .ok (.if_icmp .ge 14, 3) := by decide +kernel
theorem d4_16 : decode jdk_65_method_104_code 16 = .ok (.aload_n 0, 1) := by decide +kernel
theorem d4_17 : decode jdk_65_method_104_code 17 = .ok (.iload 4, 2) := by decide +kernel
theorem d4_19 : decode jdk_65_method_104_code 19 = .ok (.iload_n 3, 1) := by decide +kernel
theorem d4_20 : decode jdk_65_method_104_code 20 = .ok (.iastore, 1) := by decide +kernel
theorem d4_21 : decode jdk_65_method_104_code 21 = .ok (.iinc 4 1, 3) := by decide +kernel
theorem d4_24 : decode jdk_65_method_104_code 24 = .ok (.goto (-14), 3) := by decide +kernel
theorem d4_27 : decode jdk_65_method_104_code 27 = .ok (.return_, 1) := by decide +kernel
theorem ef_4 (m : MethodId) (x0 : Addr) : entryFrame m #[(.ref x0), (.int (0 : Int32)), (.int (2 : Int32)), (.int (0 : Int32))] 5 = mkF m 0 #[.val (.ref x0), .val (.int (0 : Int32)), .val (.int (2 : Int32)), .val (.int (0 : Int32)), .unset] [] := by first | (simp [entryFrame, mkF, argsToLocals, Value.category]; done) | rfl
def Q4 (Z : State) (w : Addr) (kw : ClassId) (h0 : Heap) (n0 : Nat) (v : Option Value) (h : Heap) (L : List Loc) : Prop := v = none ∧ Fr n0 L ∧ Keep h0 h [w] ∧ Arv Z h w kw .int (4 : Int32) [(.int (0 : Int32)), (.int (0 : Int32)), (.int (0 : Int32)), (.int (0 : Int32))] (.int (0 : Int32))
set_option maxRecDepth 65536 in
set_option maxHeartbeats 40000000 in
theorem rm4 (l : Launch) (Z : State) (a0 : Array Value) (hw : ∀ d ∈ tables_1, d.before a0 Z = true) (ws : List Jvm.Cond) (w : Addr) (kw : ClassId) (h0 : Heap) (n0 : Nat) (Z0 : n0 ≤ h0.size) (V_w : Arv Z h0 w kw .int (4 : Int32) [(.int (0 : Int32)), (.int (0 : Int32)), (.int (0 : Int32)), (.int (0 : Int32))] (.int (0 : Int32))) (g_w : n0 ≤ w) :
    MetFree l (⟨"java/util/Arrays", "fill", "([IIII)V"⟩ : MethodName) (head1 (Jvm.Cond.code (⟨"java/util/Arrays", "fill", "([IIII)V"⟩ : MethodName) jdk_65_method_104_code 5 none :: ws) ({ frames := 1, cells := 0, slots := 0, locals := 14 } : Room)) (fun aS U => aS = #[(.ref w), (.int (0 : Int32)), (.int (2 : Int32)), (.int (0 : Int32))] ∧ Z.Warmed39 U.vm ∧ U.heap = h0) (fun _ _ _ _ _ => True) (fun _ U o U' => ∃ v L, o = .returned v ∧ Q4 Z w kw h0 n0 v U'.heap L ∧ FrameEnd U o U' L ({ frames := 1, cells := 0, slots := 0, locals := 14 } : Room).cells ({ frames := 1, cells := 0, slots := 0, locals := 14 } : Room).slots) := by
  refine MetFree.of_bodySF (plainFor_of_name pn_1) hisR ?_
  intro p e s m args below meth c s₁ Bd hml0 hP hK
  obtain ⟨rfl, hZ, hh⟩ := hP
  have hx := Bd.exec
  have hby := Bd.bytes
  have hml : c.maxLocals = 5 := hml0
  have hown : s.vm.findClass "java/util/Arrays" = some m.cls := findClass_of_methodNamed Bd.named
  have hnm := (name_of_methodNamed Bd.named Bd.method).1
  have X0 : Stand p l e ({ frames := 1, cells := 0, slots := 0, locals := 14 } : Room) s m #[(.ref w), (.int (0 : Int32)), (.int (2 : Int32)), (.int (0 : Int32))] below meth c s₁ [] 0 0 := Stand.of_body Bd
  have e0 : s₁.heap = h0 := by rw [← hh, Bd.state]; rfl
  have N0 := Fr.nil n0
  have Kh : Keep h0 h0 [w] := Keep.refl _ _
  suffices H : own_R p e below (own_E s below (Q4 Z w kw h0 n0) ({ frames := 1, cells := 0, slots := 0, locals := 14 } : Room).cells ({ frames := 1, cells := 0, slots := 0, locals := 14 } : Room).slots) s₁ (mkF m 0 #[.val (.ref w), .val (.int (0 : Int32)), .val (.int (2 : Int32)), .val (.int (0 : Int32)), .unset] []) by
    obtain ⟨t, hst, hrun, v, L, hend, hQ, hF⟩ := H
    exact ⟨t, _, castTop (ef_4 m w) hst, hrun, hend, v, L, rfl, hQ, hF⟩
  show own_R p e below _ s₁ (mkF m 0 #[.val (.ref w), .val (.int (0 : Int32)), .val (.int (2 : Int32)), .val (.int (0 : Int32)), .unset] [])
  refine own_go (fun t k => XS.aloadN X0.here hx rfl (hb hby d4_0) rfl rfl  k) ?_
  show own_R p e below _ s₁ (mkF m 1 #[.val (.ref w), .val (.int (0 : Int32)), .val (.int (2 : Int32)), .val (.int (0 : Int32)), .unset] [(.ref w)])
  obtain ⟨cl1, Ar1, q1, S1, Nn1, Hh1, G1⟩ := id V_w
  refine own_go (X0.arraylength hx (by rw [e0]; exact Ar1.1) (State.isArrayOf_alike hZ.alike Ar1.2.1) (g := (mkF m 1 #[.val (.ref w), .val (.int (0 : Int32)), .val (.int (2 : Int32)), .val (.int (0 : Int32)), .unset] [(.ref w)])) rfl rfl (hb hby d4_1)) ?_
  rw [len_of S1 Nn1]
  show own_R p e below _ s₁ (mkF m 2 #[.val (.ref w), .val (.int (0 : Int32)), .val (.int (2 : Int32)), .val (.int (0 : Int32)), .unset] [(.int (4 : Int32))])
  refine own_go (fun t k => XS.iloadN X0.here hx rfl (hb hby d4_2) rfl  k) ?_
  show own_R p e below _ s₁ (mkF m 3 #[.val (.ref w), .val (.int (0 : Int32)), .val (.int (2 : Int32)), .val (.int (0 : Int32)), .unset] [(.int (0 : Int32)), (.int (4 : Int32))])
  refine own_go (fun t k => XS.iloadN X0.here hx rfl (hb hby d4_3) rfl  k) ?_
  show own_R p e below _ s₁ (mkF m 4 #[.val (.ref w), .val (.int (0 : Int32)), .val (.int (2 : Int32)), .val (.int (0 : Int32)), .unset] [(.int (2 : Int32)), (.int (0 : Int32)), (.int (4 : Int32))])
  obtain ⟨_, _, ⟨T2, L2, k2, n2⟩, -, X2, ⟨Lc2, hQ2, l2, y2, z2⟩, st2⟩ := Jvm.LawKit.callS X0 hx (y := (⟨"java/util/Arrays", "rangeCheck", "(III)V"⟩ : MethodName)) hown (mvT hZ (hw _ (List.mem_of_getElem? (i := 22) rfl))) (mvT hZ (hw _ (List.mem_of_getElem? (i := 23) rfl))) (mvT hZ (hw _ (List.mem_of_getElem? (i := 20) rfl))) (mvT hZ (hw _ (List.mem_of_getElem? (i := 24) rfl))) (by decide) (backOf (W := 0) (rmrc4 l Z a0 hw []  h0 n0 (Nat.le_trans Z0 Kh.1)) hZ (hw _ (List.mem_of_getElem? (i := 24) rfl)) (hw _ (List.mem_of_getElem? (i := 20) rfl)) (by decide) (by decide)) (g := (mkF m 4 #[.val (.ref w), .val (.int (0 : Int32)), .val (.int (2 : Int32)), .val (.int (0 : Int32)), .unset] [(.int (2 : Int32)), (.int (0 : Int32)), (.int (4 : Int32))])) rfl (by rw [hml]; rfl) (argsL := [(.int (4 : Int32)), (.int (0 : Int32)), (.int (2 : Int32))]) (rest := []) (lenOf pd_3 rfl) rfl (by show 2 * 0 + _ ≤ _; exact Nat.le_of_eq rfl) (hb hby d4_4) (fun _ _ => ⟨rfl, e0, (by decide : 0 + 0 ≤ _), (by decide : 0 + 0 ≤ _)⟩)
  dsimp only [Pt.U, Pt.locs, Pt.cells, Pt.slots] at X2 l2 y2 z2 st2 hQ2
  subst l2 y2 z2
  obtain ⟨rfl, Nq2, e2⟩ := hQ2
  have N2 := Fr.app N0 Nq2
  refine own_go (st2) ?_
  show own_R p e below _ T2 (mkF m 7 #[.val (.ref w), .val (.int (0 : Int32)), .val (.int (2 : Int32)), .val (.int (0 : Int32)), .unset] [])
  refine own_go (fun t k => XS.iloadN X2.here hx rfl (hb hby d4_7) rfl  k) ?_
  show own_R p e below _ T2 (mkF m 8 #[.val (.ref w), .val (.int (0 : Int32)), .val (.int (2 : Int32)), .val (.int (0 : Int32)), .unset] [(.int (0 : Int32))])
  refine own_go (fun t k => XS.istore X2.here hx rfl (hb hby d4_8) rfl (l' := #[.val (.ref w), .val (.int (0 : Int32)), .val (.int (2 : Int32)), .val (.int (0 : Int32)), .val (.int (0 : Int32))]) rfl k) ?_
  show own_R p e below _ T2 (mkF m 10 #[.val (.ref w), .val (.int (0 : Int32)), .val (.int (2 : Int32)), .val (.int (0 : Int32)), .val (.int (0 : Int32))] [])
  refine own_go (fun t k => XS.iload X2.here hx rfl (hb hby d4_10) rfl  k) ?_
  show own_R p e below _ T2 (mkF m 12 #[.val (.ref w), .val (.int (0 : Int32)), .val (.int (2 : Int32)), .val (.int (0 : Int32)), .val (.int (0 : Int32))] [(.int (0 : Int32))])
  refine own_go (fun t k => XS.iloadN X2.here hx rfl (hb hby d4_12) rfl  k) ?_
  show own_R p e below _ T2 (mkF m 13 #[.val (.ref w), .val (.int (0 : Int32)), .val (.int (2 : Int32)), .val (.int (0 : Int32)), .val (.int (0 : Int32))] [(.int (2 : Int32)), (.int (0 : Int32))])
  refine own_go (fun t k => XS.icmpNo X2.here hx rfl (hb hby d4_13) rfl (tlt (by decide : (0 : Int32) < (2 : Int32))).2.1 k) ?_
  show own_R p e below _ T2 (mkF m 16 #[.val (.ref w), .val (.int (0 : Int32)), .val (.int (2 : Int32)), .val (.int (0 : Int32)), .val (.int (0 : Int32))] [])
  refine own_go (fun t k => XS.aloadN X2.here hx rfl (hb hby d4_16) rfl rfl  k) ?_
  show own_R p e below _ T2 (mkF m 17 #[.val (.ref w), .val (.int (0 : Int32)), .val (.int (2 : Int32)), .val (.int (0 : Int32)), .val (.int (0 : Int32))] [(.ref w)])
  refine own_go (fun t k => XS.iload X2.here hx rfl (hb hby d4_17) rfl  k) ?_
  show own_R p e below _ T2 (mkF m 19 #[.val (.ref w), .val (.int (0 : Int32)), .val (.int (2 : Int32)), .val (.int (0 : Int32)), .val (.int (0 : Int32))] [(.int (0 : Int32)), (.ref w)])
  refine own_go (fun t k => XS.iloadN X2.here hx rfl (hb hby d4_19) rfl  k) ?_
  show own_R p e below _ T2 (mkF m 20 #[.val (.ref w), .val (.int (0 : Int32)), .val (.int (2 : Int32)), .val (.int (0 : Int32)), .val (.int (0 : Int32))] [(.int (0 : Int32)), (.int (0 : Int32)), (.ref w)])
  obtain ⟨cl3, Ar3, q3, S3, Nn3, Hh3, G3⟩ := id V_w
  have hin3 : ¬ ((0 : Int32) < 0 ∨ cl3.slots.size ≤ ((0 : Int32)).toNatClampNeg) := inb_of S3 ⟨by decide, by decide⟩
  obtain ⟨T4, h4, X4, e4, W4, st4⟩ := stI X2 hx hZ e2 Ar3 (j := (0 : Int32)) hin3 (g := (mkF m 20 #[.val (.ref w), .val (.int (0 : Int32)), .val (.int (2 : Int32)), .val (.int (0 : Int32)), .val (.int (0 : Int32))] [(.int (0 : Int32)), (.int (0 : Int32)), (.ref w)])) rfl rfl (hb hby d4_20)
  have N4 := Fr.snoc X4 N2 g_w
  replace Kh := Kh.wr W4 (Or.inl (List.mem_of_getElem? (i := 0) rfl))
  have V_w_4 : Arv Z h4 w kw .int (4 : Int32) [(.int (0 : Int32)), (.int (0 : Int32)), (.int (0 : Int32)), (.int (0 : Int32))] (.int (0 : Int32)) := Arv.set Ar3 q3 S3 Nn3 Hh3 G3 rfl W4 0 rfl (Nat.le_of_ble_eq_true rfl)
  refine own_go (st4) ?_
  show own_R p e below _ T4 (mkF m 21 #[.val (.ref w), .val (.int (0 : Int32)), .val (.int (2 : Int32)), .val (.int (0 : Int32)), .val (.int (0 : Int32))] [])
  refine own_go (fun t k => XS.iinc X4.here hx rfl (hb hby d4_21) rfl (l' := #[.val (.ref w), .val (.int (0 : Int32)), .val (.int (2 : Int32)), .val (.int (0 : Int32)), .val (.int (1 : Int32))]) rfl k) ?_
  show own_R p e below _ T4 (mkF m 24 #[.val (.ref w), .val (.int (0 : Int32)), .val (.int (2 : Int32)), .val (.int (0 : Int32)), .val (.int (1 : Int32))] [])
  refine own_go (fun t k => XS.goto X4.here hx rfl (pc0 := 24) (pc' := 10) rfl (hb hby d4_24) (by decide) (by decide) k) ?_
  show own_R p e below _ T4 (mkF m 10 #[.val (.ref w), .val (.int (0 : Int32)), .val (.int (2 : Int32)), .val (.int (0 : Int32)), .val (.int (1 : Int32))] [])
  refine own_go (fun t k => XS.iload X4.here hx rfl (hb hby d4_10) rfl  k) ?_
  show own_R p e below _ T4 (mkF m 12 #[.val (.ref w), .val (.int (0 : Int32)), .val (.int (2 : Int32)), .val (.int (0 : Int32)), .val (.int (1 : Int32))] [(.int (1 : Int32))])
  refine own_go (fun t k => XS.iloadN X4.here hx rfl (hb hby d4_12) rfl  k) ?_
  show own_R p e below _ T4 (mkF m 13 #[.val (.ref w), .val (.int (0 : Int32)), .val (.int (2 : Int32)), .val (.int (0 : Int32)), .val (.int (1 : Int32))] [(.int (2 : Int32)), (.int (1 : Int32))])
  refine own_go (fun t k => XS.icmpNo X4.here hx rfl (hb hby d4_13) rfl (tlt (by decide : (1 : Int32) < (2 : Int32))).2.1 k) ?_
  show own_R p e below _ T4 (mkF m 16 #[.val (.ref w), .val (.int (0 : Int32)), .val (.int (2 : Int32)), .val (.int (0 : Int32)), .val (.int (1 : Int32))] [])
  refine own_go (fun t k => XS.aloadN X4.here hx rfl (hb hby d4_16) rfl rfl  k) ?_
  show own_R p e below _ T4 (mkF m 17 #[.val (.ref w), .val (.int (0 : Int32)), .val (.int (2 : Int32)), .val (.int (0 : Int32)), .val (.int (1 : Int32))] [(.ref w)])
  refine own_go (fun t k => XS.iload X4.here hx rfl (hb hby d4_17) rfl  k) ?_
  show own_R p e below _ T4 (mkF m 19 #[.val (.ref w), .val (.int (0 : Int32)), .val (.int (2 : Int32)), .val (.int (0 : Int32)), .val (.int (1 : Int32))] [(.int (1 : Int32)), (.ref w)])
  refine own_go (fun t k => XS.iloadN X4.here hx rfl (hb hby d4_19) rfl  k) ?_
  show own_R p e below _ T4 (mkF m 20 #[.val (.ref w), .val (.int (0 : Int32)), .val (.int (2 : Int32)), .val (.int (0 : Int32)), .val (.int (1 : Int32))] [(.int (0 : Int32)), (.int (1 : Int32)), (.ref w)])
  obtain ⟨cl5, Ar5, q5, S5, Nn5, Hh5, G5⟩ := id V_w_4
  have hin5 : ¬ ((1 : Int32) < 0 ∨ cl5.slots.size ≤ ((1 : Int32)).toNatClampNeg) := inb_of S5 ⟨by decide, by decide⟩
  obtain ⟨T6, h6, X6, e6, W6, st6⟩ := stI X4 hx hZ e4 Ar5 (j := (1 : Int32)) hin5 (g := (mkF m 20 #[.val (.ref w), .val (.int (0 : Int32)), .val (.int (2 : Int32)), .val (.int (0 : Int32)), .val (.int (1 : Int32))] [(.int (0 : Int32)), (.int (1 : Int32)), (.ref w)])) rfl rfl (hb hby d4_20)
  have N6 := Fr.snoc X6 N4 g_w
  replace Kh := Kh.wr W6 (Or.inl (List.mem_of_getElem? (i := 0) rfl))
  have V_w_6 : Arv Z h6 w kw .int (4 : Int32) [(.int (0 : Int32)), (.int (0 : Int32)), (.int (0 : Int32)), (.int (0 : Int32))] (.int (0 : Int32)) := Arv.set Ar5 q5 S5 Nn5 Hh5 G5 rfl W6 1 rfl (Nat.le_of_ble_eq_true rfl)
  refine own_go (st6) ?_
  show own_R p e below _ T6 (mkF m 21 #[.val (.ref w), .val (.int (0 : Int32)), .val (.int (2 : Int32)), .val (.int (0 : Int32)), .val (.int (1 : Int32))] [])
  refine own_go (fun t k => XS.iinc X6.here hx rfl (hb hby d4_21) rfl (l' := #[.val (.ref w), .val (.int (0 : Int32)), .val (.int (2 : Int32)), .val (.int (0 : Int32)), .val (.int (2 : Int32))]) rfl k) ?_
  show own_R p e below _ T6 (mkF m 24 #[.val (.ref w), .val (.int (0 : Int32)), .val (.int (2 : Int32)), .val (.int (0 : Int32)), .val (.int (2 : Int32))] [])
  refine own_go (fun t k => XS.goto X6.here hx rfl (pc0 := 24) (pc' := 10) rfl (hb hby d4_24) (by decide) (by decide) k) ?_
  show own_R p e below _ T6 (mkF m 10 #[.val (.ref w), .val (.int (0 : Int32)), .val (.int (2 : Int32)), .val (.int (0 : Int32)), .val (.int (2 : Int32))] [])
  refine own_go (fun t k => XS.iload X6.here hx rfl (hb hby d4_10) rfl  k) ?_
  show own_R p e below _ T6 (mkF m 12 #[.val (.ref w), .val (.int (0 : Int32)), .val (.int (2 : Int32)), .val (.int (0 : Int32)), .val (.int (2 : Int32))] [(.int (2 : Int32))])
  refine own_go (fun t k => XS.iloadN X6.here hx rfl (hb hby d4_12) rfl  k) ?_
  show own_R p e below _ T6 (mkF m 13 #[.val (.ref w), .val (.int (0 : Int32)), .val (.int (2 : Int32)), .val (.int (0 : Int32)), .val (.int (2 : Int32))] [(.int (2 : Int32)), (.int (2 : Int32))])
  refine own_go (fun t k => XS.icmpYes X6.here hx rfl (pc0 := 13) (pc' := 27) rfl (hb hby d4_13) rfl (flt (by decide : ¬ ((2 : Int32) < (2 : Int32)))).2.1 (by decide) (by decide) k) ?_
  show own_R p e below _ T6 (mkF m 27 #[.val (.ref w), .val (.int (0 : Int32)), .val (.int (2 : Int32)), .val (.int (0 : Int32)), .val (.int (2 : Int32))] [])
  refine own_retV X6 hx Bd.returns (BodyLoose.notSynchronized Bd) (hb hby d4_27) (by decide) (by decide) ?_
  rw [e6]
  exact ⟨rfl, N6, Kh, V_w_6⟩
theorem d3_0 : decode prog_110_method_2_code 0 = .ok (.aload_n 0, 1) := by decide +kernel
theorem d3_1 : decode prog_110_method_2_code 1 = .ok (.getfield 7, 3) := by decide +kernel
theorem d3_4 : decode prog_110_method_2_code 4 = .ok (.arraylength, 1) := by decide +kernel
theorem d3_5 : decode prog_110_method_2_code 5 = .ok (.iload_n 1, 1) := by decide +kernel
theorem d3_6 : decode prog_110_method_2_code 6 = .ok (.iload_n 2, 1) := by decide +kernel
theorem d3_7 : decode prog_110_method_2_code 7 = .ok (.iadd, 1) := by decide +kernel
theorem d3_8 : decode prog_110_method_2_code 8 = .ok (.if_icmp .ge 12, 3) := by decide +kernel
theorem d3_11 : decode prog_110_method_2_code 11 = .ok (.aload_n 0, 1) := by decide +kernel
theorem d3_12 : decode prog_110_method_2_code 12 = .ok (.iload_n 1, 1) := by decide +kernel
theorem d3_13 : decode prog_110_method_2_code 13 = .ok (.iload_n 2, 1) := by decide +kernel
theorem d3_14 : decode prog_110_method_2_code 14 = .ok (.iadd, 1) := by decide +kernel
theorem d3_15 : decode prog_110_method_2_code 15 = .ok (.newarray .int, 2) := by decide +kernel
theorem d3_17 : decode prog_110_method_2_code 17 = .ok (.putfield 7, 3) := by decide +kernel
theorem d3_20 : decode prog_110_method_2_code 20 = .ok (.aload_n 0, 1) := by decide +kernel
theorem d3_21 : decode prog_110_method_2_code 21 = .ok (.getfield 7, 3) := by decide +kernel
theorem d3_24 : decode prog_110_method_2_code 24 = .ok (.iconst 0, 1) := by decide +kernel
theorem d3_25 : decode prog_110_method_2_code 25 = .ok (.iload_n 1, 1) := by decide +kernel
theorem d3_26 : decode prog_110_method_2_code 26 = .ok (.iconst 0, 1) := by decide +kernel
theorem d3_27 : decode prog_110_method_2_code 27 = .ok (.invokestatic 15, 3) := by decide +kernel
theorem d3_30 : decode prog_110_method_2_code 30 = .ok (.aload_n 0, 1) := by decide +kernel
theorem d3_31 : decode prog_110_method_2_code 31 = .ok (.iload_n 1, 1) := by decide +kernel
theorem d3_32 : decode prog_110_method_2_code 32 = .ok (.putfield 21, 3) := by decide +kernel
theorem d3_35 : decode prog_110_method_2_code 35 = .ok (.aload_n 0, 1) := by decide +kernel
theorem d3_36 : decode prog_110_method_2_code 36 = .ok (.iload_n 2, 1) := by decide +kernel
theorem d3_37 : decode prog_110_method_2_code 37 = .ok (.putfield 25, 3) := by decide +kernel
theorem d3_40 : decode prog_110_method_2_code 40 = .ok (.aload_n 0, 1) := by decide +kernel
theorem d3_41 : decode prog_110_method_2_code 41 = .ok (.iload_n 1, 1) := by decide +kernel
theorem d3_42 : decode prog_110_method_2_code 42 = .ok (.putfield 28, 3) := by decide +kernel
theorem d3_45 : decode prog_110_method_2_code 45 = .ok (.aload_n 0, 1) := by decide +kernel
theorem d3_46 : decode prog_110_method_2_code 46 = .ok (.iconst 0, 1) := by decide +kernel
theorem d3_47 : decode prog_110_method_2_code 47 = .ok (.putfield 31, 3) := by decide +kernel
theorem d3_50 : decode prog_110_method_2_code 50 = .ok (.aload_n 0, 1) := by decide +kernel
theorem d3_51 : decode prog_110_method_2_code 51 = .ok (.dup, 1) := by decide +kernel
theorem d3_52 : decode prog_110_method_2_code 52 = .ok (.getfield 35, 3) := by decide +kernel
theorem d3_55 : decode prog_110_method_2_code 55 = .ok (.iconst 1, 1) := by decide +kernel
theorem d3_56 : decode prog_110_method_2_code 56 = .ok (.iadd, 1) := by decide +kernel
theorem d3_57 : decode prog_110_method_2_code 57 = .ok (.putfield 35, 3) := by decide +kernel
theorem d3_60 : decode prog_110_method_2_code 60 = .ok (.return_, 1) := by decide +kernel
theorem ef_3 (m : MethodId) (x0 : Addr) : entryFrame m #[(.ref x0), (.int (2 : Int32)), (.int (2 : Int32))] 3 = mkF m 0 #[.val (.ref x0), .val (.int (2 : Int32)), .val (.int (2 : Int32))] [] := by first | (simp [entryFrame, mkF, argsToLocals, Value.category]; done) | rfl
def Q3 (Z : State) (a : Addr) (w : Addr) (kw : ClassId) (h0 : Heap) (n0 : Nat) (v : Option Value) (h : Heap) (L : List Loc) : Prop := ∃ (b : Addr) (kb : ClassId), v = none ∧ Fr n0 L ∧ Keep h0 h [a] ∧ h0.size ≤ b ∧ Exa Z h a "com/example/signetry/signetry/card/WordFrame" ∧ Fld Z h a "com/example/signetry/signetry/card/WordFrame" "words" "[I" (.ref b) ∧ Fld Z h a "com/example/signetry/signetry/card/WordFrame" "localCount" "I" (.int (2 : Int32)) ∧ Fld Z h a "com/example/signetry/signetry/card/WordFrame" "maxStack" "I" (.int (2 : Int32)) ∧ Fld Z h a "com/example/signetry/signetry/card/WordFrame" "top" "I" (.int (2 : Int32)) ∧ Fld Z h a "com/example/signetry/signetry/card/WordFrame" "thisUninitialized" "Z" (.int (0 : Int32)) ∧ Fld Z h a "com/example/signetry/signetry/card/WordFrame" "localsVersion" "I" (.int (1 : Int32)) ∧ Arv Z h b kb .int (4 : Int32) [(.int (0 : Int32)), (.int (0 : Int32)), (.int (0 : Int32)), (.int (0 : Int32))] (.int (0 : Int32))
set_option maxRecDepth 65536 in
set_option maxHeartbeats 40000000 in
theorem rm3 (l : Launch) (Z : State) (a0 : Array Value) (hw : ∀ d ∈ tables_1, d.before a0 Z = true) (ws : List Jvm.Cond) (a : Addr) (w : Addr) (kw : ClassId) (h0 : Heap) (n0 : Nat) (Z0 : n0 ≤ h0.size) (F_words_a : Fld Z h0 a "com/example/signetry/signetry/card/WordFrame" "words" "[I" (.ref w)) (F_localCount_a : Fld Z h0 a "com/example/signetry/signetry/card/WordFrame" "localCount" "I" (.int (0 : Int32))) (F_maxStack_a : Fld Z h0 a "com/example/signetry/signetry/card/WordFrame" "maxStack" "I" (.int (0 : Int32))) (F_top_a : Fld Z h0 a "com/example/signetry/signetry/card/WordFrame" "top" "I" (.int (0 : Int32))) (F_thisUninitialized_a : Fld Z h0 a "com/example/signetry/signetry/card/WordFrame" "thisUninitialized" "Z" (.int (0 : Int32))) (F_localsVersion_a : Fld Z h0 a "com/example/signetry/signetry/card/WordFrame" "localsVersion" "I" (.int (0 : Int32))) (E_a : Exa Z h0 a "com/example/signetry/signetry/card/WordFrame") (V_w : Arv Z h0 w kw .int (0 : Int32) [] (.int (0 : Int32))) (g_a : n0 ≤ a) (ne_a_w : a ≠ w) :
    MetFree l (⟨"com/example/signetry/signetry/card/WordFrame", "reset", "(II)V"⟩ : MethodName) (head1 (Jvm.Cond.code (⟨"com/example/signetry/signetry/card/WordFrame", "reset", "(II)V"⟩ : MethodName) prog_110_method_2_code 3 none :: ws) ({ frames := 2, cells := 1, slots := 4, locals := 30 } : Room)) (fun aS U => aS = #[(.ref a), (.int (2 : Int32)), (.int (2 : Int32))] ∧ Z.Warmed39 U.vm ∧ U.heap = h0) (fun _ _ _ _ _ => True) (fun _ U o U' => ∃ v L, o = .returned v ∧ Q3 Z a w kw h0 n0 v U'.heap L ∧ FrameEnd U o U' L ({ frames := 2, cells := 1, slots := 4, locals := 30 } : Room).cells ({ frames := 2, cells := 1, slots := 4, locals := 30 } : Room).slots) := by
  refine MetFree.of_bodySF (plainFor_of_name pn_0) hisR ?_
  intro p e s m args below meth c s₁ Bd hml0 hP hK
  obtain ⟨rfl, hZ, hh⟩ := hP
  have hx := Bd.exec
  have hby := Bd.bytes
  have hml : c.maxLocals = 3 := hml0
  have hown : s.vm.findClass "com/example/signetry/signetry/card/WordFrame" = some m.cls := findClass_of_methodNamed Bd.named
  have hnm := (name_of_methodNamed Bd.named Bd.method).1
  have X0 : Stand p l e ({ frames := 2, cells := 1, slots := 4, locals := 30 } : Room) s m #[(.ref a), (.int (2 : Int32)), (.int (2 : Int32))] below meth c s₁ [] 0 0 := Stand.of_body Bd
  have e0 : s₁.heap = h0 := by rw [← hh, Bd.state]; rfl
  have N0 := Fr.nil n0
  have Kh : Keep h0 h0 [a] := Keep.refl _ _
  suffices H : own_R p e below (own_E s below (Q3 Z a w kw h0 n0) ({ frames := 2, cells := 1, slots := 4, locals := 30 } : Room).cells ({ frames := 2, cells := 1, slots := 4, locals := 30 } : Room).slots) s₁ (mkF m 0 #[.val (.ref a), .val (.int (2 : Int32)), .val (.int (2 : Int32))] []) by
    obtain ⟨t, hst, hrun, v, L, hend, hQ, hF⟩ := H
    exact ⟨t, _, castTop (ef_3 m a) hst, hrun, hend, v, L, rfl, hQ, hF⟩
  show own_R p e below _ s₁ (mkF m 0 #[.val (.ref a), .val (.int (2 : Int32)), .val (.int (2 : Int32))] [])
  refine own_go (fun t k => XS.aloadN X0.here hx rfl (hb hby d3_0) rfl rfl  k) ?_
  show own_R p e below _ s₁ (mkF m 1 #[.val (.ref a), .val (.int (2 : Int32)), .val (.int (2 : Int32))] [(.ref a)])
  obtain ⟨T1, X1, e1, st1⟩ := getF X0 hx hZ hown (host := "") (Or.inl (hw _ (List.mem_of_getElem? (i := 11) rfl))) Via.refl e0 F_words_a (g := (mkF m 1 #[.val (.ref a), .val (.int (2 : Int32)), .val (.int (2 : Int32))] [(.ref a)])) rfl rfl (hb hby d3_1)
  refine own_go (st1) ?_
  show own_R p e below _ T1 (mkF m 4 #[.val (.ref a), .val (.int (2 : Int32)), .val (.int (2 : Int32))] [(.ref w)])
  obtain ⟨cl2, Ar2, q2, S2, Nn2, Hh2, G2⟩ := id V_w
  refine own_go (X1.arraylength hx (by rw [e1]; exact Ar2.1) (State.isArrayOf_alike hZ.alike Ar2.2.1) (g := (mkF m 4 #[.val (.ref a), .val (.int (2 : Int32)), .val (.int (2 : Int32))] [(.ref w)])) rfl rfl (hb hby d3_4)) ?_
  rw [len_of S2 Nn2]
  show own_R p e below _ T1 (mkF m 5 #[.val (.ref a), .val (.int (2 : Int32)), .val (.int (2 : Int32))] [(.int (0 : Int32))])
  refine own_go (fun t k => XS.iloadN X1.here hx rfl (hb hby d3_5) rfl  k) ?_
  show own_R p e below _ T1 (mkF m 6 #[.val (.ref a), .val (.int (2 : Int32)), .val (.int (2 : Int32))] [(.int (2 : Int32)), (.int (0 : Int32))])
  refine own_go (fun t k => XS.iloadN X1.here hx rfl (hb hby d3_6) rfl  k) ?_
  show own_R p e below _ T1 (mkF m 7 #[.val (.ref a), .val (.int (2 : Int32)), .val (.int (2 : Int32))] [(.int (2 : Int32)), (.int (2 : Int32)), (.int (0 : Int32))])
  refine own_go (fun t k => XS.iadd X1.here hx rfl (hb hby d3_7) rfl k) ?_
  show own_R p e below _ T1 (mkF m 8 #[.val (.ref a), .val (.int (2 : Int32)), .val (.int (2 : Int32))] [(.int (4 : Int32)), (.int (0 : Int32))])
  refine own_go (fun t k => XS.icmpNo X1.here hx rfl (hb hby d3_8) rfl (tlt (by decide : (0 : Int32) < (4 : Int32))).2.1 k) ?_
  show own_R p e below _ T1 (mkF m 11 #[.val (.ref a), .val (.int (2 : Int32)), .val (.int (2 : Int32))] [])
  refine own_go (fun t k => XS.aloadN X1.here hx rfl (hb hby d3_11) rfl rfl  k) ?_
  show own_R p e below _ T1 (mkF m 12 #[.val (.ref a), .val (.int (2 : Int32)), .val (.int (2 : Int32))] [(.ref a)])
  refine own_go (fun t k => XS.iloadN X1.here hx rfl (hb hby d3_12) rfl  k) ?_
  show own_R p e below _ T1 (mkF m 13 #[.val (.ref a), .val (.int (2 : Int32)), .val (.int (2 : Int32))] [(.int (2 : Int32)), (.ref a)])
  refine own_go (fun t k => XS.iloadN X1.here hx rfl (hb hby d3_13) rfl  k) ?_
  show own_R p e below _ T1 (mkF m 14 #[.val (.ref a), .val (.int (2 : Int32)), .val (.int (2 : Int32))] [(.int (2 : Int32)), (.int (2 : Int32)), (.ref a)])
  refine own_go (fun t k => XS.iadd X1.here hx rfl (hb hby d3_14) rfl k) ?_
  show own_R p e below _ T1 (mkF m 15 #[.val (.ref a), .val (.int (2 : Int32)), .val (.int (2 : Int32))] [(.int (4 : Int32)), (.ref a)])
  obtain ⟨T3, h3, k3, X3, e3, E3, A3, st3⟩ := newP X1 hx hZ (hw _ (List.mem_of_getElem? (i := 10) rfl)) e1 (g := (mkF m 15 #[.val (.ref a), .val (.int (2 : Int32)), .val (.int (2 : Int32))] [(.int (4 : Int32)), (.ref a)])) rfl (hb hby d3_15) rfl (by decide) (cap := 4) (by decide) (by decide) (by decide) (by decide)
  obtain ⟨b3, g3⟩ : ∃ z, z = h0.size := ⟨_, rfl⟩
  rw [← g3] at A3 st3
  have g_b3 : n0 ≤ b3 := Nat.le_trans (Nat.le_trans Z0 Kh.1) (Nat.le_of_eq g3.symm)
  have sz_b3 : h0.size ≤ b3 := Nat.le_trans Kh.1 (Nat.le_of_eq g3.symm)
  have ne_a_b3 : a ≠ b3 := Nat.ne_of_lt (Nat.lt_of_lt_of_le F_words_a.lt (Nat.le_of_eq g3.symm))
  have ne_w_b3 : w ≠ b3 := Nat.ne_of_lt (Nat.lt_of_lt_of_le V_w.lt (Nat.le_of_eq g3.symm))
  replace F_words_a := Fld.ext E3 F_words_a
  replace F_localCount_a := Fld.ext E3 F_localCount_a
  replace F_maxStack_a := Fld.ext E3 F_maxStack_a
  replace F_top_a := Fld.ext E3 F_top_a
  replace F_thisUninitialized_a := Fld.ext E3 F_thisUninitialized_a
  replace F_localsVersion_a := Fld.ext E3 F_localsVersion_a
  replace E_a := Exa.ext E3 E_a
  replace V_w := V_w.ext E3
  replace Kh := Kh.ext E3
  have V_b3 : Arv Z h3 b3 k3 .int (4 : Int32) [(.int (0 : Int32)), (.int (0 : Int32)), (.int (0 : Int32)), (.int (0 : Int32))] (.int (0 : Int32)) := (Arv.new A3 (by decide)).pad (pad_rep [] (.int (0 : Int32)) 4)
  refine own_go (st3) ?_
  show own_R p e below _ T3 (mkF m 17 #[.val (.ref a), .val (.int (2 : Int32)), .val (.int (2 : Int32))] [(.ref b3), (.ref a)])
  obtain ⟨T4, h4, X4, e4, W4, st4⟩ := putF X3 hx hZ hown (host := "") (Or.inl (hw _ (List.mem_of_getElem? (i := 11) rfl))) Via.refl e3 F_words_a E_a (Or.inl (hw _ (List.mem_of_getElem? (i := 12) rfl))) (hw _ (List.mem_of_getElem? (i := 2) rfl)) (ty := (.array .int)) (by decide) rfl rfl (g := (mkF m 17 #[.val (.ref a), .val (.int (2 : Int32)), .val (.int (2 : Int32))] [(.ref b3), (.ref a)])) rfl rfl (hb hby d3_17)
  have N4 := Fr.snoc X4 N0 g_a
  replace Kh := Kh.wr W4 (Or.inl (List.mem_of_getElem? (i := 0) rfl))
  replace F_words_a := Fld.same W4 F_words_a
  replace F_localCount_a := Fld.other W4 F_localCount_a (Or.inr (slot_ne (Or.inl (hw _ (List.mem_of_getElem? (i := 26) rfl))) (Or.inl (hw _ (List.mem_of_getElem? (i := 12) rfl))) (by decide) (t := .int) (t' := (.array .int)) (by decide) (by decide)))
  replace F_maxStack_a := Fld.other W4 F_maxStack_a (Or.inr (slot_ne (Or.inl (hw _ (List.mem_of_getElem? (i := 28) rfl))) (Or.inl (hw _ (List.mem_of_getElem? (i := 12) rfl))) (by decide) (t := .int) (t' := (.array .int)) (by decide) (by decide)))
  replace F_top_a := Fld.other W4 F_top_a (Or.inr (slot_ne (Or.inl (hw _ (List.mem_of_getElem? (i := 30) rfl))) (Or.inl (hw _ (List.mem_of_getElem? (i := 12) rfl))) (by decide) (t := .int) (t' := (.array .int)) (by decide) (by decide)))
  replace F_thisUninitialized_a := Fld.other W4 F_thisUninitialized_a (Or.inr (slot_ne (Or.inl (hw _ (List.mem_of_getElem? (i := 32) rfl))) (Or.inl (hw _ (List.mem_of_getElem? (i := 12) rfl))) (by decide) (t := .boolean) (t' := (.array .int)) (by decide) (by decide)))
  replace F_localsVersion_a := Fld.other W4 F_localsVersion_a (Or.inr (slot_ne (Or.inl (hw _ (List.mem_of_getElem? (i := 34) rfl))) (Or.inl (hw _ (List.mem_of_getElem? (i := 12) rfl))) (by decide) (t := .int) (t' := (.array .int)) (by decide) (by decide)))
  replace E_a := Exa.wr W4 E_a
  replace V_w := Arv.other V_w W4 (Ne.symm ne_a_w)
  replace V_b3 := Arv.other V_b3 W4 (Ne.symm ne_a_b3)
  refine own_go (st4) ?_
  show own_R p e below _ T4 (mkF m 20 #[.val (.ref a), .val (.int (2 : Int32)), .val (.int (2 : Int32))] [])
  refine own_go (fun t k => XS.aloadN X4.here hx rfl (hb hby d3_20) rfl rfl  k) ?_
  show own_R p e below _ T4 (mkF m 21 #[.val (.ref a), .val (.int (2 : Int32)), .val (.int (2 : Int32))] [(.ref a)])
  obtain ⟨T5, X5, e5, st5⟩ := getF X4 hx hZ hown (host := "") (Or.inl (hw _ (List.mem_of_getElem? (i := 11) rfl))) Via.refl e4 F_words_a (g := (mkF m 21 #[.val (.ref a), .val (.int (2 : Int32)), .val (.int (2 : Int32))] [(.ref a)])) rfl rfl (hb hby d3_21)
  refine own_go (st5) ?_
  show own_R p e below _ T5 (mkF m 24 #[.val (.ref a), .val (.int (2 : Int32)), .val (.int (2 : Int32))] [(.ref b3)])
  refine own_go (fun t k => XS.iconst X5.here hx rfl (hb hby d3_24) k) ?_
  show own_R p e below _ T5 (mkF m 25 #[.val (.ref a), .val (.int (2 : Int32)), .val (.int (2 : Int32))] [(.int (0 : Int32)), (.ref b3)])
  refine own_go (fun t k => XS.iloadN X5.here hx rfl (hb hby d3_25) rfl  k) ?_
  show own_R p e below _ T5 (mkF m 26 #[.val (.ref a), .val (.int (2 : Int32)), .val (.int (2 : Int32))] [(.int (2 : Int32)), (.int (0 : Int32)), (.ref b3)])
  refine own_go (fun t k => XS.iconst X5.here hx rfl (hb hby d3_26) k) ?_
  show own_R p e below _ T5 (mkF m 27 #[.val (.ref a), .val (.int (2 : Int32)), .val (.int (2 : Int32))] [(.int (0 : Int32)), (.int (2 : Int32)), (.int (0 : Int32)), (.ref b3)])
  obtain ⟨_, _, ⟨T6, L6, k6, n6⟩, -, X6, ⟨Lc6, hQ6, l6, y6, z6⟩, st6⟩ := Jvm.LawKit.callS X5 hx (y := (⟨"java/util/Arrays", "fill", "([IIII)V"⟩ : MethodName)) hown (mvT hZ (hw _ (List.mem_of_getElem? (i := 18) rfl))) (mvT hZ (hw _ (List.mem_of_getElem? (i := 19) rfl))) (mvT hZ (hw _ (List.mem_of_getElem? (i := 20) rfl))) (mvT hZ (hw _ (List.mem_of_getElem? (i := 21) rfl))) (by decide) (backOf (W := 0) (rm4 l Z a0 hw [] b3 k3 h4 n0 (Nat.le_trans Z0 Kh.1) V_b3 g_b3) hZ (hw _ (List.mem_of_getElem? (i := 21) rfl)) (hw _ (List.mem_of_getElem? (i := 20) rfl)) (by decide) (by decide)) (g := (mkF m 27 #[.val (.ref a), .val (.int (2 : Int32)), .val (.int (2 : Int32))] [(.int (0 : Int32)), (.int (2 : Int32)), (.int (0 : Int32)), (.ref b3)])) rfl (by rw [hml]; rfl) (argsL := [(.ref b3), (.int (0 : Int32)), (.int (2 : Int32)), (.int (0 : Int32))]) (rest := []) (lenOf pd_2 rfl) rfl (by show 2 * 0 + _ ≤ _; exact Nat.le_of_eq rfl) (hb hby d3_27) (fun _ _ => ⟨rfl, e5, (by decide : 1 + 0 ≤ _), (by decide : 4 + 0 ≤ _)⟩)
  dsimp only [Pt.U, Pt.locs, Pt.cells, Pt.slots] at X6 l6 y6 z6 st6 hQ6
  subst l6 y6 z6
  obtain ⟨rfl, Nq6, K6, V6_w⟩ := hQ6
  have N6 := Fr.app N4 Nq6
  obtain ⟨h6, e6⟩ : ∃ z, T6.heap = z := ⟨_, rfl⟩
  rw [e6] at K6 V6_w
  replace F_words_a := F_words_a.keep K6 (ninS ne_a_b3 nin0)
  replace F_localCount_a := F_localCount_a.keep K6 (ninS ne_a_b3 nin0)
  replace F_maxStack_a := F_maxStack_a.keep K6 (ninS ne_a_b3 nin0)
  replace F_top_a := F_top_a.keep K6 (ninS ne_a_b3 nin0)
  replace F_thisUninitialized_a := F_thisUninitialized_a.keep K6 (ninS ne_a_b3 nin0)
  replace F_localsVersion_a := F_localsVersion_a.keep K6 (ninS ne_a_b3 nin0)
  replace E_a := Exa.keep E_a K6
  replace V_w := V_w.keep K6 (ninS ne_w_b3 nin0)
  replace Kh := Kh.trans K6 (allS (Or.inr sz_b3) all0)
  refine own_go (st6) ?_
  show own_R p e below _ T6 (mkF m 30 #[.val (.ref a), .val (.int (2 : Int32)), .val (.int (2 : Int32))] [])
  refine own_go (fun t k => XS.aloadN X6.here hx rfl (hb hby d3_30) rfl rfl  k) ?_
  show own_R p e below _ T6 (mkF m 31 #[.val (.ref a), .val (.int (2 : Int32)), .val (.int (2 : Int32))] [(.ref a)])
  refine own_go (fun t k => XS.iloadN X6.here hx rfl (hb hby d3_31) rfl  k) ?_
  show own_R p e below _ T6 (mkF m 32 #[.val (.ref a), .val (.int (2 : Int32)), .val (.int (2 : Int32))] [(.int (2 : Int32)), (.ref a)])
  obtain ⟨T7, h7, X7, e7, W7, st7⟩ := putF X6 hx hZ hown (host := "") (Or.inl (hw _ (List.mem_of_getElem? (i := 25) rfl))) Via.refl e6 F_localCount_a E_a (Or.inl (hw _ (List.mem_of_getElem? (i := 26) rfl))) (hw _ (List.mem_of_getElem? (i := 2) rfl)) (ty := .int) (by decide) rfl rfl (g := (mkF m 32 #[.val (.ref a), .val (.int (2 : Int32)), .val (.int (2 : Int32))] [(.int (2 : Int32)), (.ref a)])) rfl rfl (hb hby d3_32)
  have N7 := Fr.snoc X7 N6 g_a
  replace Kh := Kh.wr W7 (Or.inl (List.mem_of_getElem? (i := 0) rfl))
  replace F_words_a := Fld.other W7 F_words_a (Or.inr (slot_ne (Or.inl (hw _ (List.mem_of_getElem? (i := 12) rfl))) (Or.inl (hw _ (List.mem_of_getElem? (i := 26) rfl))) (by decide) (t := (.array .int)) (t' := .int) (by decide) (by decide)))
  replace F_localCount_a := Fld.same W7 F_localCount_a
  replace F_maxStack_a := Fld.other W7 F_maxStack_a (Or.inr (slot_ne (Or.inl (hw _ (List.mem_of_getElem? (i := 28) rfl))) (Or.inl (hw _ (List.mem_of_getElem? (i := 26) rfl))) (by decide) (t := .int) (t' := .int) (by decide) (by decide)))
  replace F_top_a := Fld.other W7 F_top_a (Or.inr (slot_ne (Or.inl (hw _ (List.mem_of_getElem? (i := 30) rfl))) (Or.inl (hw _ (List.mem_of_getElem? (i := 26) rfl))) (by decide) (t := .int) (t' := .int) (by decide) (by decide)))
  replace F_thisUninitialized_a := Fld.other W7 F_thisUninitialized_a (Or.inr (slot_ne (Or.inl (hw _ (List.mem_of_getElem? (i := 32) rfl))) (Or.inl (hw _ (List.mem_of_getElem? (i := 26) rfl))) (by decide) (t := .boolean) (t' := .int) (by decide) (by decide)))
  replace F_localsVersion_a := Fld.other W7 F_localsVersion_a (Or.inr (slot_ne (Or.inl (hw _ (List.mem_of_getElem? (i := 34) rfl))) (Or.inl (hw _ (List.mem_of_getElem? (i := 26) rfl))) (by decide) (t := .int) (t' := .int) (by decide) (by decide)))
  replace E_a := Exa.wr W7 E_a
  replace V_w := Arv.other V_w W7 (Ne.symm ne_a_w)
  replace V6_w := Arv.other V6_w W7 (Ne.symm ne_a_b3)
  refine own_go (st7) ?_
  show own_R p e below _ T7 (mkF m 35 #[.val (.ref a), .val (.int (2 : Int32)), .val (.int (2 : Int32))] [])
  refine own_go (fun t k => XS.aloadN X7.here hx rfl (hb hby d3_35) rfl rfl  k) ?_
  show own_R p e below _ T7 (mkF m 36 #[.val (.ref a), .val (.int (2 : Int32)), .val (.int (2 : Int32))] [(.ref a)])
  refine own_go (fun t k => XS.iloadN X7.here hx rfl (hb hby d3_36) rfl  k) ?_
  show own_R p e below _ T7 (mkF m 37 #[.val (.ref a), .val (.int (2 : Int32)), .val (.int (2 : Int32))] [(.int (2 : Int32)), (.ref a)])
  obtain ⟨T8, h8, X8, e8, W8, st8⟩ := putF X7 hx hZ hown (host := "") (Or.inl (hw _ (List.mem_of_getElem? (i := 27) rfl))) Via.refl e7 F_maxStack_a E_a (Or.inl (hw _ (List.mem_of_getElem? (i := 28) rfl))) (hw _ (List.mem_of_getElem? (i := 2) rfl)) (ty := .int) (by decide) rfl rfl (g := (mkF m 37 #[.val (.ref a), .val (.int (2 : Int32)), .val (.int (2 : Int32))] [(.int (2 : Int32)), (.ref a)])) rfl rfl (hb hby d3_37)
  have N8 := Fr.snoc X8 N7 g_a
  replace Kh := Kh.wr W8 (Or.inl (List.mem_of_getElem? (i := 0) rfl))
  replace F_words_a := Fld.other W8 F_words_a (Or.inr (slot_ne (Or.inl (hw _ (List.mem_of_getElem? (i := 12) rfl))) (Or.inl (hw _ (List.mem_of_getElem? (i := 28) rfl))) (by decide) (t := (.array .int)) (t' := .int) (by decide) (by decide)))
  replace F_localCount_a := Fld.other W8 F_localCount_a (Or.inr (slot_ne (Or.inl (hw _ (List.mem_of_getElem? (i := 26) rfl))) (Or.inl (hw _ (List.mem_of_getElem? (i := 28) rfl))) (by decide) (t := .int) (t' := .int) (by decide) (by decide)))
  replace F_maxStack_a := Fld.same W8 F_maxStack_a
  replace F_top_a := Fld.other W8 F_top_a (Or.inr (slot_ne (Or.inl (hw _ (List.mem_of_getElem? (i := 30) rfl))) (Or.inl (hw _ (List.mem_of_getElem? (i := 28) rfl))) (by decide) (t := .int) (t' := .int) (by decide) (by decide)))
  replace F_thisUninitialized_a := Fld.other W8 F_thisUninitialized_a (Or.inr (slot_ne (Or.inl (hw _ (List.mem_of_getElem? (i := 32) rfl))) (Or.inl (hw _ (List.mem_of_getElem? (i := 28) rfl))) (by decide) (t := .boolean) (t' := .int) (by decide) (by decide)))
  replace F_localsVersion_a := Fld.other W8 F_localsVersion_a (Or.inr (slot_ne (Or.inl (hw _ (List.mem_of_getElem? (i := 34) rfl))) (Or.inl (hw _ (List.mem_of_getElem? (i := 28) rfl))) (by decide) (t := .int) (t' := .int) (by decide) (by decide)))
  replace E_a := Exa.wr W8 E_a
  replace V_w := Arv.other V_w W8 (Ne.symm ne_a_w)
  replace V6_w := Arv.other V6_w W8 (Ne.symm ne_a_b3)
  refine own_go (st8) ?_
  show own_R p e below _ T8 (mkF m 40 #[.val (.ref a), .val (.int (2 : Int32)), .val (.int (2 : Int32))] [])
  refine own_go (fun t k => XS.aloadN X8.here hx rfl (hb hby d3_40) rfl rfl  k) ?_
  show own_R p e below _ T8 (mkF m 41 #[.val (.ref a), .val (.int (2 : Int32)), .val (.int (2 : Int32))] [(.ref a)])
  refine own_go (fun t k => XS.iloadN X8.here hx rfl (hb hby d3_41) rfl  k) ?_
  show own_R p e below _ T8 (mkF m 42 #[.val (.ref a), .val (.int (2 : Int32)), .val (.int (2 : Int32))] [(.int (2 : Int32)), (.ref a)])
  obtain ⟨T9, h9, X9, e9, W9, st9⟩ := putF X8 hx hZ hown (host := "") (Or.inl (hw _ (List.mem_of_getElem? (i := 29) rfl))) Via.refl e8 F_top_a E_a (Or.inl (hw _ (List.mem_of_getElem? (i := 30) rfl))) (hw _ (List.mem_of_getElem? (i := 2) rfl)) (ty := .int) (by decide) rfl rfl (g := (mkF m 42 #[.val (.ref a), .val (.int (2 : Int32)), .val (.int (2 : Int32))] [(.int (2 : Int32)), (.ref a)])) rfl rfl (hb hby d3_42)
  have N9 := Fr.snoc X9 N8 g_a
  replace Kh := Kh.wr W9 (Or.inl (List.mem_of_getElem? (i := 0) rfl))
  replace F_words_a := Fld.other W9 F_words_a (Or.inr (slot_ne (Or.inl (hw _ (List.mem_of_getElem? (i := 12) rfl))) (Or.inl (hw _ (List.mem_of_getElem? (i := 30) rfl))) (by decide) (t := (.array .int)) (t' := .int) (by decide) (by decide)))
  replace F_localCount_a := Fld.other W9 F_localCount_a (Or.inr (slot_ne (Or.inl (hw _ (List.mem_of_getElem? (i := 26) rfl))) (Or.inl (hw _ (List.mem_of_getElem? (i := 30) rfl))) (by decide) (t := .int) (t' := .int) (by decide) (by decide)))
  replace F_maxStack_a := Fld.other W9 F_maxStack_a (Or.inr (slot_ne (Or.inl (hw _ (List.mem_of_getElem? (i := 28) rfl))) (Or.inl (hw _ (List.mem_of_getElem? (i := 30) rfl))) (by decide) (t := .int) (t' := .int) (by decide) (by decide)))
  replace F_top_a := Fld.same W9 F_top_a
  replace F_thisUninitialized_a := Fld.other W9 F_thisUninitialized_a (Or.inr (slot_ne (Or.inl (hw _ (List.mem_of_getElem? (i := 32) rfl))) (Or.inl (hw _ (List.mem_of_getElem? (i := 30) rfl))) (by decide) (t := .boolean) (t' := .int) (by decide) (by decide)))
  replace F_localsVersion_a := Fld.other W9 F_localsVersion_a (Or.inr (slot_ne (Or.inl (hw _ (List.mem_of_getElem? (i := 34) rfl))) (Or.inl (hw _ (List.mem_of_getElem? (i := 30) rfl))) (by decide) (t := .int) (t' := .int) (by decide) (by decide)))
  replace E_a := Exa.wr W9 E_a
  replace V_w := Arv.other V_w W9 (Ne.symm ne_a_w)
  replace V6_w := Arv.other V6_w W9 (Ne.symm ne_a_b3)
  refine own_go (st9) ?_
  show own_R p e below _ T9 (mkF m 45 #[.val (.ref a), .val (.int (2 : Int32)), .val (.int (2 : Int32))] [])
  refine own_go (fun t k => XS.aloadN X9.here hx rfl (hb hby d3_45) rfl rfl  k) ?_
  show own_R p e below _ T9 (mkF m 46 #[.val (.ref a), .val (.int (2 : Int32)), .val (.int (2 : Int32))] [(.ref a)])
  refine own_go (fun t k => XS.iconst X9.here hx rfl (hb hby d3_46) k) ?_
  show own_R p e below _ T9 (mkF m 47 #[.val (.ref a), .val (.int (2 : Int32)), .val (.int (2 : Int32))] [(.int (0 : Int32)), (.ref a)])
  obtain ⟨T10, h10, X10, e10, W10, st10⟩ := putFN X9 hx hZ hown (hw _ (List.mem_of_getElem? (i := 31) rfl)) Via.refl e9 F_thisUninitialized_a E_a (Or.inl (hw _ (List.mem_of_getElem? (i := 32) rfl))) (hw _ (List.mem_of_getElem? (i := 2) rfl)) (ty := .boolean) (v' := (.int (0 : Int32))) (by decide) rfl (by decide) (g := (mkF m 47 #[.val (.ref a), .val (.int (2 : Int32)), .val (.int (2 : Int32))] [(.int (0 : Int32)), (.ref a)])) rfl rfl (hb hby d3_47)
  have N10 := Fr.snoc X10 N9 g_a
  replace Kh := Kh.wr W10 (Or.inl (List.mem_of_getElem? (i := 0) rfl))
  replace F_words_a := Fld.other W10 F_words_a (Or.inr (slot_ne (Or.inl (hw _ (List.mem_of_getElem? (i := 12) rfl))) (Or.inl (hw _ (List.mem_of_getElem? (i := 32) rfl))) (by decide) (t := (.array .int)) (t' := .boolean) (by decide) (by decide)))
  replace F_localCount_a := Fld.other W10 F_localCount_a (Or.inr (slot_ne (Or.inl (hw _ (List.mem_of_getElem? (i := 26) rfl))) (Or.inl (hw _ (List.mem_of_getElem? (i := 32) rfl))) (by decide) (t := .int) (t' := .boolean) (by decide) (by decide)))
  replace F_maxStack_a := Fld.other W10 F_maxStack_a (Or.inr (slot_ne (Or.inl (hw _ (List.mem_of_getElem? (i := 28) rfl))) (Or.inl (hw _ (List.mem_of_getElem? (i := 32) rfl))) (by decide) (t := .int) (t' := .boolean) (by decide) (by decide)))
  replace F_top_a := Fld.other W10 F_top_a (Or.inr (slot_ne (Or.inl (hw _ (List.mem_of_getElem? (i := 30) rfl))) (Or.inl (hw _ (List.mem_of_getElem? (i := 32) rfl))) (by decide) (t := .int) (t' := .boolean) (by decide) (by decide)))
  replace F_thisUninitialized_a := Fld.same W10 F_thisUninitialized_a
  replace F_localsVersion_a := Fld.other W10 F_localsVersion_a (Or.inr (slot_ne (Or.inl (hw _ (List.mem_of_getElem? (i := 34) rfl))) (Or.inl (hw _ (List.mem_of_getElem? (i := 32) rfl))) (by decide) (t := .int) (t' := .boolean) (by decide) (by decide)))
  replace E_a := Exa.wr W10 E_a
  replace V_w := Arv.other V_w W10 (Ne.symm ne_a_w)
  replace V6_w := Arv.other V6_w W10 (Ne.symm ne_a_b3)
  refine own_go (st10) ?_
  show own_R p e below _ T10 (mkF m 50 #[.val (.ref a), .val (.int (2 : Int32)), .val (.int (2 : Int32))] [])
  refine own_go (fun t k => XS.aloadN X10.here hx rfl (hb hby d3_50) rfl rfl  k) ?_
  show own_R p e below _ T10 (mkF m 51 #[.val (.ref a), .val (.int (2 : Int32)), .val (.int (2 : Int32))] [(.ref a)])
  refine own_go (fun t k => XS.dup X10.here hx rfl (hb hby d3_51) rfl rfl k) ?_
  show own_R p e below _ T10 (mkF m 52 #[.val (.ref a), .val (.int (2 : Int32)), .val (.int (2 : Int32))] [(.ref a), (.ref a)])
  obtain ⟨T11, X11, e11, st11⟩ := getF X10 hx hZ hown (host := "") (Or.inl (hw _ (List.mem_of_getElem? (i := 33) rfl))) Via.refl e10 F_localsVersion_a (g := (mkF m 52 #[.val (.ref a), .val (.int (2 : Int32)), .val (.int (2 : Int32))] [(.ref a), (.ref a)])) rfl rfl (hb hby d3_52)
  refine own_go (st11) ?_
  show own_R p e below _ T11 (mkF m 55 #[.val (.ref a), .val (.int (2 : Int32)), .val (.int (2 : Int32))] [(.int (0 : Int32)), (.ref a)])
  refine own_go (fun t k => XS.iconst X11.here hx rfl (hb hby d3_55) k) ?_
  show own_R p e below _ T11 (mkF m 56 #[.val (.ref a), .val (.int (2 : Int32)), .val (.int (2 : Int32))] [(.int (1 : Int32)), (.int (0 : Int32)), (.ref a)])
  refine own_go (fun t k => XS.iadd X11.here hx rfl (hb hby d3_56) rfl k) ?_
  show own_R p e below _ T11 (mkF m 57 #[.val (.ref a), .val (.int (2 : Int32)), .val (.int (2 : Int32))] [(.int (1 : Int32)), (.ref a)])
  obtain ⟨T12, h12, X12, e12, W12, st12⟩ := putF X11 hx hZ hown (host := "") (Or.inl (hw _ (List.mem_of_getElem? (i := 33) rfl))) Via.refl e11 F_localsVersion_a E_a (Or.inl (hw _ (List.mem_of_getElem? (i := 34) rfl))) (hw _ (List.mem_of_getElem? (i := 2) rfl)) (ty := .int) (by decide) rfl rfl (g := (mkF m 57 #[.val (.ref a), .val (.int (2 : Int32)), .val (.int (2 : Int32))] [(.int (1 : Int32)), (.ref a)])) rfl rfl (hb hby d3_57)
  have N12 := Fr.snoc X12 N10 g_a
  replace Kh := Kh.wr W12 (Or.inl (List.mem_of_getElem? (i := 0) rfl))
  replace F_words_a := Fld.other W12 F_words_a (Or.inr (slot_ne (Or.inl (hw _ (List.mem_of_getElem? (i := 12) rfl))) (Or.inl (hw _ (List.mem_of_getElem? (i := 34) rfl))) (by decide) (t := (.array .int)) (t' := .int) (by decide) (by decide)))
  replace F_localCount_a := Fld.other W12 F_localCount_a (Or.inr (slot_ne (Or.inl (hw _ (List.mem_of_getElem? (i := 26) rfl))) (Or.inl (hw _ (List.mem_of_getElem? (i := 34) rfl))) (by decide) (t := .int) (t' := .int) (by decide) (by decide)))
  replace F_maxStack_a := Fld.other W12 F_maxStack_a (Or.inr (slot_ne (Or.inl (hw _ (List.mem_of_getElem? (i := 28) rfl))) (Or.inl (hw _ (List.mem_of_getElem? (i := 34) rfl))) (by decide) (t := .int) (t' := .int) (by decide) (by decide)))
  replace F_top_a := Fld.other W12 F_top_a (Or.inr (slot_ne (Or.inl (hw _ (List.mem_of_getElem? (i := 30) rfl))) (Or.inl (hw _ (List.mem_of_getElem? (i := 34) rfl))) (by decide) (t := .int) (t' := .int) (by decide) (by decide)))
  replace F_thisUninitialized_a := Fld.other W12 F_thisUninitialized_a (Or.inr (slot_ne (Or.inl (hw _ (List.mem_of_getElem? (i := 32) rfl))) (Or.inl (hw _ (List.mem_of_getElem? (i := 34) rfl))) (by decide) (t := .boolean) (t' := .int) (by decide) (by decide)))
  replace F_localsVersion_a := Fld.same W12 F_localsVersion_a
  replace E_a := Exa.wr W12 E_a
  replace V_w := Arv.other V_w W12 (Ne.symm ne_a_w)
  replace V6_w := Arv.other V6_w W12 (Ne.symm ne_a_b3)
  refine own_go (st12) ?_
  show own_R p e below _ T12 (mkF m 60 #[.val (.ref a), .val (.int (2 : Int32)), .val (.int (2 : Int32))] [])
  refine own_retV X12 hx Bd.returns (BodyLoose.notSynchronized Bd) (hb hby d3_60) (by decide) (by decide) ?_
  rw [e12]
  exact ⟨b3, k3, rfl, N12, Kh, sz_b3, E_a, F_words_a, F_localCount_a, F_maxStack_a, F_top_a, F_thisUninitialized_a, F_localsVersion_a, V6_w⟩
theorem d7_0 : decode prog_110_method_13_code 0 = .ok (.iload_n 1, 1) := by decide +kernel
theorem d7_1 : decode prog_110_method_13_code 1 = .ok (.aload_n 0, 1) := by decide +kernel
theorem d7_2 : decode prog_110_method_13_code 2 = .ok (.getfield 21, 3) := by decide +kernel
theorem d7_5 : decode prog_110_method_13_code 5 = .ok (.if_icmp .lt 7, 3) := by decide +kernel
theorem d7_12 : decode prog_110_method_13_code 12 = .ok (.return_, 1) := by decide +kernel
theorem ef_rl_st0 (m : MethodId) (x0 : Addr) : entryFrame m #[(.ref x0), (.int (0 : Int32))] 2 = mkF m 0 #[.val (.ref x0), .val (.int (0 : Int32))] [] := by first | (simp [entryFrame, mkF, argsToLocals, Value.category]; done) | rfl
def Qrl_st0 (Z : State) (a : Addr) (w : Addr) (kw : ClassId) (h0 : Heap) (n0 : Nat) (v : Option Value) (h : Heap) (L : List Loc) : Prop := v = none ∧ Fr n0 L ∧ h = h0
set_option maxRecDepth 65536 in
set_option maxHeartbeats 40000000 in
theorem rmrl_st0 (l : Launch) (Z : State) (a0 : Array Value) (hw : ∀ d ∈ tables_1, d.before a0 Z = true) (ws : List Jvm.Cond) (a : Addr) (w : Addr) (kw : ClassId) (h0 : Heap) (n0 : Nat) (Z0 : n0 ≤ h0.size) (F_words_a : Fld Z h0 a "com/example/signetry/signetry/card/WordFrame" "words" "[I" (.ref w)) (F_localCount_a : Fld Z h0 a "com/example/signetry/signetry/card/WordFrame" "localCount" "I" (.int (2 : Int32))) (F_maxStack_a : Fld Z h0 a "com/example/signetry/signetry/card/WordFrame" "maxStack" "I" (.int (2 : Int32))) (F_top_a : Fld Z h0 a "com/example/signetry/signetry/card/WordFrame" "top" "I" (.int (2 : Int32))) (F_thisUninitialized_a : Fld Z h0 a "com/example/signetry/signetry/card/WordFrame" "thisUninitialized" "Z" (.int (0 : Int32))) (F_localsVersion_a : Fld Z h0 a "com/example/signetry/signetry/card/WordFrame" "localsVersion" "I" (.int (1 : Int32))) (E_a : Exa Z h0 a "com/example/signetry/signetry/card/WordFrame") (V_w : Arv Z h0 w kw .int (4 : Int32) [(.int (0 : Int32)), (.int (0 : Int32)), (.int (0 : Int32)), (.int (0 : Int32))] (.int (0 : Int32))) :
    MetFree l (⟨"com/example/signetry/signetry/card/WordFrame", "requireLocal", "(I)V"⟩ : MethodName) (head1 (Jvm.Cond.code (⟨"com/example/signetry/signetry/card/WordFrame", "requireLocal", "(I)V"⟩ : MethodName) prog_110_method_13_code 2 none :: ws) ({ frames := 0, cells := 0, slots := 0, locals := 0 } : Room)) (fun aS U => aS = #[(.ref a), (.int (0 : Int32))] ∧ Z.Warmed39 U.vm ∧ U.heap = h0) (fun _ _ _ _ _ => True) (fun _ U o U' => ∃ v L, o = .returned v ∧ Qrl_st0 Z a w kw h0 n0 v U'.heap L ∧ FrameEnd U o U' L ({ frames := 0, cells := 0, slots := 0, locals := 0 } : Room).cells ({ frames := 0, cells := 0, slots := 0, locals := 0 } : Room).slots) := by
  refine MetFree.of_bodySF (plainFor_of_name pn_0) hisR ?_
  intro p e s m args below meth c s₁ Bd hml0 hP hK
  obtain ⟨rfl, hZ, hh⟩ := hP
  have hx := Bd.exec
  have hby := Bd.bytes
  have hml : c.maxLocals = 2 := hml0
  have hown : s.vm.findClass "com/example/signetry/signetry/card/WordFrame" = some m.cls := findClass_of_methodNamed Bd.named
  have hnm := (name_of_methodNamed Bd.named Bd.method).1
  have X0 : Stand p l e ({ frames := 0, cells := 0, slots := 0, locals := 0 } : Room) s m #[(.ref a), (.int (0 : Int32))] below meth c s₁ [] 0 0 := Stand.of_body Bd
  have e0 : s₁.heap = h0 := by rw [← hh, Bd.state]; rfl
  have N0 := Fr.nil n0
  have Kh : Keep h0 h0 [] := Keep.refl _ _
  suffices H : own_R p e below (own_E s below (Qrl_st0 Z a w kw h0 n0) ({ frames := 0, cells := 0, slots := 0, locals := 0 } : Room).cells ({ frames := 0, cells := 0, slots := 0, locals := 0 } : Room).slots) s₁ (mkF m 0 #[.val (.ref a), .val (.int (0 : Int32))] []) by
    obtain ⟨t, hst, hrun, v, L, hend, hQ, hF⟩ := H
    exact ⟨t, _, castTop (ef_rl_st0 m a) hst, hrun, hend, v, L, rfl, hQ, hF⟩
  show own_R p e below _ s₁ (mkF m 0 #[.val (.ref a), .val (.int (0 : Int32))] [])
  refine own_go (fun t k => XS.iloadN X0.here hx rfl (hb hby d7_0) rfl  k) ?_
  show own_R p e below _ s₁ (mkF m 1 #[.val (.ref a), .val (.int (0 : Int32))] [(.int (0 : Int32))])
  refine own_go (fun t k => XS.aloadN X0.here hx rfl (hb hby d7_1) rfl rfl  k) ?_
  show own_R p e below _ s₁ (mkF m 2 #[.val (.ref a), .val (.int (0 : Int32))] [(.ref a), (.int (0 : Int32))])
  obtain ⟨T1, X1, e1, st1⟩ := getF X0 hx hZ hown (host := "") (Or.inl (hw _ (List.mem_of_getElem? (i := 25) rfl))) Via.refl e0 F_localCount_a (g := (mkF m 2 #[.val (.ref a), .val (.int (0 : Int32))] [(.ref a), (.int (0 : Int32))])) rfl rfl (hb hby d7_2)
  refine own_go (st1) ?_
  show own_R p e below _ T1 (mkF m 5 #[.val (.ref a), .val (.int (0 : Int32))] [(.int (2 : Int32)), (.int (0 : Int32))])
  refine own_go (fun t k => XS.icmpYes X1.here hx rfl (pc0 := 5) (pc' := 12) rfl (hb hby d7_5) rfl (tlt (by decide : (0 : Int32) < (2 : Int32))).1 (by decide) (by decide) k) ?_
  show own_R p e below _ T1 (mkF m 12 #[.val (.ref a), .val (.int (0 : Int32))] [])
  refine own_retV X1 hx Bd.returns (BodyLoose.notSynchronized Bd) (hb hby d7_12) (by decide) (by decide) ?_
  exact ⟨rfl, N0, e1⟩
theorem d8_0 : decode prog_110_method_12_code 0 = .ok (.aload_n 0, 1) := by decide +kernel
theorem d8_1 : decode prog_110_method_12_code 1 = .ok (.getfield 7, 3) := by decide +kernel
theorem d8_4 : decode prog_110_method_12_code 4 = .ok (.iload_n 1, 1) := by decide +kernel
theorem d8_5 : decode prog_110_method_12_code 5 = .ok (.iaload, 1) := by decide +kernel
theorem d8_6 : decode prog_110_method_12_code 6 = .ok (.iconst 2, 1) := by decide +kernel
theorem d8_7 : decode prog_110_method_12_code 7 = .ok (.if_icmp .ne 22, 3) := by decide +kernel
theorem d8_29 : decode prog_110_method_12_code 29 = .ok (.aload_n 0, 1) := by decide +kernel
theorem d8_30 : decode prog_110_method_12_code 30 = .ok (.getfield 7, 3) := by decide +kernel
theorem d8_33 : decode prog_110_method_12_code 33 = .ok (.iload_n 1, 1) := by decide +kernel
theorem d8_34 : decode prog_110_method_12_code 34 = .ok (.iaload, 1) := by decide +kernel
theorem d8_35 : decode prog_110_method_12_code 35 = .ok (.iconst 3, 1) := by decide +kernel
theorem d8_36 : decode prog_110_method_12_code 36 = .ok (.if_icmp .ne 16, 3) := by decide +kernel
theorem d8_52 : decode prog_110_method_12_code 52 = .ok (.return_, 1) := by decide +kernel
theorem ef_iv_st0 (m : MethodId) (x0 : Addr) : entryFrame m #[(.ref x0), (.int (0 : Int32))] 2 = mkF m 0 #[.val (.ref x0), .val (.int (0 : Int32))] [] := by first | (simp [entryFrame, mkF, argsToLocals, Value.category]; done) | rfl
def Qiv_st0 (Z : State) (a : Addr) (w : Addr) (kw : ClassId) (h0 : Heap) (n0 : Nat) (v : Option Value) (h : Heap) (L : List Loc) : Prop := v = none ∧ Fr n0 L ∧ h = h0
set_option maxRecDepth 65536 in
set_option maxHeartbeats 40000000 in
theorem rmiv_st0 (l : Launch) (Z : State) (a0 : Array Value) (hw : ∀ d ∈ tables_1, d.before a0 Z = true) (ws : List Jvm.Cond) (a : Addr) (w : Addr) (kw : ClassId) (h0 : Heap) (n0 : Nat) (Z0 : n0 ≤ h0.size) (F_words_a : Fld Z h0 a "com/example/signetry/signetry/card/WordFrame" "words" "[I" (.ref w)) (F_localCount_a : Fld Z h0 a "com/example/signetry/signetry/card/WordFrame" "localCount" "I" (.int (2 : Int32))) (F_maxStack_a : Fld Z h0 a "com/example/signetry/signetry/card/WordFrame" "maxStack" "I" (.int (2 : Int32))) (F_top_a : Fld Z h0 a "com/example/signetry/signetry/card/WordFrame" "top" "I" (.int (2 : Int32))) (F_thisUninitialized_a : Fld Z h0 a "com/example/signetry/signetry/card/WordFrame" "thisUninitialized" "Z" (.int (0 : Int32))) (F_localsVersion_a : Fld Z h0 a "com/example/signetry/signetry/card/WordFrame" "localsVersion" "I" (.int (1 : Int32))) (E_a : Exa Z h0 a "com/example/signetry/signetry/card/WordFrame") (V_w : Arv Z h0 w kw .int (4 : Int32) [(.int (0 : Int32)), (.int (0 : Int32)), (.int (0 : Int32)), (.int (0 : Int32))] (.int (0 : Int32))) :
    MetFree l (⟨"com/example/signetry/signetry/card/WordFrame", "invalidateIntAround", "(I)V"⟩ : MethodName) (head1 (Jvm.Cond.code (⟨"com/example/signetry/signetry/card/WordFrame", "invalidateIntAround", "(I)V"⟩ : MethodName) prog_110_method_12_code 2 none :: ws) ({ frames := 0, cells := 0, slots := 0, locals := 0 } : Room)) (fun aS U => aS = #[(.ref a), (.int (0 : Int32))] ∧ Z.Warmed39 U.vm ∧ U.heap = h0) (fun _ _ _ _ _ => True) (fun _ U o U' => ∃ v L, o = .returned v ∧ Qiv_st0 Z a w kw h0 n0 v U'.heap L ∧ FrameEnd U o U' L ({ frames := 0, cells := 0, slots := 0, locals := 0 } : Room).cells ({ frames := 0, cells := 0, slots := 0, locals := 0 } : Room).slots) := by
  refine MetFree.of_bodySF (plainFor_of_name pn_0) hisR ?_
  intro p e s m args below meth c s₁ Bd hml0 hP hK
  obtain ⟨rfl, hZ, hh⟩ := hP
  have hx := Bd.exec
  have hby := Bd.bytes
  have hml : c.maxLocals = 2 := hml0
  have hown : s.vm.findClass "com/example/signetry/signetry/card/WordFrame" = some m.cls := findClass_of_methodNamed Bd.named
  have hnm := (name_of_methodNamed Bd.named Bd.method).1
  have X0 : Stand p l e ({ frames := 0, cells := 0, slots := 0, locals := 0 } : Room) s m #[(.ref a), (.int (0 : Int32))] below meth c s₁ [] 0 0 := Stand.of_body Bd
  have e0 : s₁.heap = h0 := by rw [← hh, Bd.state]; rfl
  have N0 := Fr.nil n0
  have Kh : Keep h0 h0 [] := Keep.refl _ _
  suffices H : own_R p e below (own_E s below (Qiv_st0 Z a w kw h0 n0) ({ frames := 0, cells := 0, slots := 0, locals := 0 } : Room).cells ({ frames := 0, cells := 0, slots := 0, locals := 0 } : Room).slots) s₁ (mkF m 0 #[.val (.ref a), .val (.int (0 : Int32))] []) by
    obtain ⟨t, hst, hrun, v, L, hend, hQ, hF⟩ := H
    exact ⟨t, _, castTop (ef_iv_st0 m a) hst, hrun, hend, v, L, rfl, hQ, hF⟩
  show own_R p e below _ s₁ (mkF m 0 #[.val (.ref a), .val (.int (0 : Int32))] [])
  refine own_go (fun t k => XS.aloadN X0.here hx rfl (hb hby d8_0) rfl rfl  k) ?_
  show own_R p e below _ s₁ (mkF m 1 #[.val (.ref a), .val (.int (0 : Int32))] [(.ref a)])
  obtain ⟨T1, X1, e1, st1⟩ := getF X0 hx hZ hown (host := "") (Or.inl (hw _ (List.mem_of_getElem? (i := 11) rfl))) Via.refl e0 F_words_a (g := (mkF m 1 #[.val (.ref a), .val (.int (0 : Int32))] [(.ref a)])) rfl rfl (hb hby d8_1)
  refine own_go (st1) ?_
  show own_R p e below _ T1 (mkF m 4 #[.val (.ref a), .val (.int (0 : Int32))] [(.ref w)])
  refine own_go (fun t k => XS.iloadN X1.here hx rfl (hb hby d8_4) rfl  k) ?_
  show own_R p e below _ T1 (mkF m 5 #[.val (.ref a), .val (.int (0 : Int32))] [(.int (0 : Int32)), (.ref w)])
  obtain ⟨cl2, Ar2, q2, S2, Nn2, Hh2, G2⟩ := id V_w
  have hin2 : ¬ ((0 : Int32) < 0 ∨ cl2.slots.size ≤ ((0 : Int32)).toNatClampNeg) := inb_of S2 ⟨by decide, by decide⟩
  have hat2 : cl2.slots[((0 : Int32)).toNatClampNeg]? = some (.int (0 : Int32)) := Has.at Hh2 hin2 rfl
  refine own_go (X1.iaload hx (j := (0 : Int32)) (v := (.int (0 : Int32))) (by rw [e1]; exact Ar2.1) (State.isArrayOf_alike hZ.alike Ar2.2.1) Ar2.2.2 hin2 hat2 (g := (mkF m 5 #[.val (.ref a), .val (.int (0 : Int32))] [(.int (0 : Int32)), (.ref w)])) rfl rfl (hb hby d8_5)) ?_
  show own_R p e below _ T1 (mkF m 6 #[.val (.ref a), .val (.int (0 : Int32))] [(.int (0 : Int32))])
  refine own_go (fun t k => XS.iconst X1.here hx rfl (hb hby d8_6) k) ?_
  show own_R p e below _ T1 (mkF m 7 #[.val (.ref a), .val (.int (0 : Int32))] [(.int (2 : Int32)), (.int (0 : Int32))])
  refine own_go (fun t k => XS.icmpYes X1.here hx rfl (pc0 := 7) (pc' := 29) rfl (hb hby d8_7) rfl (feq (by decide : ¬ ((0 : Int32) = (2 : Int32)))).2 (by decide) (by decide) k) ?_
  show own_R p e below _ T1 (mkF m 29 #[.val (.ref a), .val (.int (0 : Int32))] [])
  refine own_go (fun t k => XS.aloadN X1.here hx rfl (hb hby d8_29) rfl rfl  k) ?_
  show own_R p e below _ T1 (mkF m 30 #[.val (.ref a), .val (.int (0 : Int32))] [(.ref a)])
  obtain ⟨T3, X3, e3, st3⟩ := getF X1 hx hZ hown (host := "") (Or.inl (hw _ (List.mem_of_getElem? (i := 11) rfl))) Via.refl e1 F_words_a (g := (mkF m 30 #[.val (.ref a), .val (.int (0 : Int32))] [(.ref a)])) rfl rfl (hb hby d8_30)
  refine own_go (st3) ?_
  show own_R p e below _ T3 (mkF m 33 #[.val (.ref a), .val (.int (0 : Int32))] [(.ref w)])
  refine own_go (fun t k => XS.iloadN X3.here hx rfl (hb hby d8_33) rfl  k) ?_
  show own_R p e below _ T3 (mkF m 34 #[.val (.ref a), .val (.int (0 : Int32))] [(.int (0 : Int32)), (.ref w)])
  obtain ⟨cl4, Ar4, q4, S4, Nn4, Hh4, G4⟩ := id V_w
  have hin4 : ¬ ((0 : Int32) < 0 ∨ cl4.slots.size ≤ ((0 : Int32)).toNatClampNeg) := inb_of S4 ⟨by decide, by decide⟩
  have hat4 : cl4.slots[((0 : Int32)).toNatClampNeg]? = some (.int (0 : Int32)) := Has.at Hh4 hin4 rfl
  refine own_go (X3.iaload hx (j := (0 : Int32)) (v := (.int (0 : Int32))) (by rw [e3]; exact Ar4.1) (State.isArrayOf_alike hZ.alike Ar4.2.1) Ar4.2.2 hin4 hat4 (g := (mkF m 34 #[.val (.ref a), .val (.int (0 : Int32))] [(.int (0 : Int32)), (.ref w)])) rfl rfl (hb hby d8_34)) ?_
  show own_R p e below _ T3 (mkF m 35 #[.val (.ref a), .val (.int (0 : Int32))] [(.int (0 : Int32))])
  refine own_go (fun t k => XS.iconst X3.here hx rfl (hb hby d8_35) k) ?_
  show own_R p e below _ T3 (mkF m 36 #[.val (.ref a), .val (.int (0 : Int32))] [(.int (3 : Int32)), (.int (0 : Int32))])
  refine own_go (fun t k => XS.icmpYes X3.here hx rfl (pc0 := 36) (pc' := 52) rfl (hb hby d8_36) rfl (feq (by decide : ¬ ((0 : Int32) = (3 : Int32)))).2 (by decide) (by decide) k) ?_
  show own_R p e below _ T3 (mkF m 52 #[.val (.ref a), .val (.int (0 : Int32))] [])
  refine own_retV X3 hx Bd.returns (BodyLoose.notSynchronized Bd) (hb hby d8_52) (by decide) (by decide) ?_
  exact ⟨rfl, N0, e3⟩
theorem d6_0 : decode prog_110_method_10_code 0 = .ok (.aload_n 0, 1) := by decide +kernel
theorem d6_1 : decode prog_110_method_10_code 1 = .ok (.iload_n 1, 1) := by decide +kernel
theorem d6_2 : decode prog_110_method_10_code 2 = .ok (.invokevirtual 38, 3) := by decide +kernel
theorem d6_5 : decode prog_110_method_10_code 5 = .ok (.aload_n 0, 1) := by decide +kernel
theorem d6_6 : decode prog_110_method_10_code 6 = .ok (.iload_n 1, 1) := by decide +kernel
theorem d6_7 : decode prog_110_method_10_code 7 = .ok (.invokevirtual 42, 3) := by decide +kernel
theorem d6_10 : decode prog_110_method_10_code 10 = .ok (.aload_n 0, 1) := by decide +kernel
theorem d6_11 : decode prog_110_method_10_code 11 = .ok (.getfield 7, 3) := by decide +kernel
theorem d6_14 : decode prog_110_method_10_code 14 = .ok (.iload_n 1, 1) := by decide +kernel
theorem d6_15 : decode prog_110_method_10_code 15 = .ok (.iload_n 2, 1) := by decide +kernel
theorem d6_16 : decode prog_110_method_10_code 16 = .ok (.iastore, 1) := by decide +kernel
theorem d6_17 : decode prog_110_method_10_code 17 = .ok (.aload_n 0, 1) := by decide +kernel
theorem d6_18 : decode prog_110_method_10_code 18 = .ok (.dup, 1) := by decide +kernel
theorem d6_19 : decode prog_110_method_10_code 19 = .ok (.getfield 35, 3) := by decide +kernel
theorem d6_22 : decode prog_110_method_10_code 22 = .ok (.iconst 1, 1) := by decide +kernel
theorem d6_23 : decode prog_110_method_10_code 23 = .ok (.iadd, 1) := by decide +kernel
theorem d6_24 : decode prog_110_method_10_code 24 = .ok (.putfield 35, 3) := by decide +kernel
theorem d6_27 : decode prog_110_method_10_code 27 = .ok (.return_, 1) := by decide +kernel
theorem ef_store_st0 (m : MethodId) (x0 : Addr) (x2 : Int32) : entryFrame m #[(.ref x0), (.int (0 : Int32)), (.int x2)] 3 = mkF m 0 #[.val (.ref x0), .val (.int (0 : Int32)), .val (.int x2)] [] := by first | (simp [entryFrame, mkF, argsToLocals, Value.category]; done) | rfl
def Qstore_st0 (Z : State) (a : Addr) (y : Int32) (w : Addr) (kw : ClassId) (h0 : Heap) (n0 : Nat) (v : Option Value) (h : Heap) (L : List Loc) : Prop := v = none ∧ Fr n0 L ∧ Keep h0 h [a, w] ∧ Exa Z h a "com/example/signetry/signetry/card/WordFrame" ∧ Fld Z h a "com/example/signetry/signetry/card/WordFrame" "words" "[I" (.ref w) ∧ Fld Z h a "com/example/signetry/signetry/card/WordFrame" "localCount" "I" (.int (2 : Int32)) ∧ Fld Z h a "com/example/signetry/signetry/card/WordFrame" "maxStack" "I" (.int (2 : Int32)) ∧ Fld Z h a "com/example/signetry/signetry/card/WordFrame" "top" "I" (.int (2 : Int32)) ∧ Fld Z h a "com/example/signetry/signetry/card/WordFrame" "thisUninitialized" "Z" (.int (0 : Int32)) ∧ Fld Z h a "com/example/signetry/signetry/card/WordFrame" "localsVersion" "I" (.int (2 : Int32)) ∧ Arv Z h w kw .int (4 : Int32) [(.int y), (.int (0 : Int32)), (.int (0 : Int32)), (.int (0 : Int32))] (.int (0 : Int32))
set_option maxRecDepth 65536 in
set_option maxHeartbeats 40000000 in
theorem rmstore_st0 (l : Launch) (Z : State) (a0 : Array Value) (hw : ∀ d ∈ tables_1, d.before a0 Z = true) (ws : List Jvm.Cond) (a : Addr) (y : Int32) (w : Addr) (kw : ClassId) (h0 : Heap) (n0 : Nat) (Z0 : n0 ≤ h0.size) (F_words_a : Fld Z h0 a "com/example/signetry/signetry/card/WordFrame" "words" "[I" (.ref w)) (F_localCount_a : Fld Z h0 a "com/example/signetry/signetry/card/WordFrame" "localCount" "I" (.int (2 : Int32))) (F_maxStack_a : Fld Z h0 a "com/example/signetry/signetry/card/WordFrame" "maxStack" "I" (.int (2 : Int32))) (F_top_a : Fld Z h0 a "com/example/signetry/signetry/card/WordFrame" "top" "I" (.int (2 : Int32))) (F_thisUninitialized_a : Fld Z h0 a "com/example/signetry/signetry/card/WordFrame" "thisUninitialized" "Z" (.int (0 : Int32))) (F_localsVersion_a : Fld Z h0 a "com/example/signetry/signetry/card/WordFrame" "localsVersion" "I" (.int (1 : Int32))) (E_a : Exa Z h0 a "com/example/signetry/signetry/card/WordFrame") (V_w : Arv Z h0 w kw .int (4 : Int32) [(.int (0 : Int32)), (.int (0 : Int32)), (.int (0 : Int32)), (.int (0 : Int32))] (.int (0 : Int32))) (g_a : n0 ≤ a) (g_w : n0 ≤ w) (ne_a_w : a ≠ w) :
    MetFree l (⟨"com/example/signetry/signetry/card/WordFrame", "store", "(II)V"⟩ : MethodName) (head1 (Jvm.Cond.code (⟨"com/example/signetry/signetry/card/WordFrame", "store", "(II)V"⟩ : MethodName) prog_110_method_10_code 3 none :: ws) ({ frames := 1, cells := 0, slots := 0, locals := 13 } : Room)) (fun aS U => aS = #[(.ref a), (.int (0 : Int32)), (.int y)] ∧ Z.Warmed39 U.vm ∧ U.heap = h0) (fun _ _ _ _ _ => True) (fun _ U o U' => ∃ v L, o = .returned v ∧ Qstore_st0 Z a y w kw h0 n0 v U'.heap L ∧ FrameEnd U o U' L ({ frames := 1, cells := 0, slots := 0, locals := 13 } : Room).cells ({ frames := 1, cells := 0, slots := 0, locals := 13 } : Room).slots) := by
  refine MetFree.of_bodySF (plainFor_of_name pn_0) hisR ?_
  intro p e s m args below meth c s₁ Bd hml0 hP hK
  obtain ⟨rfl, hZ, hh⟩ := hP
  have hx := Bd.exec
  have hby := Bd.bytes
  have hml : c.maxLocals = 3 := hml0
  have hown : s.vm.findClass "com/example/signetry/signetry/card/WordFrame" = some m.cls := findClass_of_methodNamed Bd.named
  have hnm := (name_of_methodNamed Bd.named Bd.method).1
  have X0 : Stand p l e ({ frames := 1, cells := 0, slots := 0, locals := 13 } : Room) s m #[(.ref a), (.int (0 : Int32)), (.int y)] below meth c s₁ [] 0 0 := Stand.of_body Bd
  have e0 : s₁.heap = h0 := by rw [← hh, Bd.state]; rfl
  have N0 := Fr.nil n0
  have Kh : Keep h0 h0 [a, w] := Keep.refl _ _
  suffices H : own_R p e below (own_E s below (Qstore_st0 Z a y w kw h0 n0) ({ frames := 1, cells := 0, slots := 0, locals := 13 } : Room).cells ({ frames := 1, cells := 0, slots := 0, locals := 13 } : Room).slots) s₁ (mkF m 0 #[.val (.ref a), .val (.int (0 : Int32)), .val (.int y)] []) by
    obtain ⟨t, hst, hrun, v, L, hend, hQ, hF⟩ := H
    exact ⟨t, _, castTop (ef_store_st0 m a y) hst, hrun, hend, v, L, rfl, hQ, hF⟩
  show own_R p e below _ s₁ (mkF m 0 #[.val (.ref a), .val (.int (0 : Int32)), .val (.int y)] [])
  refine own_go (fun t k => XS.aloadN X0.here hx rfl (hb hby d6_0) rfl rfl  k) ?_
  show own_R p e below _ s₁ (mkF m 1 #[.val (.ref a), .val (.int (0 : Int32)), .val (.int y)] [(.ref a)])
  refine own_go (fun t k => XS.iloadN X0.here hx rfl (hb hby d6_1) rfl  k) ?_
  show own_R p e below _ s₁ (mkF m 2 #[.val (.ref a), .val (.int (0 : Int32)), .val (.int y)] [(.int (0 : Int32)), (.ref a)])
  obtain ⟨cq1, q1, q1'⟩ := E_a.cell
  obtain ⟨_, _, ⟨T1, L1, k1, n1⟩, -, X1, ⟨Lc1, hQ1, l1, y1, z1⟩, st1⟩ := X0.privateBack hx (y := (⟨"com/example/signetry/signetry/card/WordFrame", "requireLocal", "(I)V"⟩ : MethodName)) hown (mvT hZ (hw _ (List.mem_of_getElem? (i := 40) rfl))) (mvT hZ (hw _ (List.mem_of_getElem? (i := 41) rfl))) (Jvm.Kit.selects_private (by decide) (mvT hZ (hw _ (List.mem_of_getElem? (i := 2) rfl))) (mvP hZ (hw _ (List.mem_of_getElem? (i := 42) rfl))) (mvT hZ (hw _ (List.mem_of_getElem? (i := 41) rfl)))) (Cond.privateMethod_at (mvP hZ (hw _ (List.mem_of_getElem? (i := 42) rfl)) (args := #[]))) (mvT hZ (hw _ (List.mem_of_getElem? (i := 43) rfl))) (by decide) (backOf (W := 0) (rmrl_st0 l Z a0 hw [] a w kw h0 n0 (Nat.le_trans Z0 Kh.1) F_words_a F_localCount_a F_maxStack_a F_top_a F_thisUninitialized_a F_localsVersion_a E_a V_w) hZ (hw _ (List.mem_of_getElem? (i := 43) rfl)) (hw _ (List.mem_of_getElem? (i := 3) rfl)) (by decide) (by decide)) (g := (mkF m 2 #[.val (.ref a), .val (.int (0 : Int32)), .val (.int y)] [(.int (0 : Int32)), (.ref a)])) rfl (by rw [hml]; rfl) (Steps.refl _) (a := a) (by rw [e0]; exact q1) q1' (argsL := [(.int (0 : Int32))]) (rest := []) (lenOf pd_4 rfl) rfl (by show 2 * 0 + _ ≤ _; exact Nat.le_of_eq rfl) (hb hby d6_2) (fun _ _ => ⟨rfl, e0, (by decide : 0 + 0 ≤ _), (by decide : 0 + 0 ≤ _)⟩)
  dsimp only [Pt.U, Pt.locs, Pt.cells, Pt.slots] at X1 l1 y1 z1 st1 hQ1
  subst l1 y1 z1
  obtain ⟨rfl, Nq1, e1⟩ := hQ1
  have N1 := Fr.app N0 Nq1
  refine own_go (fun t k => st1.trans k) ?_
  show own_R p e below _ T1 (mkF m 5 #[.val (.ref a), .val (.int (0 : Int32)), .val (.int y)] [])
  refine own_go (fun t k => XS.aloadN X1.here hx rfl (hb hby d6_5) rfl rfl  k) ?_
  show own_R p e below _ T1 (mkF m 6 #[.val (.ref a), .val (.int (0 : Int32)), .val (.int y)] [(.ref a)])
  refine own_go (fun t k => XS.iloadN X1.here hx rfl (hb hby d6_6) rfl  k) ?_
  show own_R p e below _ T1 (mkF m 7 #[.val (.ref a), .val (.int (0 : Int32)), .val (.int y)] [(.int (0 : Int32)), (.ref a)])
  obtain ⟨cq2, q2, q2'⟩ := E_a.cell
  obtain ⟨_, _, ⟨T2, L2, k2, n2⟩, -, X2, ⟨Lc2, hQ2, l2, y2, z2⟩, st2⟩ := X1.privateBack hx (y := (⟨"com/example/signetry/signetry/card/WordFrame", "invalidateIntAround", "(I)V"⟩ : MethodName)) hown (mvT hZ (hw _ (List.mem_of_getElem? (i := 44) rfl))) (mvT hZ (hw _ (List.mem_of_getElem? (i := 45) rfl))) (Jvm.Kit.selects_private (by decide) (mvT hZ (hw _ (List.mem_of_getElem? (i := 2) rfl))) (mvP hZ (hw _ (List.mem_of_getElem? (i := 46) rfl))) (mvT hZ (hw _ (List.mem_of_getElem? (i := 45) rfl)))) (Cond.privateMethod_at (mvP hZ (hw _ (List.mem_of_getElem? (i := 46) rfl)) (args := #[]))) (mvT hZ (hw _ (List.mem_of_getElem? (i := 47) rfl))) (by decide) (backOf (W := 0) (rmiv_st0 l Z a0 hw [] a w kw h0 n0 (Nat.le_trans Z0 Kh.1) F_words_a F_localCount_a F_maxStack_a F_top_a F_thisUninitialized_a F_localsVersion_a E_a V_w) hZ (hw _ (List.mem_of_getElem? (i := 47) rfl)) (hw _ (List.mem_of_getElem? (i := 3) rfl)) (by decide) (by decide)) (g := (mkF m 7 #[.val (.ref a), .val (.int (0 : Int32)), .val (.int y)] [(.int (0 : Int32)), (.ref a)])) rfl (by rw [hml]; rfl) (Steps.refl _) (a := a) (by rw [e1]; exact q2) q2' (argsL := [(.int (0 : Int32))]) (rest := []) (lenOf pd_4 rfl) rfl (by show 2 * 0 + _ ≤ _; exact Nat.le_of_eq rfl) (hb hby d6_7) (fun _ _ => ⟨rfl, e1, (by decide : 0 + 0 ≤ _), (by decide : 0 + 0 ≤ _)⟩)
  dsimp only [Pt.U, Pt.locs, Pt.cells, Pt.slots] at X2 l2 y2 z2 st2 hQ2
  subst l2 y2 z2
  obtain ⟨rfl, Nq2, e2⟩ := hQ2
  have N2 := Fr.app N1 Nq2
  refine own_go (fun t k => st2.trans k) ?_
  show own_R p e below _ T2 (mkF m 10 #[.val (.ref a), .val (.int (0 : Int32)), .val (.int y)] [])
  refine own_go (fun t k => XS.aloadN X2.here hx rfl (hb hby d6_10) rfl rfl  k) ?_
  show own_R p e below _ T2 (mkF m 11 #[.val (.ref a), .val (.int (0 : Int32)), .val (.int y)] [(.ref a)])
  obtain ⟨T3, X3, e3, st3⟩ := getF X2 hx hZ hown (host := "") (Or.inl (hw _ (List.mem_of_getElem? (i := 11) rfl))) Via.refl e2 F_words_a (g := (mkF m 11 #[.val (.ref a), .val (.int (0 : Int32)), .val (.int y)] [(.ref a)])) rfl rfl (hb hby d6_11)
  refine own_go (st3) ?_
  show own_R p e below _ T3 (mkF m 14 #[.val (.ref a), .val (.int (0 : Int32)), .val (.int y)] [(.ref w)])
  refine own_go (fun t k => XS.iloadN X3.here hx rfl (hb hby d6_14) rfl  k) ?_
  show own_R p e below _ T3 (mkF m 15 #[.val (.ref a), .val (.int (0 : Int32)), .val (.int y)] [(.int (0 : Int32)), (.ref w)])
  refine own_go (fun t k => XS.iloadN X3.here hx rfl (hb hby d6_15) rfl  k) ?_
  show own_R p e below _ T3 (mkF m 16 #[.val (.ref a), .val (.int (0 : Int32)), .val (.int y)] [(.int y), (.int (0 : Int32)), (.ref w)])
  obtain ⟨cl4, Ar4, q4, S4, Nn4, Hh4, G4⟩ := id V_w
  have hin4 : ¬ ((0 : Int32) < 0 ∨ cl4.slots.size ≤ ((0 : Int32)).toNatClampNeg) := inb_of S4 ⟨by decide, by decide⟩
  obtain ⟨T5, h5, X5, e5, W5, st5⟩ := stI X3 hx hZ e3 Ar4 (j := (0 : Int32)) hin4 (g := (mkF m 16 #[.val (.ref a), .val (.int (0 : Int32)), .val (.int y)] [(.int y), (.int (0 : Int32)), (.ref w)])) rfl rfl (hb hby d6_16)
  have N5 := Fr.snoc X5 N2 g_w
  replace Kh := Kh.wr W5 (Or.inl (List.mem_of_getElem? (i := 1) rfl))
  replace F_words_a := Fld.other W5 F_words_a (Or.inl ne_a_w)
  replace F_localCount_a := Fld.other W5 F_localCount_a (Or.inl ne_a_w)
  replace F_maxStack_a := Fld.other W5 F_maxStack_a (Or.inl ne_a_w)
  replace F_top_a := Fld.other W5 F_top_a (Or.inl ne_a_w)
  replace F_thisUninitialized_a := Fld.other W5 F_thisUninitialized_a (Or.inl ne_a_w)
  replace F_localsVersion_a := Fld.other W5 F_localsVersion_a (Or.inl ne_a_w)
  replace E_a := Exa.wr W5 E_a
  have V_w_5 : Arv Z h5 w kw .int (4 : Int32) [(.int y), (.int (0 : Int32)), (.int (0 : Int32)), (.int (0 : Int32))] (.int (0 : Int32)) := Arv.set Ar4 q4 S4 Nn4 Hh4 G4 rfl W5 0 rfl (Nat.le_of_ble_eq_true rfl)
  refine own_go (st5) ?_
  show own_R p e below _ T5 (mkF m 17 #[.val (.ref a), .val (.int (0 : Int32)), .val (.int y)] [])
  refine own_go (fun t k => XS.aloadN X5.here hx rfl (hb hby d6_17) rfl rfl  k) ?_
  show own_R p e below _ T5 (mkF m 18 #[.val (.ref a), .val (.int (0 : Int32)), .val (.int y)] [(.ref a)])
  refine own_go (fun t k => XS.dup X5.here hx rfl (hb hby d6_18) rfl rfl k) ?_
  show own_R p e below _ T5 (mkF m 19 #[.val (.ref a), .val (.int (0 : Int32)), .val (.int y)] [(.ref a), (.ref a)])
  obtain ⟨T6, X6, e6, st6⟩ := getF X5 hx hZ hown (host := "") (Or.inl (hw _ (List.mem_of_getElem? (i := 33) rfl))) Via.refl e5 F_localsVersion_a (g := (mkF m 19 #[.val (.ref a), .val (.int (0 : Int32)), .val (.int y)] [(.ref a), (.ref a)])) rfl rfl (hb hby d6_19)
  refine own_go (st6) ?_
  show own_R p e below _ T6 (mkF m 22 #[.val (.ref a), .val (.int (0 : Int32)), .val (.int y)] [(.int (1 : Int32)), (.ref a)])
  refine own_go (fun t k => XS.iconst X6.here hx rfl (hb hby d6_22) k) ?_
  show own_R p e below _ T6 (mkF m 23 #[.val (.ref a), .val (.int (0 : Int32)), .val (.int y)] [(.int (1 : Int32)), (.int (1 : Int32)), (.ref a)])
  refine own_go (fun t k => XS.iadd X6.here hx rfl (hb hby d6_23) rfl k) ?_
  show own_R p e below _ T6 (mkF m 24 #[.val (.ref a), .val (.int (0 : Int32)), .val (.int y)] [(.int (2 : Int32)), (.ref a)])
  obtain ⟨T7, h7, X7, e7, W7, st7⟩ := putF X6 hx hZ hown (host := "") (Or.inl (hw _ (List.mem_of_getElem? (i := 33) rfl))) Via.refl e6 F_localsVersion_a E_a (Or.inl (hw _ (List.mem_of_getElem? (i := 34) rfl))) (hw _ (List.mem_of_getElem? (i := 2) rfl)) (ty := .int) (by decide) rfl rfl (g := (mkF m 24 #[.val (.ref a), .val (.int (0 : Int32)), .val (.int y)] [(.int (2 : Int32)), (.ref a)])) rfl rfl (hb hby d6_24)
  have N7 := Fr.snoc X7 N5 g_a
  replace Kh := Kh.wr W7 (Or.inl (List.mem_of_getElem? (i := 0) rfl))
  replace F_words_a := Fld.other W7 F_words_a (Or.inr (slot_ne (Or.inl (hw _ (List.mem_of_getElem? (i := 12) rfl))) (Or.inl (hw _ (List.mem_of_getElem? (i := 34) rfl))) (by decide) (t := (.array .int)) (t' := .int) (by decide) (by decide)))
  replace F_localCount_a := Fld.other W7 F_localCount_a (Or.inr (slot_ne (Or.inl (hw _ (List.mem_of_getElem? (i := 26) rfl))) (Or.inl (hw _ (List.mem_of_getElem? (i := 34) rfl))) (by decide) (t := .int) (t' := .int) (by decide) (by decide)))
  replace F_maxStack_a := Fld.other W7 F_maxStack_a (Or.inr (slot_ne (Or.inl (hw _ (List.mem_of_getElem? (i := 28) rfl))) (Or.inl (hw _ (List.mem_of_getElem? (i := 34) rfl))) (by decide) (t := .int) (t' := .int) (by decide) (by decide)))
  replace F_top_a := Fld.other W7 F_top_a (Or.inr (slot_ne (Or.inl (hw _ (List.mem_of_getElem? (i := 30) rfl))) (Or.inl (hw _ (List.mem_of_getElem? (i := 34) rfl))) (by decide) (t := .int) (t' := .int) (by decide) (by decide)))
  replace F_thisUninitialized_a := Fld.other W7 F_thisUninitialized_a (Or.inr (slot_ne (Or.inl (hw _ (List.mem_of_getElem? (i := 32) rfl))) (Or.inl (hw _ (List.mem_of_getElem? (i := 34) rfl))) (by decide) (t := .boolean) (t' := .int) (by decide) (by decide)))
  replace F_localsVersion_a := Fld.same W7 F_localsVersion_a
  replace E_a := Exa.wr W7 E_a
  replace V_w_5 := Arv.other V_w_5 W7 (Ne.symm ne_a_w)
  refine own_go (st7) ?_
  show own_R p e below _ T7 (mkF m 27 #[.val (.ref a), .val (.int (0 : Int32)), .val (.int y)] [])
  refine own_retV X7 hx Bd.returns (BodyLoose.notSynchronized Bd) (hb hby d6_27) (by decide) (by decide) ?_
  rw [e7]
  exact ⟨rfl, N7, Kh, E_a, F_words_a, F_localCount_a, F_maxStack_a, F_top_a, F_thisUninitialized_a, F_localsVersion_a, V_w_5⟩
theorem ef_rl_st1 (m : MethodId) (x0 : Addr) : entryFrame m #[(.ref x0), (.int (1 : Int32))] 2 = mkF m 0 #[.val (.ref x0), .val (.int (1 : Int32))] [] := by first | (simp [entryFrame, mkF, argsToLocals, Value.category]; done) | rfl
def Qrl_st1 (Z : State) (a : Addr) (w : Addr) (kw : ClassId) (x0 : Int32) (h0 : Heap) (n0 : Nat) (v : Option Value) (h : Heap) (L : List Loc) : Prop := v = none ∧ Fr n0 L ∧ h = h0
set_option maxRecDepth 65536 in
set_option maxHeartbeats 40000000 in
theorem rmrl_st1 (l : Launch) (Z : State) (a0 : Array Value) (hw : ∀ d ∈ tables_1, d.before a0 Z = true) (ws : List Jvm.Cond) (a : Addr) (w : Addr) (kw : ClassId) (x0 : Int32) (h0 : Heap) (n0 : Nat) (Z0 : n0 ≤ h0.size) (F_words_a : Fld Z h0 a "com/example/signetry/signetry/card/WordFrame" "words" "[I" (.ref w)) (F_localCount_a : Fld Z h0 a "com/example/signetry/signetry/card/WordFrame" "localCount" "I" (.int (2 : Int32))) (F_maxStack_a : Fld Z h0 a "com/example/signetry/signetry/card/WordFrame" "maxStack" "I" (.int (2 : Int32))) (F_top_a : Fld Z h0 a "com/example/signetry/signetry/card/WordFrame" "top" "I" (.int (2 : Int32))) (F_thisUninitialized_a : Fld Z h0 a "com/example/signetry/signetry/card/WordFrame" "thisUninitialized" "Z" (.int (0 : Int32))) (F_localsVersion_a : Fld Z h0 a "com/example/signetry/signetry/card/WordFrame" "localsVersion" "I" (.int (2 : Int32))) (E_a : Exa Z h0 a "com/example/signetry/signetry/card/WordFrame") (V_w : Arv Z h0 w kw .int (4 : Int32) [(.int x0), (.int (0 : Int32)), (.int (0 : Int32)), (.int (0 : Int32))] (.int (0 : Int32))) :
    MetFree l (⟨"com/example/signetry/signetry/card/WordFrame", "requireLocal", "(I)V"⟩ : MethodName) (head1 (Jvm.Cond.code (⟨"com/example/signetry/signetry/card/WordFrame", "requireLocal", "(I)V"⟩ : MethodName) prog_110_method_13_code 2 none :: ws) ({ frames := 0, cells := 0, slots := 0, locals := 0 } : Room)) (fun aS U => aS = #[(.ref a), (.int (1 : Int32))] ∧ Z.Warmed39 U.vm ∧ U.heap = h0) (fun _ _ _ _ _ => True) (fun _ U o U' => ∃ v L, o = .returned v ∧ Qrl_st1 Z a w kw x0 h0 n0 v U'.heap L ∧ FrameEnd U o U' L ({ frames := 0, cells := 0, slots := 0, locals := 0 } : Room).cells ({ frames := 0, cells := 0, slots := 0, locals := 0 } : Room).slots) := by
  refine MetFree.of_bodySF (plainFor_of_name pn_0) hisR ?_
  intro p e s m args below meth c s₁ Bd hml0 hP hK
  obtain ⟨rfl, hZ, hh⟩ := hP
  have hx := Bd.exec
  have hby := Bd.bytes
  have hml : c.maxLocals = 2 := hml0
  have hown : s.vm.findClass "com/example/signetry/signetry/card/WordFrame" = some m.cls := findClass_of_methodNamed Bd.named
  have hnm := (name_of_methodNamed Bd.named Bd.method).1
  have X0 : Stand p l e ({ frames := 0, cells := 0, slots := 0, locals := 0 } : Room) s m #[(.ref a), (.int (1 : Int32))] below meth c s₁ [] 0 0 := Stand.of_body Bd
  have e0 : s₁.heap = h0 := by rw [← hh, Bd.state]; rfl
  have N0 := Fr.nil n0
  have Kh : Keep h0 h0 [] := Keep.refl _ _
  suffices H : own_R p e below (own_E s below (Qrl_st1 Z a w kw x0 h0 n0) ({ frames := 0, cells := 0, slots := 0, locals := 0 } : Room).cells ({ frames := 0, cells := 0, slots := 0, locals := 0 } : Room).slots) s₁ (mkF m 0 #[.val (.ref a), .val (.int (1 : Int32))] []) by
    obtain ⟨t, hst, hrun, v, L, hend, hQ, hF⟩ := H
    exact ⟨t, _, castTop (ef_rl_st1 m a) hst, hrun, hend, v, L, rfl, hQ, hF⟩
  show own_R p e below _ s₁ (mkF m 0 #[.val (.ref a), .val (.int (1 : Int32))] [])
  refine own_go (fun t k => XS.iloadN X0.here hx rfl (hb hby d7_0) rfl  k) ?_
  show own_R p e below _ s₁ (mkF m 1 #[.val (.ref a), .val (.int (1 : Int32))] [(.int (1 : Int32))])
  refine own_go (fun t k => XS.aloadN X0.here hx rfl (hb hby d7_1) rfl rfl  k) ?_
  show own_R p e below _ s₁ (mkF m 2 #[.val (.ref a), .val (.int (1 : Int32))] [(.ref a), (.int (1 : Int32))])
  obtain ⟨T1, X1, e1, st1⟩ := getF X0 hx hZ hown (host := "") (Or.inl (hw _ (List.mem_of_getElem? (i := 25) rfl))) Via.refl e0 F_localCount_a (g := (mkF m 2 #[.val (.ref a), .val (.int (1 : Int32))] [(.ref a), (.int (1 : Int32))])) rfl rfl (hb hby d7_2)
  refine own_go (st1) ?_
  show own_R p e below _ T1 (mkF m 5 #[.val (.ref a), .val (.int (1 : Int32))] [(.int (2 : Int32)), (.int (1 : Int32))])
  refine own_go (fun t k => XS.icmpYes X1.here hx rfl (pc0 := 5) (pc' := 12) rfl (hb hby d7_5) rfl (tlt (by decide : (1 : Int32) < (2 : Int32))).1 (by decide) (by decide) k) ?_
  show own_R p e below _ T1 (mkF m 12 #[.val (.ref a), .val (.int (1 : Int32))] [])
  refine own_retV X1 hx Bd.returns (BodyLoose.notSynchronized Bd) (hb hby d7_12) (by decide) (by decide) ?_
  exact ⟨rfl, N0, e1⟩
theorem ef_iv_st1 (m : MethodId) (x0 : Addr) : entryFrame m #[(.ref x0), (.int (1 : Int32))] 2 = mkF m 0 #[.val (.ref x0), .val (.int (1 : Int32))] [] := by first | (simp [entryFrame, mkF, argsToLocals, Value.category]; done) | rfl
def Qiv_st1 (Z : State) (a : Addr) (w : Addr) (kw : ClassId) (x0 : Int32) (h0 : Heap) (n0 : Nat) (v : Option Value) (h : Heap) (L : List Loc) : Prop := v = none ∧ Fr n0 L ∧ h = h0
set_option maxRecDepth 65536 in
set_option maxHeartbeats 40000000 in
theorem rmiv_st1 (l : Launch) (Z : State) (a0 : Array Value) (hw : ∀ d ∈ tables_1, d.before a0 Z = true) (ws : List Jvm.Cond) (a : Addr) (w : Addr) (kw : ClassId) (x0 : Int32) (h0 : Heap) (n0 : Nat) (Z0 : n0 ≤ h0.size) (F_words_a : Fld Z h0 a "com/example/signetry/signetry/card/WordFrame" "words" "[I" (.ref w)) (F_localCount_a : Fld Z h0 a "com/example/signetry/signetry/card/WordFrame" "localCount" "I" (.int (2 : Int32))) (F_maxStack_a : Fld Z h0 a "com/example/signetry/signetry/card/WordFrame" "maxStack" "I" (.int (2 : Int32))) (F_top_a : Fld Z h0 a "com/example/signetry/signetry/card/WordFrame" "top" "I" (.int (2 : Int32))) (F_thisUninitialized_a : Fld Z h0 a "com/example/signetry/signetry/card/WordFrame" "thisUninitialized" "Z" (.int (0 : Int32))) (F_localsVersion_a : Fld Z h0 a "com/example/signetry/signetry/card/WordFrame" "localsVersion" "I" (.int (2 : Int32))) (E_a : Exa Z h0 a "com/example/signetry/signetry/card/WordFrame") (V_w : Arv Z h0 w kw .int (4 : Int32) [(.int x0), (.int (0 : Int32)), (.int (0 : Int32)), (.int (0 : Int32))] (.int (0 : Int32))) :
    MetFree l (⟨"com/example/signetry/signetry/card/WordFrame", "invalidateIntAround", "(I)V"⟩ : MethodName) (head1 (Jvm.Cond.code (⟨"com/example/signetry/signetry/card/WordFrame", "invalidateIntAround", "(I)V"⟩ : MethodName) prog_110_method_12_code 2 none :: ws) ({ frames := 0, cells := 0, slots := 0, locals := 0 } : Room)) (fun aS U => aS = #[(.ref a), (.int (1 : Int32))] ∧ Z.Warmed39 U.vm ∧ U.heap = h0) (fun _ _ _ _ _ => True) (fun _ U o U' => ∃ v L, o = .returned v ∧ Qiv_st1 Z a w kw x0 h0 n0 v U'.heap L ∧ FrameEnd U o U' L ({ frames := 0, cells := 0, slots := 0, locals := 0 } : Room).cells ({ frames := 0, cells := 0, slots := 0, locals := 0 } : Room).slots) := by
  refine MetFree.of_bodySF (plainFor_of_name pn_0) hisR ?_
  intro p e s m args below meth c s₁ Bd hml0 hP hK
  obtain ⟨rfl, hZ, hh⟩ := hP
  have hx := Bd.exec
  have hby := Bd.bytes
  have hml : c.maxLocals = 2 := hml0
  have hown : s.vm.findClass "com/example/signetry/signetry/card/WordFrame" = some m.cls := findClass_of_methodNamed Bd.named
  have hnm := (name_of_methodNamed Bd.named Bd.method).1
  have X0 : Stand p l e ({ frames := 0, cells := 0, slots := 0, locals := 0 } : Room) s m #[(.ref a), (.int (1 : Int32))] below meth c s₁ [] 0 0 := Stand.of_body Bd
  have e0 : s₁.heap = h0 := by rw [← hh, Bd.state]; rfl
  have N0 := Fr.nil n0
  have Kh : Keep h0 h0 [] := Keep.refl _ _
  suffices H : own_R p e below (own_E s below (Qiv_st1 Z a w kw x0 h0 n0) ({ frames := 0, cells := 0, slots := 0, locals := 0 } : Room).cells ({ frames := 0, cells := 0, slots := 0, locals := 0 } : Room).slots) s₁ (mkF m 0 #[.val (.ref a), .val (.int (1 : Int32))] []) by
    obtain ⟨t, hst, hrun, v, L, hend, hQ, hF⟩ := H
    exact ⟨t, _, castTop (ef_iv_st1 m a) hst, hrun, hend, v, L, rfl, hQ, hF⟩
  show own_R p e below _ s₁ (mkF m 0 #[.val (.ref a), .val (.int (1 : Int32))] [])
  refine own_go (fun t k => XS.aloadN X0.here hx rfl (hb hby d8_0) rfl rfl  k) ?_
  show own_R p e below _ s₁ (mkF m 1 #[.val (.ref a), .val (.int (1 : Int32))] [(.ref a)])
  obtain ⟨T1, X1, e1, st1⟩ := getF X0 hx hZ hown (host := "") (Or.inl (hw _ (List.mem_of_getElem? (i := 11) rfl))) Via.refl e0 F_words_a (g := (mkF m 1 #[.val (.ref a), .val (.int (1 : Int32))] [(.ref a)])) rfl rfl (hb hby d8_1)
  refine own_go (st1) ?_
  show own_R p e below _ T1 (mkF m 4 #[.val (.ref a), .val (.int (1 : Int32))] [(.ref w)])
  refine own_go (fun t k => XS.iloadN X1.here hx rfl (hb hby d8_4) rfl  k) ?_
  show own_R p e below _ T1 (mkF m 5 #[.val (.ref a), .val (.int (1 : Int32))] [(.int (1 : Int32)), (.ref w)])
  obtain ⟨cl2, Ar2, q2, S2, Nn2, Hh2, G2⟩ := id V_w
  have hin2 : ¬ ((1 : Int32) < 0 ∨ cl2.slots.size ≤ ((1 : Int32)).toNatClampNeg) := inb_of S2 ⟨by decide, by decide⟩
  have hat2 : cl2.slots[((1 : Int32)).toNatClampNeg]? = some (.int (0 : Int32)) := Has.at Hh2 hin2 rfl
  refine own_go (X1.iaload hx (j := (1 : Int32)) (v := (.int (0 : Int32))) (by rw [e1]; exact Ar2.1) (State.isArrayOf_alike hZ.alike Ar2.2.1) Ar2.2.2 hin2 hat2 (g := (mkF m 5 #[.val (.ref a), .val (.int (1 : Int32))] [(.int (1 : Int32)), (.ref w)])) rfl rfl (hb hby d8_5)) ?_
  show own_R p e below _ T1 (mkF m 6 #[.val (.ref a), .val (.int (1 : Int32))] [(.int (0 : Int32))])
  refine own_go (fun t k => XS.iconst X1.here hx rfl (hb hby d8_6) k) ?_
  show own_R p e below _ T1 (mkF m 7 #[.val (.ref a), .val (.int (1 : Int32))] [(.int (2 : Int32)), (.int (0 : Int32))])
  refine own_go (fun t k => XS.icmpYes X1.here hx rfl (pc0 := 7) (pc' := 29) rfl (hb hby d8_7) rfl (feq (by decide : ¬ ((0 : Int32) = (2 : Int32)))).2 (by decide) (by decide) k) ?_
  show own_R p e below _ T1 (mkF m 29 #[.val (.ref a), .val (.int (1 : Int32))] [])
  refine own_go (fun t k => XS.aloadN X1.here hx rfl (hb hby d8_29) rfl rfl  k) ?_
  show own_R p e below _ T1 (mkF m 30 #[.val (.ref a), .val (.int (1 : Int32))] [(.ref a)])
  obtain ⟨T3, X3, e3, st3⟩ := getF X1 hx hZ hown (host := "") (Or.inl (hw _ (List.mem_of_getElem? (i := 11) rfl))) Via.refl e1 F_words_a (g := (mkF m 30 #[.val (.ref a), .val (.int (1 : Int32))] [(.ref a)])) rfl rfl (hb hby d8_30)
  refine own_go (st3) ?_
  show own_R p e below _ T3 (mkF m 33 #[.val (.ref a), .val (.int (1 : Int32))] [(.ref w)])
  refine own_go (fun t k => XS.iloadN X3.here hx rfl (hb hby d8_33) rfl  k) ?_
  show own_R p e below _ T3 (mkF m 34 #[.val (.ref a), .val (.int (1 : Int32))] [(.int (1 : Int32)), (.ref w)])
  obtain ⟨cl4, Ar4, q4, S4, Nn4, Hh4, G4⟩ := id V_w
  have hin4 : ¬ ((1 : Int32) < 0 ∨ cl4.slots.size ≤ ((1 : Int32)).toNatClampNeg) := inb_of S4 ⟨by decide, by decide⟩
  have hat4 : cl4.slots[((1 : Int32)).toNatClampNeg]? = some (.int (0 : Int32)) := Has.at Hh4 hin4 rfl
  refine own_go (X3.iaload hx (j := (1 : Int32)) (v := (.int (0 : Int32))) (by rw [e3]; exact Ar4.1) (State.isArrayOf_alike hZ.alike Ar4.2.1) Ar4.2.2 hin4 hat4 (g := (mkF m 34 #[.val (.ref a), .val (.int (1 : Int32))] [(.int (1 : Int32)), (.ref w)])) rfl rfl (hb hby d8_34)) ?_
  show own_R p e below _ T3 (mkF m 35 #[.val (.ref a), .val (.int (1 : Int32))] [(.int (0 : Int32))])
  refine own_go (fun t k => XS.iconst X3.here hx rfl (hb hby d8_35) k) ?_
  show own_R p e below _ T3 (mkF m 36 #[.val (.ref a), .val (.int (1 : Int32))] [(.int (3 : Int32)), (.int (0 : Int32))])
  refine own_go (fun t k => XS.icmpYes X3.here hx rfl (pc0 := 36) (pc' := 52) rfl (hb hby d8_36) rfl (feq (by decide : ¬ ((0 : Int32) = (3 : Int32)))).2 (by decide) (by decide) k) ?_
  show own_R p e below _ T3 (mkF m 52 #[.val (.ref a), .val (.int (1 : Int32))] [])
  refine own_retV X3 hx Bd.returns (BodyLoose.notSynchronized Bd) (hb hby d8_52) (by decide) (by decide) ?_
  exact ⟨rfl, N0, e3⟩
theorem ef_store_st1 (m : MethodId) (x0 : Addr) (x2 : Int32) : entryFrame m #[(.ref x0), (.int (1 : Int32)), (.int x2)] 3 = mkF m 0 #[.val (.ref x0), .val (.int (1 : Int32)), .val (.int x2)] [] := by first | (simp [entryFrame, mkF, argsToLocals, Value.category]; done) | rfl
def Qstore_st1 (Z : State) (a : Addr) (y : Int32) (w : Addr) (kw : ClassId) (x0 : Int32) (h0 : Heap) (n0 : Nat) (v : Option Value) (h : Heap) (L : List Loc) : Prop := v = none ∧ Fr n0 L ∧ Keep h0 h [a, w] ∧ Exa Z h a "com/example/signetry/signetry/card/WordFrame" ∧ Fld Z h a "com/example/signetry/signetry/card/WordFrame" "words" "[I" (.ref w) ∧ Fld Z h a "com/example/signetry/signetry/card/WordFrame" "localCount" "I" (.int (2 : Int32)) ∧ Fld Z h a "com/example/signetry/signetry/card/WordFrame" "maxStack" "I" (.int (2 : Int32)) ∧ Fld Z h a "com/example/signetry/signetry/card/WordFrame" "top" "I" (.int (2 : Int32)) ∧ Fld Z h a "com/example/signetry/signetry/card/WordFrame" "thisUninitialized" "Z" (.int (0 : Int32)) ∧ Fld Z h a "com/example/signetry/signetry/card/WordFrame" "localsVersion" "I" (.int (3 : Int32)) ∧ Arv Z h w kw .int (4 : Int32) [(.int x0), (.int y), (.int (0 : Int32)), (.int (0 : Int32))] (.int (0 : Int32))
set_option maxRecDepth 65536 in
set_option maxHeartbeats 40000000 in
theorem rmstore_st1 (l : Launch) (Z : State) (a0 : Array Value) (hw : ∀ d ∈ tables_1, d.before a0 Z = true) (ws : List Jvm.Cond) (a : Addr) (y : Int32) (w : Addr) (kw : ClassId) (x0 : Int32) (h0 : Heap) (n0 : Nat) (Z0 : n0 ≤ h0.size) (F_words_a : Fld Z h0 a "com/example/signetry/signetry/card/WordFrame" "words" "[I" (.ref w)) (F_localCount_a : Fld Z h0 a "com/example/signetry/signetry/card/WordFrame" "localCount" "I" (.int (2 : Int32))) (F_maxStack_a : Fld Z h0 a "com/example/signetry/signetry/card/WordFrame" "maxStack" "I" (.int (2 : Int32))) (F_top_a : Fld Z h0 a "com/example/signetry/signetry/card/WordFrame" "top" "I" (.int (2 : Int32))) (F_thisUninitialized_a : Fld Z h0 a "com/example/signetry/signetry/card/WordFrame" "thisUninitialized" "Z" (.int (0 : Int32))) (F_localsVersion_a : Fld Z h0 a "com/example/signetry/signetry/card/WordFrame" "localsVersion" "I" (.int (2 : Int32))) (E_a : Exa Z h0 a "com/example/signetry/signetry/card/WordFrame") (V_w : Arv Z h0 w kw .int (4 : Int32) [(.int x0), (.int (0 : Int32)), (.int (0 : Int32)), (.int (0 : Int32))] (.int (0 : Int32))) (g_a : n0 ≤ a) (g_w : n0 ≤ w) (ne_a_w : a ≠ w) :
    MetFree l (⟨"com/example/signetry/signetry/card/WordFrame", "store", "(II)V"⟩ : MethodName) (head1 (Jvm.Cond.code (⟨"com/example/signetry/signetry/card/WordFrame", "store", "(II)V"⟩ : MethodName) prog_110_method_10_code 3 none :: ws) ({ frames := 1, cells := 0, slots := 0, locals := 13 } : Room)) (fun aS U => aS = #[(.ref a), (.int (1 : Int32)), (.int y)] ∧ Z.Warmed39 U.vm ∧ U.heap = h0) (fun _ _ _ _ _ => True) (fun _ U o U' => ∃ v L, o = .returned v ∧ Qstore_st1 Z a y w kw x0 h0 n0 v U'.heap L ∧ FrameEnd U o U' L ({ frames := 1, cells := 0, slots := 0, locals := 13 } : Room).cells ({ frames := 1, cells := 0, slots := 0, locals := 13 } : Room).slots) := by
  refine MetFree.of_bodySF (plainFor_of_name pn_0) hisR ?_
  intro p e s m args below meth c s₁ Bd hml0 hP hK
  obtain ⟨rfl, hZ, hh⟩ := hP
  have hx := Bd.exec
  have hby := Bd.bytes
  have hml : c.maxLocals = 3 := hml0
  have hown : s.vm.findClass "com/example/signetry/signetry/card/WordFrame" = some m.cls := findClass_of_methodNamed Bd.named
  have hnm := (name_of_methodNamed Bd.named Bd.method).1
  have X0 : Stand p l e ({ frames := 1, cells := 0, slots := 0, locals := 13 } : Room) s m #[(.ref a), (.int (1 : Int32)), (.int y)] below meth c s₁ [] 0 0 := Stand.of_body Bd
  have e0 : s₁.heap = h0 := by rw [← hh, Bd.state]; rfl
  have N0 := Fr.nil n0
  have Kh : Keep h0 h0 [a, w] := Keep.refl _ _
  suffices H : own_R p e below (own_E s below (Qstore_st1 Z a y w kw x0 h0 n0) ({ frames := 1, cells := 0, slots := 0, locals := 13 } : Room).cells ({ frames := 1, cells := 0, slots := 0, locals := 13 } : Room).slots) s₁ (mkF m 0 #[.val (.ref a), .val (.int (1 : Int32)), .val (.int y)] []) by
    obtain ⟨t, hst, hrun, v, L, hend, hQ, hF⟩ := H
    exact ⟨t, _, castTop (ef_store_st1 m a y) hst, hrun, hend, v, L, rfl, hQ, hF⟩
  show own_R p e below _ s₁ (mkF m 0 #[.val (.ref a), .val (.int (1 : Int32)), .val (.int y)] [])
  refine own_go (fun t k => XS.aloadN X0.here hx rfl (hb hby d6_0) rfl rfl  k) ?_
  show own_R p e below _ s₁ (mkF m 1 #[.val (.ref a), .val (.int (1 : Int32)), .val (.int y)] [(.ref a)])
  refine own_go (fun t k => XS.iloadN X0.here hx rfl (hb hby d6_1) rfl  k) ?_
  show own_R p e below _ s₁ (mkF m 2 #[.val (.ref a), .val (.int (1 : Int32)), .val (.int y)] [(.int (1 : Int32)), (.ref a)])
  obtain ⟨cq1, q1, q1'⟩ := E_a.cell
  obtain ⟨_, _, ⟨T1, L1, k1, n1⟩, -, X1, ⟨Lc1, hQ1, l1, y1, z1⟩, st1⟩ := X0.privateBack hx (y := (⟨"com/example/signetry/signetry/card/WordFrame", "requireLocal", "(I)V"⟩ : MethodName)) hown (mvT hZ (hw _ (List.mem_of_getElem? (i := 40) rfl))) (mvT hZ (hw _ (List.mem_of_getElem? (i := 41) rfl))) (Jvm.Kit.selects_private (by decide) (mvT hZ (hw _ (List.mem_of_getElem? (i := 2) rfl))) (mvP hZ (hw _ (List.mem_of_getElem? (i := 42) rfl))) (mvT hZ (hw _ (List.mem_of_getElem? (i := 41) rfl)))) (Cond.privateMethod_at (mvP hZ (hw _ (List.mem_of_getElem? (i := 42) rfl)) (args := #[]))) (mvT hZ (hw _ (List.mem_of_getElem? (i := 43) rfl))) (by decide) (backOf (W := 0) (rmrl_st1 l Z a0 hw [] a w kw x0 h0 n0 (Nat.le_trans Z0 Kh.1) F_words_a F_localCount_a F_maxStack_a F_top_a F_thisUninitialized_a F_localsVersion_a E_a V_w) hZ (hw _ (List.mem_of_getElem? (i := 43) rfl)) (hw _ (List.mem_of_getElem? (i := 3) rfl)) (by decide) (by decide)) (g := (mkF m 2 #[.val (.ref a), .val (.int (1 : Int32)), .val (.int y)] [(.int (1 : Int32)), (.ref a)])) rfl (by rw [hml]; rfl) (Steps.refl _) (a := a) (by rw [e0]; exact q1) q1' (argsL := [(.int (1 : Int32))]) (rest := []) (lenOf pd_4 rfl) rfl (by show 2 * 0 + _ ≤ _; exact Nat.le_of_eq rfl) (hb hby d6_2) (fun _ _ => ⟨rfl, e0, (by decide : 0 + 0 ≤ _), (by decide : 0 + 0 ≤ _)⟩)
  dsimp only [Pt.U, Pt.locs, Pt.cells, Pt.slots] at X1 l1 y1 z1 st1 hQ1
  subst l1 y1 z1
  obtain ⟨rfl, Nq1, e1⟩ := hQ1
  have N1 := Fr.app N0 Nq1
  refine own_go (fun t k => st1.trans k) ?_
  show own_R p e below _ T1 (mkF m 5 #[.val (.ref a), .val (.int (1 : Int32)), .val (.int y)] [])
  refine own_go (fun t k => XS.aloadN X1.here hx rfl (hb hby d6_5) rfl rfl  k) ?_
  show own_R p e below _ T1 (mkF m 6 #[.val (.ref a), .val (.int (1 : Int32)), .val (.int y)] [(.ref a)])
  refine own_go (fun t k => XS.iloadN X1.here hx rfl (hb hby d6_6) rfl  k) ?_
  show own_R p e below _ T1 (mkF m 7 #[.val (.ref a), .val (.int (1 : Int32)), .val (.int y)] [(.int (1 : Int32)), (.ref a)])
  obtain ⟨cq2, q2, q2'⟩ := E_a.cell
  obtain ⟨_, _, ⟨T2, L2, k2, n2⟩, -, X2, ⟨Lc2, hQ2, l2, y2, z2⟩, st2⟩ := X1.privateBack hx (y := (⟨"com/example/signetry/signetry/card/WordFrame", "invalidateIntAround", "(I)V"⟩ : MethodName)) hown (mvT hZ (hw _ (List.mem_of_getElem? (i := 44) rfl))) (mvT hZ (hw _ (List.mem_of_getElem? (i := 45) rfl))) (Jvm.Kit.selects_private (by decide) (mvT hZ (hw _ (List.mem_of_getElem? (i := 2) rfl))) (mvP hZ (hw _ (List.mem_of_getElem? (i := 46) rfl))) (mvT hZ (hw _ (List.mem_of_getElem? (i := 45) rfl)))) (Cond.privateMethod_at (mvP hZ (hw _ (List.mem_of_getElem? (i := 46) rfl)) (args := #[]))) (mvT hZ (hw _ (List.mem_of_getElem? (i := 47) rfl))) (by decide) (backOf (W := 0) (rmiv_st1 l Z a0 hw [] a w kw x0 h0 n0 (Nat.le_trans Z0 Kh.1) F_words_a F_localCount_a F_maxStack_a F_top_a F_thisUninitialized_a F_localsVersion_a E_a V_w) hZ (hw _ (List.mem_of_getElem? (i := 47) rfl)) (hw _ (List.mem_of_getElem? (i := 3) rfl)) (by decide) (by decide)) (g := (mkF m 7 #[.val (.ref a), .val (.int (1 : Int32)), .val (.int y)] [(.int (1 : Int32)), (.ref a)])) rfl (by rw [hml]; rfl) (Steps.refl _) (a := a) (by rw [e1]; exact q2) q2' (argsL := [(.int (1 : Int32))]) (rest := []) (lenOf pd_4 rfl) rfl (by show 2 * 0 + _ ≤ _; exact Nat.le_of_eq rfl) (hb hby d6_7) (fun _ _ => ⟨rfl, e1, (by decide : 0 + 0 ≤ _), (by decide : 0 + 0 ≤ _)⟩)
  dsimp only [Pt.U, Pt.locs, Pt.cells, Pt.slots] at X2 l2 y2 z2 st2 hQ2
  subst l2 y2 z2
  obtain ⟨rfl, Nq2, e2⟩ := hQ2
  have N2 := Fr.app N1 Nq2
  refine own_go (fun t k => st2.trans k) ?_
  show own_R p e below _ T2 (mkF m 10 #[.val (.ref a), .val (.int (1 : Int32)), .val (.int y)] [])
  refine own_go (fun t k => XS.aloadN X2.here hx rfl (hb hby d6_10) rfl rfl  k) ?_
  show own_R p e below _ T2 (mkF m 11 #[.val (.ref a), .val (.int (1 : Int32)), .val (.int y)] [(.ref a)])
  obtain ⟨T3, X3, e3, st3⟩ := getF X2 hx hZ hown (host := "") (Or.inl (hw _ (List.mem_of_getElem? (i := 11) rfl))) Via.refl e2 F_words_a (g := (mkF m 11 #[.val (.ref a), .val (.int (1 : Int32)), .val (.int y)] [(.ref a)])) rfl rfl (hb hby d6_11)
  refine own_go (st3) ?_
  show own_R p e below _ T3 (mkF m 14 #[.val (.ref a), .val (.int (1 : Int32)), .val (.int y)] [(.ref w)])
  refine own_go (fun t k => XS.iloadN X3.here hx rfl (hb hby d6_14) rfl  k) ?_
  show own_R p e below _ T3 (mkF m 15 #[.val (.ref a), .val (.int (1 : Int32)), .val (.int y)] [(.int (1 : Int32)), (.ref w)])
  refine own_go (fun t k => XS.iloadN X3.here hx rfl (hb hby d6_15) rfl  k) ?_
  show own_R p e below _ T3 (mkF m 16 #[.val (.ref a), .val (.int (1 : Int32)), .val (.int y)] [(.int y), (.int (1 : Int32)), (.ref w)])
  obtain ⟨cl4, Ar4, q4, S4, Nn4, Hh4, G4⟩ := id V_w
  have hin4 : ¬ ((1 : Int32) < 0 ∨ cl4.slots.size ≤ ((1 : Int32)).toNatClampNeg) := inb_of S4 ⟨by decide, by decide⟩
  obtain ⟨T5, h5, X5, e5, W5, st5⟩ := stI X3 hx hZ e3 Ar4 (j := (1 : Int32)) hin4 (g := (mkF m 16 #[.val (.ref a), .val (.int (1 : Int32)), .val (.int y)] [(.int y), (.int (1 : Int32)), (.ref w)])) rfl rfl (hb hby d6_16)
  have N5 := Fr.snoc X5 N2 g_w
  replace Kh := Kh.wr W5 (Or.inl (List.mem_of_getElem? (i := 1) rfl))
  replace F_words_a := Fld.other W5 F_words_a (Or.inl ne_a_w)
  replace F_localCount_a := Fld.other W5 F_localCount_a (Or.inl ne_a_w)
  replace F_maxStack_a := Fld.other W5 F_maxStack_a (Or.inl ne_a_w)
  replace F_top_a := Fld.other W5 F_top_a (Or.inl ne_a_w)
  replace F_thisUninitialized_a := Fld.other W5 F_thisUninitialized_a (Or.inl ne_a_w)
  replace F_localsVersion_a := Fld.other W5 F_localsVersion_a (Or.inl ne_a_w)
  replace E_a := Exa.wr W5 E_a
  have V_w_5 : Arv Z h5 w kw .int (4 : Int32) [(.int x0), (.int y), (.int (0 : Int32)), (.int (0 : Int32))] (.int (0 : Int32)) := Arv.set Ar4 q4 S4 Nn4 Hh4 G4 rfl W5 1 rfl (Nat.le_of_ble_eq_true rfl)
  refine own_go (st5) ?_
  show own_R p e below _ T5 (mkF m 17 #[.val (.ref a), .val (.int (1 : Int32)), .val (.int y)] [])
  refine own_go (fun t k => XS.aloadN X5.here hx rfl (hb hby d6_17) rfl rfl  k) ?_
  show own_R p e below _ T5 (mkF m 18 #[.val (.ref a), .val (.int (1 : Int32)), .val (.int y)] [(.ref a)])
  refine own_go (fun t k => XS.dup X5.here hx rfl (hb hby d6_18) rfl rfl k) ?_
  show own_R p e below _ T5 (mkF m 19 #[.val (.ref a), .val (.int (1 : Int32)), .val (.int y)] [(.ref a), (.ref a)])
  obtain ⟨T6, X6, e6, st6⟩ := getF X5 hx hZ hown (host := "") (Or.inl (hw _ (List.mem_of_getElem? (i := 33) rfl))) Via.refl e5 F_localsVersion_a (g := (mkF m 19 #[.val (.ref a), .val (.int (1 : Int32)), .val (.int y)] [(.ref a), (.ref a)])) rfl rfl (hb hby d6_19)
  refine own_go (st6) ?_
  show own_R p e below _ T6 (mkF m 22 #[.val (.ref a), .val (.int (1 : Int32)), .val (.int y)] [(.int (2 : Int32)), (.ref a)])
  refine own_go (fun t k => XS.iconst X6.here hx rfl (hb hby d6_22) k) ?_
  show own_R p e below _ T6 (mkF m 23 #[.val (.ref a), .val (.int (1 : Int32)), .val (.int y)] [(.int (1 : Int32)), (.int (2 : Int32)), (.ref a)])
  refine own_go (fun t k => XS.iadd X6.here hx rfl (hb hby d6_23) rfl k) ?_
  show own_R p e below _ T6 (mkF m 24 #[.val (.ref a), .val (.int (1 : Int32)), .val (.int y)] [(.int (3 : Int32)), (.ref a)])
  obtain ⟨T7, h7, X7, e7, W7, st7⟩ := putF X6 hx hZ hown (host := "") (Or.inl (hw _ (List.mem_of_getElem? (i := 33) rfl))) Via.refl e6 F_localsVersion_a E_a (Or.inl (hw _ (List.mem_of_getElem? (i := 34) rfl))) (hw _ (List.mem_of_getElem? (i := 2) rfl)) (ty := .int) (by decide) rfl rfl (g := (mkF m 24 #[.val (.ref a), .val (.int (1 : Int32)), .val (.int y)] [(.int (3 : Int32)), (.ref a)])) rfl rfl (hb hby d6_24)
  have N7 := Fr.snoc X7 N5 g_a
  replace Kh := Kh.wr W7 (Or.inl (List.mem_of_getElem? (i := 0) rfl))
  replace F_words_a := Fld.other W7 F_words_a (Or.inr (slot_ne (Or.inl (hw _ (List.mem_of_getElem? (i := 12) rfl))) (Or.inl (hw _ (List.mem_of_getElem? (i := 34) rfl))) (by decide) (t := (.array .int)) (t' := .int) (by decide) (by decide)))
  replace F_localCount_a := Fld.other W7 F_localCount_a (Or.inr (slot_ne (Or.inl (hw _ (List.mem_of_getElem? (i := 26) rfl))) (Or.inl (hw _ (List.mem_of_getElem? (i := 34) rfl))) (by decide) (t := .int) (t' := .int) (by decide) (by decide)))
  replace F_maxStack_a := Fld.other W7 F_maxStack_a (Or.inr (slot_ne (Or.inl (hw _ (List.mem_of_getElem? (i := 28) rfl))) (Or.inl (hw _ (List.mem_of_getElem? (i := 34) rfl))) (by decide) (t := .int) (t' := .int) (by decide) (by decide)))
  replace F_top_a := Fld.other W7 F_top_a (Or.inr (slot_ne (Or.inl (hw _ (List.mem_of_getElem? (i := 30) rfl))) (Or.inl (hw _ (List.mem_of_getElem? (i := 34) rfl))) (by decide) (t := .int) (t' := .int) (by decide) (by decide)))
  replace F_thisUninitialized_a := Fld.other W7 F_thisUninitialized_a (Or.inr (slot_ne (Or.inl (hw _ (List.mem_of_getElem? (i := 32) rfl))) (Or.inl (hw _ (List.mem_of_getElem? (i := 34) rfl))) (by decide) (t := .boolean) (t' := .int) (by decide) (by decide)))
  replace F_localsVersion_a := Fld.same W7 F_localsVersion_a
  replace E_a := Exa.wr W7 E_a
  replace V_w_5 := Arv.other V_w_5 W7 (Ne.symm ne_a_w)
  refine own_go (st7) ?_
  show own_R p e below _ T7 (mkF m 27 #[.val (.ref a), .val (.int (1 : Int32)), .val (.int y)] [])
  refine own_retV X7 hx Bd.returns (BodyLoose.notSynchronized Bd) (hb hby d6_27) (by decide) (by decide) ?_
  rw [e7]
  exact ⟨rfl, N7, Kh, E_a, F_words_a, F_localCount_a, F_maxStack_a, F_top_a, F_thisUninitialized_a, F_localsVersion_a, V_w_5⟩
theorem d10_0 : decode prog_110_method_20_code 0 = .ok (.aload_n 0, 1) := by decide +kernel
theorem d10_1 : decode prog_110_method_20_code 1 = .ok (.getfield 28, 3) := by decide +kernel
theorem d10_4 : decode prog_110_method_20_code 4 = .ok (.iload_n 1, 1) := by decide +kernel
theorem d10_5 : decode prog_110_method_20_code 5 = .ok (.iadd, 1) := by decide +kernel
theorem d10_6 : decode prog_110_method_20_code 6 = .ok (.aload_n 0, 1) := by decide +kernel
theorem d10_7 : decode prog_110_method_20_code 7 = .ok (.getfield 21, 3) := by decide +kernel
theorem d10_10 : decode prog_110_method_20_code 10 = .ok (.aload_n 0, 1) := by decide +kernel
theorem d10_11 : decode prog_110_method_20_code 11 = .ok (.getfield 25, 3) := by decide +kernel
theorem d10_14 : decode prog_110_method_20_code 14 = .ok (.iadd, 1) := by decide +kernel
theorem d10_15 : decode prog_110_method_20_code 15 = .ok (.if_icmp .le 7, 3) := by decide +kernel
theorem d10_22 : decode prog_110_method_20_code 22 = .ok (.return_, 1) := by decide +kernel
theorem ef_rr_pu2 (m : MethodId) (x0 : Addr) : entryFrame m #[(.ref x0), (.int (1 : Int32))] 2 = mkF m 0 #[.val (.ref x0), .val (.int (1 : Int32))] [] := by first | (simp [entryFrame, mkF, argsToLocals, Value.category]; done) | rfl
def Qrr_pu2 (Z : State) (a : Addr) (w : Addr) (kw : ClassId) (x0 : Int32) (x1 : Int32) (h0 : Heap) (n0 : Nat) (v : Option Value) (h : Heap) (L : List Loc) : Prop := v = none ∧ Fr n0 L ∧ h = h0
set_option maxRecDepth 65536 in
set_option maxHeartbeats 40000000 in
theorem rmrr_pu2 (l : Launch) (Z : State) (a0 : Array Value) (hw : ∀ d ∈ tables_1, d.before a0 Z = true) (ws : List Jvm.Cond) (a : Addr) (w : Addr) (kw : ClassId) (x0 : Int32) (x1 : Int32) (h0 : Heap) (n0 : Nat) (Z0 : n0 ≤ h0.size) (F_words_a : Fld Z h0 a "com/example/signetry/signetry/card/WordFrame" "words" "[I" (.ref w)) (F_localCount_a : Fld Z h0 a "com/example/signetry/signetry/card/WordFrame" "localCount" "I" (.int (2 : Int32))) (F_maxStack_a : Fld Z h0 a "com/example/signetry/signetry/card/WordFrame" "maxStack" "I" (.int (2 : Int32))) (F_top_a : Fld Z h0 a "com/example/signetry/signetry/card/WordFrame" "top" "I" (.int (2 : Int32))) (F_thisUninitialized_a : Fld Z h0 a "com/example/signetry/signetry/card/WordFrame" "thisUninitialized" "Z" (.int (0 : Int32))) (F_localsVersion_a : Fld Z h0 a "com/example/signetry/signetry/card/WordFrame" "localsVersion" "I" (.int (3 : Int32))) (E_a : Exa Z h0 a "com/example/signetry/signetry/card/WordFrame") (V_w : Arv Z h0 w kw .int (4 : Int32) [(.int x0), (.int x1), (.int (0 : Int32)), (.int (0 : Int32))] (.int (0 : Int32))) :
    MetFree l (⟨"com/example/signetry/signetry/card/WordFrame", "requireRoom", "(I)V"⟩ : MethodName) (head1 (Jvm.Cond.code (⟨"com/example/signetry/signetry/card/WordFrame", "requireRoom", "(I)V"⟩ : MethodName) prog_110_method_20_code 2 none :: ws) ({ frames := 0, cells := 0, slots := 0, locals := 0 } : Room)) (fun aS U => aS = #[(.ref a), (.int (1 : Int32))] ∧ Z.Warmed39 U.vm ∧ U.heap = h0) (fun _ _ _ _ _ => True) (fun _ U o U' => ∃ v L, o = .returned v ∧ Qrr_pu2 Z a w kw x0 x1 h0 n0 v U'.heap L ∧ FrameEnd U o U' L ({ frames := 0, cells := 0, slots := 0, locals := 0 } : Room).cells ({ frames := 0, cells := 0, slots := 0, locals := 0 } : Room).slots) := by
  refine MetFree.of_bodySF (plainFor_of_name pn_0) hisR ?_
  intro p e s m args below meth c s₁ Bd hml0 hP hK
  obtain ⟨rfl, hZ, hh⟩ := hP
  have hx := Bd.exec
  have hby := Bd.bytes
  have hml : c.maxLocals = 2 := hml0
  have hown : s.vm.findClass "com/example/signetry/signetry/card/WordFrame" = some m.cls := findClass_of_methodNamed Bd.named
  have hnm := (name_of_methodNamed Bd.named Bd.method).1
  have X0 : Stand p l e ({ frames := 0, cells := 0, slots := 0, locals := 0 } : Room) s m #[(.ref a), (.int (1 : Int32))] below meth c s₁ [] 0 0 := Stand.of_body Bd
  have e0 : s₁.heap = h0 := by rw [← hh, Bd.state]; rfl
  have N0 := Fr.nil n0
  have Kh : Keep h0 h0 [] := Keep.refl _ _
  suffices H : own_R p e below (own_E s below (Qrr_pu2 Z a w kw x0 x1 h0 n0) ({ frames := 0, cells := 0, slots := 0, locals := 0 } : Room).cells ({ frames := 0, cells := 0, slots := 0, locals := 0 } : Room).slots) s₁ (mkF m 0 #[.val (.ref a), .val (.int (1 : Int32))] []) by
    obtain ⟨t, hst, hrun, v, L, hend, hQ, hF⟩ := H
    exact ⟨t, _, castTop (ef_rr_pu2 m a) hst, hrun, hend, v, L, rfl, hQ, hF⟩
  show own_R p e below _ s₁ (mkF m 0 #[.val (.ref a), .val (.int (1 : Int32))] [])
  refine own_go (fun t k => XS.aloadN X0.here hx rfl (hb hby d10_0) rfl rfl  k) ?_
  show own_R p e below _ s₁ (mkF m 1 #[.val (.ref a), .val (.int (1 : Int32))] [(.ref a)])
  obtain ⟨T1, X1, e1, st1⟩ := getF X0 hx hZ hown (host := "") (Or.inl (hw _ (List.mem_of_getElem? (i := 29) rfl))) Via.refl e0 F_top_a (g := (mkF m 1 #[.val (.ref a), .val (.int (1 : Int32))] [(.ref a)])) rfl rfl (hb hby d10_1)
  refine own_go (st1) ?_
  show own_R p e below _ T1 (mkF m 4 #[.val (.ref a), .val (.int (1 : Int32))] [(.int (2 : Int32))])
  refine own_go (fun t k => XS.iloadN X1.here hx rfl (hb hby d10_4) rfl  k) ?_
  show own_R p e below _ T1 (mkF m 5 #[.val (.ref a), .val (.int (1 : Int32))] [(.int (1 : Int32)), (.int (2 : Int32))])
  refine own_go (fun t k => XS.iadd X1.here hx rfl (hb hby d10_5) rfl k) ?_
  show own_R p e below _ T1 (mkF m 6 #[.val (.ref a), .val (.int (1 : Int32))] [(.int (3 : Int32))])
  refine own_go (fun t k => XS.aloadN X1.here hx rfl (hb hby d10_6) rfl rfl  k) ?_
  show own_R p e below _ T1 (mkF m 7 #[.val (.ref a), .val (.int (1 : Int32))] [(.ref a), (.int (3 : Int32))])
  obtain ⟨T2, X2, e2, st2⟩ := getF X1 hx hZ hown (host := "") (Or.inl (hw _ (List.mem_of_getElem? (i := 25) rfl))) Via.refl e1 F_localCount_a (g := (mkF m 7 #[.val (.ref a), .val (.int (1 : Int32))] [(.ref a), (.int (3 : Int32))])) rfl rfl (hb hby d10_7)
  refine own_go (st2) ?_
  show own_R p e below _ T2 (mkF m 10 #[.val (.ref a), .val (.int (1 : Int32))] [(.int (2 : Int32)), (.int (3 : Int32))])
  refine own_go (fun t k => XS.aloadN X2.here hx rfl (hb hby d10_10) rfl rfl  k) ?_
  show own_R p e below _ T2 (mkF m 11 #[.val (.ref a), .val (.int (1 : Int32))] [(.ref a), (.int (2 : Int32)), (.int (3 : Int32))])
  obtain ⟨T3, X3, e3, st3⟩ := getF X2 hx hZ hown (host := "") (Or.inl (hw _ (List.mem_of_getElem? (i := 27) rfl))) Via.refl e2 F_maxStack_a (g := (mkF m 11 #[.val (.ref a), .val (.int (1 : Int32))] [(.ref a), (.int (2 : Int32)), (.int (3 : Int32))])) rfl rfl (hb hby d10_11)
  refine own_go (st3) ?_
  show own_R p e below _ T3 (mkF m 14 #[.val (.ref a), .val (.int (1 : Int32))] [(.int (2 : Int32)), (.int (2 : Int32)), (.int (3 : Int32))])
  refine own_go (fun t k => XS.iadd X3.here hx rfl (hb hby d10_14) rfl k) ?_
  show own_R p e below _ T3 (mkF m 15 #[.val (.ref a), .val (.int (1 : Int32))] [(.int (4 : Int32)), (.int (3 : Int32))])
  refine own_go (fun t k => XS.icmpYes X3.here hx rfl (pc0 := 15) (pc' := 22) rfl (hb hby d10_15) rfl (flt (by decide : ¬ ((4 : Int32) < (3 : Int32)))).2.2.2 (by decide) (by decide) k) ?_
  show own_R p e below _ T3 (mkF m 22 #[.val (.ref a), .val (.int (1 : Int32))] [])
  refine own_retV X3 hx Bd.returns (BodyLoose.notSynchronized Bd) (hb hby d10_22) (by decide) (by decide) ?_
  exact ⟨rfl, N0, e3⟩
theorem d9_0 : decode prog_110_method_14_code 0 = .ok (.aload_n 0, 1) := by decide +kernel
theorem d9_1 : decode prog_110_method_14_code 1 = .ok (.iconst 1, 1) := by decide +kernel
theorem d9_2 : decode prog_110_method_14_code 2 = .ok (.invokevirtual 51, 3) := by decide +kernel
theorem d9_5 : decode prog_110_method_14_code 5 = .ok (.aload_n 0, 1) := by decide +kernel
theorem d9_6 : decode prog_110_method_14_code 6 = .ok (.getfield 7, 3) := by decide +kernel
theorem d9_9 : decode prog_110_method_14_code 9 = .ok (.aload_n 0, 1) := by decide +kernel
theorem d9_10 : decode prog_110_method_14_code 10 = .ok (.getfield 28, 3) := by decide +kernel
theorem d9_13 : decode prog_110_method_14_code 13 = .ok (.iload_n 1, 1) := by decide +kernel
theorem d9_14 : decode prog_110_method_14_code 14 = .ok (.iastore, 1) := by decide +kernel
theorem d9_15 : decode prog_110_method_14_code 15 = .ok (.aload_n 0, 1) := by decide +kernel
theorem d9_16 : decode prog_110_method_14_code 16 = .ok (.dup, 1) := by decide +kernel
theorem d9_17 : decode prog_110_method_14_code 17 = .ok (.getfield 28, 3) := by decide +kernel
theorem d9_20 : decode prog_110_method_14_code 20 = .ok (.iconst 1, 1) := by decide +kernel
theorem d9_21 : decode prog_110_method_14_code 21 = .ok (.iadd, 1) := by decide +kernel
theorem d9_22 : decode prog_110_method_14_code 22 = .ok (.putfield 28, 3) := by decide +kernel
theorem d9_25 : decode prog_110_method_14_code 25 = .ok (.return_, 1) := by decide +kernel
theorem ef_push_pu2 (m : MethodId) (x0 : Addr) (x1 : Int32) : entryFrame m #[(.ref x0), (.int x1)] 2 = mkF m 0 #[.val (.ref x0), .val (.int x1)] [] := by first | (simp [entryFrame, mkF, argsToLocals, Value.category]; done) | rfl
def Qpush_pu2 (Z : State) (a : Addr) (y : Int32) (w : Addr) (kw : ClassId) (x0 : Int32) (x1 : Int32) (h0 : Heap) (n0 : Nat) (v : Option Value) (h : Heap) (L : List Loc) : Prop := v = none ∧ Fr n0 L ∧ Keep h0 h [a, w] ∧ Exa Z h a "com/example/signetry/signetry/card/WordFrame" ∧ Fld Z h a "com/example/signetry/signetry/card/WordFrame" "words" "[I" (.ref w) ∧ Fld Z h a "com/example/signetry/signetry/card/WordFrame" "localCount" "I" (.int (2 : Int32)) ∧ Fld Z h a "com/example/signetry/signetry/card/WordFrame" "maxStack" "I" (.int (2 : Int32)) ∧ Fld Z h a "com/example/signetry/signetry/card/WordFrame" "top" "I" (.int (3 : Int32)) ∧ Fld Z h a "com/example/signetry/signetry/card/WordFrame" "thisUninitialized" "Z" (.int (0 : Int32)) ∧ Fld Z h a "com/example/signetry/signetry/card/WordFrame" "localsVersion" "I" (.int (3 : Int32)) ∧ Arv Z h w kw .int (4 : Int32) [(.int x0), (.int x1), (.int y), (.int (0 : Int32))] (.int (0 : Int32))
set_option maxRecDepth 65536 in
set_option maxHeartbeats 40000000 in
theorem rmpush_pu2 (l : Launch) (Z : State) (a0 : Array Value) (hw : ∀ d ∈ tables_1, d.before a0 Z = true) (ws : List Jvm.Cond) (a : Addr) (y : Int32) (w : Addr) (kw : ClassId) (x0 : Int32) (x1 : Int32) (h0 : Heap) (n0 : Nat) (Z0 : n0 ≤ h0.size) (F_words_a : Fld Z h0 a "com/example/signetry/signetry/card/WordFrame" "words" "[I" (.ref w)) (F_localCount_a : Fld Z h0 a "com/example/signetry/signetry/card/WordFrame" "localCount" "I" (.int (2 : Int32))) (F_maxStack_a : Fld Z h0 a "com/example/signetry/signetry/card/WordFrame" "maxStack" "I" (.int (2 : Int32))) (F_top_a : Fld Z h0 a "com/example/signetry/signetry/card/WordFrame" "top" "I" (.int (2 : Int32))) (F_thisUninitialized_a : Fld Z h0 a "com/example/signetry/signetry/card/WordFrame" "thisUninitialized" "Z" (.int (0 : Int32))) (F_localsVersion_a : Fld Z h0 a "com/example/signetry/signetry/card/WordFrame" "localsVersion" "I" (.int (3 : Int32))) (E_a : Exa Z h0 a "com/example/signetry/signetry/card/WordFrame") (V_w : Arv Z h0 w kw .int (4 : Int32) [(.int x0), (.int x1), (.int (0 : Int32)), (.int (0 : Int32))] (.int (0 : Int32))) (g_a : n0 ≤ a) (g_w : n0 ≤ w) (ne_a_w : a ≠ w) :
    MetFree l (⟨"com/example/signetry/signetry/card/WordFrame", "push", "(I)V"⟩ : MethodName) (head1 (Jvm.Cond.code (⟨"com/example/signetry/signetry/card/WordFrame", "push", "(I)V"⟩ : MethodName) prog_110_method_14_code 2 none :: ws) ({ frames := 1, cells := 0, slots := 0, locals := 13 } : Room)) (fun aS U => aS = #[(.ref a), (.int y)] ∧ Z.Warmed39 U.vm ∧ U.heap = h0) (fun _ _ _ _ _ => True) (fun _ U o U' => ∃ v L, o = .returned v ∧ Qpush_pu2 Z a y w kw x0 x1 h0 n0 v U'.heap L ∧ FrameEnd U o U' L ({ frames := 1, cells := 0, slots := 0, locals := 13 } : Room).cells ({ frames := 1, cells := 0, slots := 0, locals := 13 } : Room).slots) := by
  refine MetFree.of_bodySF (plainFor_of_name pn_0) hisR ?_
  intro p e s m args below meth c s₁ Bd hml0 hP hK
  obtain ⟨rfl, hZ, hh⟩ := hP
  have hx := Bd.exec
  have hby := Bd.bytes
  have hml : c.maxLocals = 2 := hml0
  have hown : s.vm.findClass "com/example/signetry/signetry/card/WordFrame" = some m.cls := findClass_of_methodNamed Bd.named
  have hnm := (name_of_methodNamed Bd.named Bd.method).1
  have X0 : Stand p l e ({ frames := 1, cells := 0, slots := 0, locals := 13 } : Room) s m #[(.ref a), (.int y)] below meth c s₁ [] 0 0 := Stand.of_body Bd
  have e0 : s₁.heap = h0 := by rw [← hh, Bd.state]; rfl
  have N0 := Fr.nil n0
  have Kh : Keep h0 h0 [a, w] := Keep.refl _ _
  suffices H : own_R p e below (own_E s below (Qpush_pu2 Z a y w kw x0 x1 h0 n0) ({ frames := 1, cells := 0, slots := 0, locals := 13 } : Room).cells ({ frames := 1, cells := 0, slots := 0, locals := 13 } : Room).slots) s₁ (mkF m 0 #[.val (.ref a), .val (.int y)] []) by
    obtain ⟨t, hst, hrun, v, L, hend, hQ, hF⟩ := H
    exact ⟨t, _, castTop (ef_push_pu2 m a y) hst, hrun, hend, v, L, rfl, hQ, hF⟩
  show own_R p e below _ s₁ (mkF m 0 #[.val (.ref a), .val (.int y)] [])
  refine own_go (fun t k => XS.aloadN X0.here hx rfl (hb hby d9_0) rfl rfl  k) ?_
  show own_R p e below _ s₁ (mkF m 1 #[.val (.ref a), .val (.int y)] [(.ref a)])
  refine own_go (fun t k => XS.iconst X0.here hx rfl (hb hby d9_1) k) ?_
  show own_R p e below _ s₁ (mkF m 2 #[.val (.ref a), .val (.int y)] [(.int (1 : Int32)), (.ref a)])
  obtain ⟨cq1, q1, q1'⟩ := E_a.cell
  obtain ⟨_, _, ⟨T1, L1, k1, n1⟩, -, X1, ⟨Lc1, hQ1, l1, y1, z1⟩, st1⟩ := X0.privateBack hx (y := (⟨"com/example/signetry/signetry/card/WordFrame", "requireRoom", "(I)V"⟩ : MethodName)) hown (mvT hZ (hw _ (List.mem_of_getElem? (i := 53) rfl))) (mvT hZ (hw _ (List.mem_of_getElem? (i := 54) rfl))) (Jvm.Kit.selects_private (by decide) (mvT hZ (hw _ (List.mem_of_getElem? (i := 2) rfl))) (mvP hZ (hw _ (List.mem_of_getElem? (i := 55) rfl))) (mvT hZ (hw _ (List.mem_of_getElem? (i := 54) rfl)))) (Cond.privateMethod_at (mvP hZ (hw _ (List.mem_of_getElem? (i := 55) rfl)) (args := #[]))) (mvT hZ (hw _ (List.mem_of_getElem? (i := 56) rfl))) (by decide) (backOf (W := 0) (rmrr_pu2 l Z a0 hw [] a w kw x0 x1 h0 n0 (Nat.le_trans Z0 Kh.1) F_words_a F_localCount_a F_maxStack_a F_top_a F_thisUninitialized_a F_localsVersion_a E_a V_w) hZ (hw _ (List.mem_of_getElem? (i := 56) rfl)) (hw _ (List.mem_of_getElem? (i := 3) rfl)) (by decide) (by decide)) (g := (mkF m 2 #[.val (.ref a), .val (.int y)] [(.int (1 : Int32)), (.ref a)])) rfl (by rw [hml]; rfl) (Steps.refl _) (a := a) (by rw [e0]; exact q1) q1' (argsL := [(.int (1 : Int32))]) (rest := []) (lenOf pd_4 rfl) rfl (by show 2 * 0 + _ ≤ _; exact Nat.le_of_eq rfl) (hb hby d9_2) (fun _ _ => ⟨rfl, e0, (by decide : 0 + 0 ≤ _), (by decide : 0 + 0 ≤ _)⟩)
  dsimp only [Pt.U, Pt.locs, Pt.cells, Pt.slots] at X1 l1 y1 z1 st1 hQ1
  subst l1 y1 z1
  obtain ⟨rfl, Nq1, e1⟩ := hQ1
  have N1 := Fr.app N0 Nq1
  refine own_go (fun t k => st1.trans k) ?_
  show own_R p e below _ T1 (mkF m 5 #[.val (.ref a), .val (.int y)] [])
  refine own_go (fun t k => XS.aloadN X1.here hx rfl (hb hby d9_5) rfl rfl  k) ?_
  show own_R p e below _ T1 (mkF m 6 #[.val (.ref a), .val (.int y)] [(.ref a)])
  obtain ⟨T2, X2, e2, st2⟩ := getF X1 hx hZ hown (host := "") (Or.inl (hw _ (List.mem_of_getElem? (i := 11) rfl))) Via.refl e1 F_words_a (g := (mkF m 6 #[.val (.ref a), .val (.int y)] [(.ref a)])) rfl rfl (hb hby d9_6)
  refine own_go (st2) ?_
  show own_R p e below _ T2 (mkF m 9 #[.val (.ref a), .val (.int y)] [(.ref w)])
  refine own_go (fun t k => XS.aloadN X2.here hx rfl (hb hby d9_9) rfl rfl  k) ?_
  show own_R p e below _ T2 (mkF m 10 #[.val (.ref a), .val (.int y)] [(.ref a), (.ref w)])
  obtain ⟨T3, X3, e3, st3⟩ := getF X2 hx hZ hown (host := "") (Or.inl (hw _ (List.mem_of_getElem? (i := 29) rfl))) Via.refl e2 F_top_a (g := (mkF m 10 #[.val (.ref a), .val (.int y)] [(.ref a), (.ref w)])) rfl rfl (hb hby d9_10)
  refine own_go (st3) ?_
  show own_R p e below _ T3 (mkF m 13 #[.val (.ref a), .val (.int y)] [(.int (2 : Int32)), (.ref w)])
  refine own_go (fun t k => XS.iloadN X3.here hx rfl (hb hby d9_13) rfl  k) ?_
  show own_R p e below _ T3 (mkF m 14 #[.val (.ref a), .val (.int y)] [(.int y), (.int (2 : Int32)), (.ref w)])
  obtain ⟨cl4, Ar4, q4, S4, Nn4, Hh4, G4⟩ := id V_w
  have hin4 : ¬ ((2 : Int32) < 0 ∨ cl4.slots.size ≤ ((2 : Int32)).toNatClampNeg) := inb_of S4 ⟨by decide, by decide⟩
  obtain ⟨T5, h5, X5, e5, W5, st5⟩ := stI X3 hx hZ e3 Ar4 (j := (2 : Int32)) hin4 (g := (mkF m 14 #[.val (.ref a), .val (.int y)] [(.int y), (.int (2 : Int32)), (.ref w)])) rfl rfl (hb hby d9_14)
  have N5 := Fr.snoc X5 N1 g_w
  replace Kh := Kh.wr W5 (Or.inl (List.mem_of_getElem? (i := 1) rfl))
  replace F_words_a := Fld.other W5 F_words_a (Or.inl ne_a_w)
  replace F_localCount_a := Fld.other W5 F_localCount_a (Or.inl ne_a_w)
  replace F_maxStack_a := Fld.other W5 F_maxStack_a (Or.inl ne_a_w)
  replace F_top_a := Fld.other W5 F_top_a (Or.inl ne_a_w)
  replace F_thisUninitialized_a := Fld.other W5 F_thisUninitialized_a (Or.inl ne_a_w)
  replace F_localsVersion_a := Fld.other W5 F_localsVersion_a (Or.inl ne_a_w)
  replace E_a := Exa.wr W5 E_a
  have V_w_5 : Arv Z h5 w kw .int (4 : Int32) [(.int x0), (.int x1), (.int y), (.int (0 : Int32))] (.int (0 : Int32)) := Arv.set Ar4 q4 S4 Nn4 Hh4 G4 rfl W5 2 rfl (Nat.le_of_ble_eq_true rfl)
  refine own_go (st5) ?_
  show own_R p e below _ T5 (mkF m 15 #[.val (.ref a), .val (.int y)] [])
  refine own_go (fun t k => XS.aloadN X5.here hx rfl (hb hby d9_15) rfl rfl  k) ?_
  show own_R p e below _ T5 (mkF m 16 #[.val (.ref a), .val (.int y)] [(.ref a)])
  refine own_go (fun t k => XS.dup X5.here hx rfl (hb hby d9_16) rfl rfl k) ?_
  show own_R p e below _ T5 (mkF m 17 #[.val (.ref a), .val (.int y)] [(.ref a), (.ref a)])
  obtain ⟨T6, X6, e6, st6⟩ := getF X5 hx hZ hown (host := "") (Or.inl (hw _ (List.mem_of_getElem? (i := 29) rfl))) Via.refl e5 F_top_a (g := (mkF m 17 #[.val (.ref a), .val (.int y)] [(.ref a), (.ref a)])) rfl rfl (hb hby d9_17)
  refine own_go (st6) ?_
  show own_R p e below _ T6 (mkF m 20 #[.val (.ref a), .val (.int y)] [(.int (2 : Int32)), (.ref a)])
  refine own_go (fun t k => XS.iconst X6.here hx rfl (hb hby d9_20) k) ?_
  show own_R p e below _ T6 (mkF m 21 #[.val (.ref a), .val (.int y)] [(.int (1 : Int32)), (.int (2 : Int32)), (.ref a)])
  refine own_go (fun t k => XS.iadd X6.here hx rfl (hb hby d9_21) rfl k) ?_
  show own_R p e below _ T6 (mkF m 22 #[.val (.ref a), .val (.int y)] [(.int (3 : Int32)), (.ref a)])
  obtain ⟨T7, h7, X7, e7, W7, st7⟩ := putF X6 hx hZ hown (host := "") (Or.inl (hw _ (List.mem_of_getElem? (i := 29) rfl))) Via.refl e6 F_top_a E_a (Or.inl (hw _ (List.mem_of_getElem? (i := 30) rfl))) (hw _ (List.mem_of_getElem? (i := 2) rfl)) (ty := .int) (by decide) rfl rfl (g := (mkF m 22 #[.val (.ref a), .val (.int y)] [(.int (3 : Int32)), (.ref a)])) rfl rfl (hb hby d9_22)
  have N7 := Fr.snoc X7 N5 g_a
  replace Kh := Kh.wr W7 (Or.inl (List.mem_of_getElem? (i := 0) rfl))
  replace F_words_a := Fld.other W7 F_words_a (Or.inr (slot_ne (Or.inl (hw _ (List.mem_of_getElem? (i := 12) rfl))) (Or.inl (hw _ (List.mem_of_getElem? (i := 30) rfl))) (by decide) (t := (.array .int)) (t' := .int) (by decide) (by decide)))
  replace F_localCount_a := Fld.other W7 F_localCount_a (Or.inr (slot_ne (Or.inl (hw _ (List.mem_of_getElem? (i := 26) rfl))) (Or.inl (hw _ (List.mem_of_getElem? (i := 30) rfl))) (by decide) (t := .int) (t' := .int) (by decide) (by decide)))
  replace F_maxStack_a := Fld.other W7 F_maxStack_a (Or.inr (slot_ne (Or.inl (hw _ (List.mem_of_getElem? (i := 28) rfl))) (Or.inl (hw _ (List.mem_of_getElem? (i := 30) rfl))) (by decide) (t := .int) (t' := .int) (by decide) (by decide)))
  replace F_top_a := Fld.same W7 F_top_a
  replace F_thisUninitialized_a := Fld.other W7 F_thisUninitialized_a (Or.inr (slot_ne (Or.inl (hw _ (List.mem_of_getElem? (i := 32) rfl))) (Or.inl (hw _ (List.mem_of_getElem? (i := 30) rfl))) (by decide) (t := .boolean) (t' := .int) (by decide) (by decide)))
  replace F_localsVersion_a := Fld.other W7 F_localsVersion_a (Or.inr (slot_ne (Or.inl (hw _ (List.mem_of_getElem? (i := 34) rfl))) (Or.inl (hw _ (List.mem_of_getElem? (i := 30) rfl))) (by decide) (t := .int) (t' := .int) (by decide) (by decide)))
  replace E_a := Exa.wr W7 E_a
  replace V_w_5 := Arv.other V_w_5 W7 (Ne.symm ne_a_w)
  refine own_go (st7) ?_
  show own_R p e below _ T7 (mkF m 25 #[.val (.ref a), .val (.int y)] [])
  refine own_retV X7 hx Bd.returns (BodyLoose.notSynchronized Bd) (hb hby d9_25) (by decide) (by decide) ?_
  rw [e7]
  exact ⟨rfl, N7, Kh, E_a, F_words_a, F_localCount_a, F_maxStack_a, F_top_a, F_thisUninitialized_a, F_localsVersion_a, V_w_5⟩
theorem ef_rr_pu3 (m : MethodId) (x0 : Addr) : entryFrame m #[(.ref x0), (.int (1 : Int32))] 2 = mkF m 0 #[.val (.ref x0), .val (.int (1 : Int32))] [] := by first | (simp [entryFrame, mkF, argsToLocals, Value.category]; done) | rfl
def Qrr_pu3 (Z : State) (a : Addr) (w : Addr) (kw : ClassId) (x0 : Int32) (x1 : Int32) (x2 : Int32) (h0 : Heap) (n0 : Nat) (v : Option Value) (h : Heap) (L : List Loc) : Prop := v = none ∧ Fr n0 L ∧ h = h0
set_option maxRecDepth 65536 in
set_option maxHeartbeats 40000000 in
theorem rmrr_pu3 (l : Launch) (Z : State) (a0 : Array Value) (hw : ∀ d ∈ tables_1, d.before a0 Z = true) (ws : List Jvm.Cond) (a : Addr) (w : Addr) (kw : ClassId) (x0 : Int32) (x1 : Int32) (x2 : Int32) (h0 : Heap) (n0 : Nat) (Z0 : n0 ≤ h0.size) (F_words_a : Fld Z h0 a "com/example/signetry/signetry/card/WordFrame" "words" "[I" (.ref w)) (F_localCount_a : Fld Z h0 a "com/example/signetry/signetry/card/WordFrame" "localCount" "I" (.int (2 : Int32))) (F_maxStack_a : Fld Z h0 a "com/example/signetry/signetry/card/WordFrame" "maxStack" "I" (.int (2 : Int32))) (F_top_a : Fld Z h0 a "com/example/signetry/signetry/card/WordFrame" "top" "I" (.int (3 : Int32))) (F_thisUninitialized_a : Fld Z h0 a "com/example/signetry/signetry/card/WordFrame" "thisUninitialized" "Z" (.int (0 : Int32))) (F_localsVersion_a : Fld Z h0 a "com/example/signetry/signetry/card/WordFrame" "localsVersion" "I" (.int (3 : Int32))) (E_a : Exa Z h0 a "com/example/signetry/signetry/card/WordFrame") (V_w : Arv Z h0 w kw .int (4 : Int32) [(.int x0), (.int x1), (.int x2), (.int (0 : Int32))] (.int (0 : Int32))) :
    MetFree l (⟨"com/example/signetry/signetry/card/WordFrame", "requireRoom", "(I)V"⟩ : MethodName) (head1 (Jvm.Cond.code (⟨"com/example/signetry/signetry/card/WordFrame", "requireRoom", "(I)V"⟩ : MethodName) prog_110_method_20_code 2 none :: ws) ({ frames := 0, cells := 0, slots := 0, locals := 0 } : Room)) (fun aS U => aS = #[(.ref a), (.int (1 : Int32))] ∧ Z.Warmed39 U.vm ∧ U.heap = h0) (fun _ _ _ _ _ => True) (fun _ U o U' => ∃ v L, o = .returned v ∧ Qrr_pu3 Z a w kw x0 x1 x2 h0 n0 v U'.heap L ∧ FrameEnd U o U' L ({ frames := 0, cells := 0, slots := 0, locals := 0 } : Room).cells ({ frames := 0, cells := 0, slots := 0, locals := 0 } : Room).slots) := by
  refine MetFree.of_bodySF (plainFor_of_name pn_0) hisR ?_
  intro p e s m args below meth c s₁ Bd hml0 hP hK
  obtain ⟨rfl, hZ, hh⟩ := hP
  have hx := Bd.exec
  have hby := Bd.bytes
  have hml : c.maxLocals = 2 := hml0
  have hown : s.vm.findClass "com/example/signetry/signetry/card/WordFrame" = some m.cls := findClass_of_methodNamed Bd.named
  have hnm := (name_of_methodNamed Bd.named Bd.method).1
  have X0 : Stand p l e ({ frames := 0, cells := 0, slots := 0, locals := 0 } : Room) s m #[(.ref a), (.int (1 : Int32))] below meth c s₁ [] 0 0 := Stand.of_body Bd
  have e0 : s₁.heap = h0 := by rw [← hh, Bd.state]; rfl
  have N0 := Fr.nil n0
  have Kh : Keep h0 h0 [] := Keep.refl _ _
  suffices H : own_R p e below (own_E s below (Qrr_pu3 Z a w kw x0 x1 x2 h0 n0) ({ frames := 0, cells := 0, slots := 0, locals := 0 } : Room).cells ({ frames := 0, cells := 0, slots := 0, locals := 0 } : Room).slots) s₁ (mkF m 0 #[.val (.ref a), .val (.int (1 : Int32))] []) by
    obtain ⟨t, hst, hrun, v, L, hend, hQ, hF⟩ := H
    exact ⟨t, _, castTop (ef_rr_pu3 m a) hst, hrun, hend, v, L, rfl, hQ, hF⟩
  show own_R p e below _ s₁ (mkF m 0 #[.val (.ref a), .val (.int (1 : Int32))] [])
  refine own_go (fun t k => XS.aloadN X0.here hx rfl (hb hby d10_0) rfl rfl  k) ?_
  show own_R p e below _ s₁ (mkF m 1 #[.val (.ref a), .val (.int (1 : Int32))] [(.ref a)])
  obtain ⟨T1, X1, e1, st1⟩ := getF X0 hx hZ hown (host := "") (Or.inl (hw _ (List.mem_of_getElem? (i := 29) rfl))) Via.refl e0 F_top_a (g := (mkF m 1 #[.val (.ref a), .val (.int (1 : Int32))] [(.ref a)])) rfl rfl (hb hby d10_1)
  refine own_go (st1) ?_
  show own_R p e below _ T1 (mkF m 4 #[.val (.ref a), .val (.int (1 : Int32))] [(.int (3 : Int32))])
  refine own_go (fun t k => XS.iloadN X1.here hx rfl (hb hby d10_4) rfl  k) ?_
  show own_R p e below _ T1 (mkF m 5 #[.val (.ref a), .val (.int (1 : Int32))] [(.int (1 : Int32)), (.int (3 : Int32))])
  refine own_go (fun t k => XS.iadd X1.here hx rfl (hb hby d10_5) rfl k) ?_
  show own_R p e below _ T1 (mkF m 6 #[.val (.ref a), .val (.int (1 : Int32))] [(.int (4 : Int32))])
  refine own_go (fun t k => XS.aloadN X1.here hx rfl (hb hby d10_6) rfl rfl  k) ?_
  show own_R p e below _ T1 (mkF m 7 #[.val (.ref a), .val (.int (1 : Int32))] [(.ref a), (.int (4 : Int32))])
  obtain ⟨T2, X2, e2, st2⟩ := getF X1 hx hZ hown (host := "") (Or.inl (hw _ (List.mem_of_getElem? (i := 25) rfl))) Via.refl e1 F_localCount_a (g := (mkF m 7 #[.val (.ref a), .val (.int (1 : Int32))] [(.ref a), (.int (4 : Int32))])) rfl rfl (hb hby d10_7)
  refine own_go (st2) ?_
  show own_R p e below _ T2 (mkF m 10 #[.val (.ref a), .val (.int (1 : Int32))] [(.int (2 : Int32)), (.int (4 : Int32))])
  refine own_go (fun t k => XS.aloadN X2.here hx rfl (hb hby d10_10) rfl rfl  k) ?_
  show own_R p e below _ T2 (mkF m 11 #[.val (.ref a), .val (.int (1 : Int32))] [(.ref a), (.int (2 : Int32)), (.int (4 : Int32))])
  obtain ⟨T3, X3, e3, st3⟩ := getF X2 hx hZ hown (host := "") (Or.inl (hw _ (List.mem_of_getElem? (i := 27) rfl))) Via.refl e2 F_maxStack_a (g := (mkF m 11 #[.val (.ref a), .val (.int (1 : Int32))] [(.ref a), (.int (2 : Int32)), (.int (4 : Int32))])) rfl rfl (hb hby d10_11)
  refine own_go (st3) ?_
  show own_R p e below _ T3 (mkF m 14 #[.val (.ref a), .val (.int (1 : Int32))] [(.int (2 : Int32)), (.int (2 : Int32)), (.int (4 : Int32))])
  refine own_go (fun t k => XS.iadd X3.here hx rfl (hb hby d10_14) rfl k) ?_
  show own_R p e below _ T3 (mkF m 15 #[.val (.ref a), .val (.int (1 : Int32))] [(.int (4 : Int32)), (.int (4 : Int32))])
  refine own_go (fun t k => XS.icmpYes X3.here hx rfl (pc0 := 15) (pc' := 22) rfl (hb hby d10_15) rfl (flt (by decide : ¬ ((4 : Int32) < (4 : Int32)))).2.2.2 (by decide) (by decide) k) ?_
  show own_R p e below _ T3 (mkF m 22 #[.val (.ref a), .val (.int (1 : Int32))] [])
  refine own_retV X3 hx Bd.returns (BodyLoose.notSynchronized Bd) (hb hby d10_22) (by decide) (by decide) ?_
  exact ⟨rfl, N0, e3⟩
theorem ef_push_pu3 (m : MethodId) (x0 : Addr) (x1 : Int32) : entryFrame m #[(.ref x0), (.int x1)] 2 = mkF m 0 #[.val (.ref x0), .val (.int x1)] [] := by first | (simp [entryFrame, mkF, argsToLocals, Value.category]; done) | rfl
def Qpush_pu3 (Z : State) (a : Addr) (y : Int32) (w : Addr) (kw : ClassId) (x0 : Int32) (x1 : Int32) (x2 : Int32) (h0 : Heap) (n0 : Nat) (v : Option Value) (h : Heap) (L : List Loc) : Prop := v = none ∧ Fr n0 L ∧ Keep h0 h [a, w] ∧ Exa Z h a "com/example/signetry/signetry/card/WordFrame" ∧ Fld Z h a "com/example/signetry/signetry/card/WordFrame" "words" "[I" (.ref w) ∧ Fld Z h a "com/example/signetry/signetry/card/WordFrame" "localCount" "I" (.int (2 : Int32)) ∧ Fld Z h a "com/example/signetry/signetry/card/WordFrame" "maxStack" "I" (.int (2 : Int32)) ∧ Fld Z h a "com/example/signetry/signetry/card/WordFrame" "top" "I" (.int (4 : Int32)) ∧ Fld Z h a "com/example/signetry/signetry/card/WordFrame" "thisUninitialized" "Z" (.int (0 : Int32)) ∧ Fld Z h a "com/example/signetry/signetry/card/WordFrame" "localsVersion" "I" (.int (3 : Int32)) ∧ Arv Z h w kw .int (4 : Int32) [(.int x0), (.int x1), (.int x2), (.int y)] (.int (0 : Int32))
set_option maxRecDepth 65536 in
set_option maxHeartbeats 40000000 in
theorem rmpush_pu3 (l : Launch) (Z : State) (a0 : Array Value) (hw : ∀ d ∈ tables_1, d.before a0 Z = true) (ws : List Jvm.Cond) (a : Addr) (y : Int32) (w : Addr) (kw : ClassId) (x0 : Int32) (x1 : Int32) (x2 : Int32) (h0 : Heap) (n0 : Nat) (Z0 : n0 ≤ h0.size) (F_words_a : Fld Z h0 a "com/example/signetry/signetry/card/WordFrame" "words" "[I" (.ref w)) (F_localCount_a : Fld Z h0 a "com/example/signetry/signetry/card/WordFrame" "localCount" "I" (.int (2 : Int32))) (F_maxStack_a : Fld Z h0 a "com/example/signetry/signetry/card/WordFrame" "maxStack" "I" (.int (2 : Int32))) (F_top_a : Fld Z h0 a "com/example/signetry/signetry/card/WordFrame" "top" "I" (.int (3 : Int32))) (F_thisUninitialized_a : Fld Z h0 a "com/example/signetry/signetry/card/WordFrame" "thisUninitialized" "Z" (.int (0 : Int32))) (F_localsVersion_a : Fld Z h0 a "com/example/signetry/signetry/card/WordFrame" "localsVersion" "I" (.int (3 : Int32))) (E_a : Exa Z h0 a "com/example/signetry/signetry/card/WordFrame") (V_w : Arv Z h0 w kw .int (4 : Int32) [(.int x0), (.int x1), (.int x2), (.int (0 : Int32))] (.int (0 : Int32))) (g_a : n0 ≤ a) (g_w : n0 ≤ w) (ne_a_w : a ≠ w) :
    MetFree l (⟨"com/example/signetry/signetry/card/WordFrame", "push", "(I)V"⟩ : MethodName) (head1 (Jvm.Cond.code (⟨"com/example/signetry/signetry/card/WordFrame", "push", "(I)V"⟩ : MethodName) prog_110_method_14_code 2 none :: ws) ({ frames := 1, cells := 0, slots := 0, locals := 13 } : Room)) (fun aS U => aS = #[(.ref a), (.int y)] ∧ Z.Warmed39 U.vm ∧ U.heap = h0) (fun _ _ _ _ _ => True) (fun _ U o U' => ∃ v L, o = .returned v ∧ Qpush_pu3 Z a y w kw x0 x1 x2 h0 n0 v U'.heap L ∧ FrameEnd U o U' L ({ frames := 1, cells := 0, slots := 0, locals := 13 } : Room).cells ({ frames := 1, cells := 0, slots := 0, locals := 13 } : Room).slots) := by
  refine MetFree.of_bodySF (plainFor_of_name pn_0) hisR ?_
  intro p e s m args below meth c s₁ Bd hml0 hP hK
  obtain ⟨rfl, hZ, hh⟩ := hP
  have hx := Bd.exec
  have hby := Bd.bytes
  have hml : c.maxLocals = 2 := hml0
  have hown : s.vm.findClass "com/example/signetry/signetry/card/WordFrame" = some m.cls := findClass_of_methodNamed Bd.named
  have hnm := (name_of_methodNamed Bd.named Bd.method).1
  have X0 : Stand p l e ({ frames := 1, cells := 0, slots := 0, locals := 13 } : Room) s m #[(.ref a), (.int y)] below meth c s₁ [] 0 0 := Stand.of_body Bd
  have e0 : s₁.heap = h0 := by rw [← hh, Bd.state]; rfl
  have N0 := Fr.nil n0
  have Kh : Keep h0 h0 [a, w] := Keep.refl _ _
  suffices H : own_R p e below (own_E s below (Qpush_pu3 Z a y w kw x0 x1 x2 h0 n0) ({ frames := 1, cells := 0, slots := 0, locals := 13 } : Room).cells ({ frames := 1, cells := 0, slots := 0, locals := 13 } : Room).slots) s₁ (mkF m 0 #[.val (.ref a), .val (.int y)] []) by
    obtain ⟨t, hst, hrun, v, L, hend, hQ, hF⟩ := H
    exact ⟨t, _, castTop (ef_push_pu3 m a y) hst, hrun, hend, v, L, rfl, hQ, hF⟩
  show own_R p e below _ s₁ (mkF m 0 #[.val (.ref a), .val (.int y)] [])
  refine own_go (fun t k => XS.aloadN X0.here hx rfl (hb hby d9_0) rfl rfl  k) ?_
  show own_R p e below _ s₁ (mkF m 1 #[.val (.ref a), .val (.int y)] [(.ref a)])
  refine own_go (fun t k => XS.iconst X0.here hx rfl (hb hby d9_1) k) ?_
  show own_R p e below _ s₁ (mkF m 2 #[.val (.ref a), .val (.int y)] [(.int (1 : Int32)), (.ref a)])
  obtain ⟨cq1, q1, q1'⟩ := E_a.cell
  obtain ⟨_, _, ⟨T1, L1, k1, n1⟩, -, X1, ⟨Lc1, hQ1, l1, y1, z1⟩, st1⟩ := X0.privateBack hx (y := (⟨"com/example/signetry/signetry/card/WordFrame", "requireRoom", "(I)V"⟩ : MethodName)) hown (mvT hZ (hw _ (List.mem_of_getElem? (i := 53) rfl))) (mvT hZ (hw _ (List.mem_of_getElem? (i := 54) rfl))) (Jvm.Kit.selects_private (by decide) (mvT hZ (hw _ (List.mem_of_getElem? (i := 2) rfl))) (mvP hZ (hw _ (List.mem_of_getElem? (i := 55) rfl))) (mvT hZ (hw _ (List.mem_of_getElem? (i := 54) rfl)))) (Cond.privateMethod_at (mvP hZ (hw _ (List.mem_of_getElem? (i := 55) rfl)) (args := #[]))) (mvT hZ (hw _ (List.mem_of_getElem? (i := 56) rfl))) (by decide) (backOf (W := 0) (rmrr_pu3 l Z a0 hw [] a w kw x0 x1 x2 h0 n0 (Nat.le_trans Z0 Kh.1) F_words_a F_localCount_a F_maxStack_a F_top_a F_thisUninitialized_a F_localsVersion_a E_a V_w) hZ (hw _ (List.mem_of_getElem? (i := 56) rfl)) (hw _ (List.mem_of_getElem? (i := 3) rfl)) (by decide) (by decide)) (g := (mkF m 2 #[.val (.ref a), .val (.int y)] [(.int (1 : Int32)), (.ref a)])) rfl (by rw [hml]; rfl) (Steps.refl _) (a := a) (by rw [e0]; exact q1) q1' (argsL := [(.int (1 : Int32))]) (rest := []) (lenOf pd_4 rfl) rfl (by show 2 * 0 + _ ≤ _; exact Nat.le_of_eq rfl) (hb hby d9_2) (fun _ _ => ⟨rfl, e0, (by decide : 0 + 0 ≤ _), (by decide : 0 + 0 ≤ _)⟩)
  dsimp only [Pt.U, Pt.locs, Pt.cells, Pt.slots] at X1 l1 y1 z1 st1 hQ1
  subst l1 y1 z1
  obtain ⟨rfl, Nq1, e1⟩ := hQ1
  have N1 := Fr.app N0 Nq1
  refine own_go (fun t k => st1.trans k) ?_
  show own_R p e below _ T1 (mkF m 5 #[.val (.ref a), .val (.int y)] [])
  refine own_go (fun t k => XS.aloadN X1.here hx rfl (hb hby d9_5) rfl rfl  k) ?_
  show own_R p e below _ T1 (mkF m 6 #[.val (.ref a), .val (.int y)] [(.ref a)])
  obtain ⟨T2, X2, e2, st2⟩ := getF X1 hx hZ hown (host := "") (Or.inl (hw _ (List.mem_of_getElem? (i := 11) rfl))) Via.refl e1 F_words_a (g := (mkF m 6 #[.val (.ref a), .val (.int y)] [(.ref a)])) rfl rfl (hb hby d9_6)
  refine own_go (st2) ?_
  show own_R p e below _ T2 (mkF m 9 #[.val (.ref a), .val (.int y)] [(.ref w)])
  refine own_go (fun t k => XS.aloadN X2.here hx rfl (hb hby d9_9) rfl rfl  k) ?_
  show own_R p e below _ T2 (mkF m 10 #[.val (.ref a), .val (.int y)] [(.ref a), (.ref w)])
  obtain ⟨T3, X3, e3, st3⟩ := getF X2 hx hZ hown (host := "") (Or.inl (hw _ (List.mem_of_getElem? (i := 29) rfl))) Via.refl e2 F_top_a (g := (mkF m 10 #[.val (.ref a), .val (.int y)] [(.ref a), (.ref w)])) rfl rfl (hb hby d9_10)
  refine own_go (st3) ?_
  show own_R p e below _ T3 (mkF m 13 #[.val (.ref a), .val (.int y)] [(.int (3 : Int32)), (.ref w)])
  refine own_go (fun t k => XS.iloadN X3.here hx rfl (hb hby d9_13) rfl  k) ?_
  show own_R p e below _ T3 (mkF m 14 #[.val (.ref a), .val (.int y)] [(.int y), (.int (3 : Int32)), (.ref w)])
  obtain ⟨cl4, Ar4, q4, S4, Nn4, Hh4, G4⟩ := id V_w
  have hin4 : ¬ ((3 : Int32) < 0 ∨ cl4.slots.size ≤ ((3 : Int32)).toNatClampNeg) := inb_of S4 ⟨by decide, by decide⟩
  obtain ⟨T5, h5, X5, e5, W5, st5⟩ := stI X3 hx hZ e3 Ar4 (j := (3 : Int32)) hin4 (g := (mkF m 14 #[.val (.ref a), .val (.int y)] [(.int y), (.int (3 : Int32)), (.ref w)])) rfl rfl (hb hby d9_14)
  have N5 := Fr.snoc X5 N1 g_w
  replace Kh := Kh.wr W5 (Or.inl (List.mem_of_getElem? (i := 1) rfl))
  replace F_words_a := Fld.other W5 F_words_a (Or.inl ne_a_w)
  replace F_localCount_a := Fld.other W5 F_localCount_a (Or.inl ne_a_w)
  replace F_maxStack_a := Fld.other W5 F_maxStack_a (Or.inl ne_a_w)
  replace F_top_a := Fld.other W5 F_top_a (Or.inl ne_a_w)
  replace F_thisUninitialized_a := Fld.other W5 F_thisUninitialized_a (Or.inl ne_a_w)
  replace F_localsVersion_a := Fld.other W5 F_localsVersion_a (Or.inl ne_a_w)
  replace E_a := Exa.wr W5 E_a
  have V_w_5 : Arv Z h5 w kw .int (4 : Int32) [(.int x0), (.int x1), (.int x2), (.int y)] (.int (0 : Int32)) := Arv.set Ar4 q4 S4 Nn4 Hh4 G4 rfl W5 3 rfl (Nat.le_of_ble_eq_true rfl)
  refine own_go (st5) ?_
  show own_R p e below _ T5 (mkF m 15 #[.val (.ref a), .val (.int y)] [])
  refine own_go (fun t k => XS.aloadN X5.here hx rfl (hb hby d9_15) rfl rfl  k) ?_
  show own_R p e below _ T5 (mkF m 16 #[.val (.ref a), .val (.int y)] [(.ref a)])
  refine own_go (fun t k => XS.dup X5.here hx rfl (hb hby d9_16) rfl rfl k) ?_
  show own_R p e below _ T5 (mkF m 17 #[.val (.ref a), .val (.int y)] [(.ref a), (.ref a)])
  obtain ⟨T6, X6, e6, st6⟩ := getF X5 hx hZ hown (host := "") (Or.inl (hw _ (List.mem_of_getElem? (i := 29) rfl))) Via.refl e5 F_top_a (g := (mkF m 17 #[.val (.ref a), .val (.int y)] [(.ref a), (.ref a)])) rfl rfl (hb hby d9_17)
  refine own_go (st6) ?_
  show own_R p e below _ T6 (mkF m 20 #[.val (.ref a), .val (.int y)] [(.int (3 : Int32)), (.ref a)])
  refine own_go (fun t k => XS.iconst X6.here hx rfl (hb hby d9_20) k) ?_
  show own_R p e below _ T6 (mkF m 21 #[.val (.ref a), .val (.int y)] [(.int (1 : Int32)), (.int (3 : Int32)), (.ref a)])
  refine own_go (fun t k => XS.iadd X6.here hx rfl (hb hby d9_21) rfl k) ?_
  show own_R p e below _ T6 (mkF m 22 #[.val (.ref a), .val (.int y)] [(.int (4 : Int32)), (.ref a)])
  obtain ⟨T7, h7, X7, e7, W7, st7⟩ := putF X6 hx hZ hown (host := "") (Or.inl (hw _ (List.mem_of_getElem? (i := 29) rfl))) Via.refl e6 F_top_a E_a (Or.inl (hw _ (List.mem_of_getElem? (i := 30) rfl))) (hw _ (List.mem_of_getElem? (i := 2) rfl)) (ty := .int) (by decide) rfl rfl (g := (mkF m 22 #[.val (.ref a), .val (.int y)] [(.int (4 : Int32)), (.ref a)])) rfl rfl (hb hby d9_22)
  have N7 := Fr.snoc X7 N5 g_a
  replace Kh := Kh.wr W7 (Or.inl (List.mem_of_getElem? (i := 0) rfl))
  replace F_words_a := Fld.other W7 F_words_a (Or.inr (slot_ne (Or.inl (hw _ (List.mem_of_getElem? (i := 12) rfl))) (Or.inl (hw _ (List.mem_of_getElem? (i := 30) rfl))) (by decide) (t := (.array .int)) (t' := .int) (by decide) (by decide)))
  replace F_localCount_a := Fld.other W7 F_localCount_a (Or.inr (slot_ne (Or.inl (hw _ (List.mem_of_getElem? (i := 26) rfl))) (Or.inl (hw _ (List.mem_of_getElem? (i := 30) rfl))) (by decide) (t := .int) (t' := .int) (by decide) (by decide)))
  replace F_maxStack_a := Fld.other W7 F_maxStack_a (Or.inr (slot_ne (Or.inl (hw _ (List.mem_of_getElem? (i := 28) rfl))) (Or.inl (hw _ (List.mem_of_getElem? (i := 30) rfl))) (by decide) (t := .int) (t' := .int) (by decide) (by decide)))
  replace F_top_a := Fld.same W7 F_top_a
  replace F_thisUninitialized_a := Fld.other W7 F_thisUninitialized_a (Or.inr (slot_ne (Or.inl (hw _ (List.mem_of_getElem? (i := 32) rfl))) (Or.inl (hw _ (List.mem_of_getElem? (i := 30) rfl))) (by decide) (t := .boolean) (t' := .int) (by decide) (by decide)))
  replace F_localsVersion_a := Fld.other W7 F_localsVersion_a (Or.inr (slot_ne (Or.inl (hw _ (List.mem_of_getElem? (i := 34) rfl))) (Or.inl (hw _ (List.mem_of_getElem? (i := 30) rfl))) (by decide) (t := .int) (t' := .int) (by decide) (by decide)))
  replace E_a := Exa.wr W7 E_a
  replace V_w_5 := Arv.other V_w_5 W7 (Ne.symm ne_a_w)
  refine own_go (st7) ?_
  show own_R p e below _ T7 (mkF m 25 #[.val (.ref a), .val (.int y)] [])
  refine own_retV X7 hx Bd.returns (BodyLoose.notSynchronized Bd) (hb hby d9_25) (by decide) (by decide) ?_
  rw [e7]
  exact ⟨rfl, N7, Kh, E_a, F_words_a, F_localCount_a, F_maxStack_a, F_top_a, F_thisUninitialized_a, F_localsVersion_a, V_w_5⟩
theorem d13_0 : decode prog_110_method_21_code 0 = .ok (.aload_n 0, 1) := by decide +kernel
theorem d13_1 : decode prog_110_method_21_code 1 = .ok (.getfield 28, 3) := by decide +kernel
theorem d13_4 : decode prog_110_method_21_code 4 = .ok (.aload_n 0, 1) := by decide +kernel
theorem d13_5 : decode prog_110_method_21_code 5 = .ok (.getfield 21, 3) := by decide +kernel
theorem d13_8 : decode prog_110_method_21_code 8 = .ok (.isub, 1) := by decide +kernel
theorem d13_9 : decode prog_110_method_21_code 9 = .ok (.iload_n 1, 1) := by decide +kernel
theorem d13_10 : decode prog_110_method_21_code 10 = .ok (.if_icmp .ge 7, 3) := by decide +kernel
theorem d13_17 : decode prog_110_method_21_code 17 = .ok (.return_, 1) := by decide +kernel
theorem ef_rw_po4 (m : MethodId) (x0 : Addr) : entryFrame m #[(.ref x0), (.int (1 : Int32))] 2 = mkF m 0 #[.val (.ref x0), .val (.int (1 : Int32))] [] := by first | (simp [entryFrame, mkF, argsToLocals, Value.category]; done) | rfl
def Qrw_po4 (Z : State) (a : Addr) (w : Addr) (kw : ClassId) (x0 : Int32) (x1 : Int32) (x2 : Int32) (x3 : Int32) (h0 : Heap) (n0 : Nat) (v : Option Value) (h : Heap) (L : List Loc) : Prop := v = none ∧ Fr n0 L ∧ h = h0
set_option maxRecDepth 65536 in
set_option maxHeartbeats 40000000 in
theorem rmrw_po4 (l : Launch) (Z : State) (a0 : Array Value) (hw : ∀ d ∈ tables_1, d.before a0 Z = true) (ws : List Jvm.Cond) (a : Addr) (w : Addr) (kw : ClassId) (x0 : Int32) (x1 : Int32) (x2 : Int32) (x3 : Int32) (h0 : Heap) (n0 : Nat) (Z0 : n0 ≤ h0.size) (F_words_a : Fld Z h0 a "com/example/signetry/signetry/card/WordFrame" "words" "[I" (.ref w)) (F_localCount_a : Fld Z h0 a "com/example/signetry/signetry/card/WordFrame" "localCount" "I" (.int (2 : Int32))) (F_maxStack_a : Fld Z h0 a "com/example/signetry/signetry/card/WordFrame" "maxStack" "I" (.int (2 : Int32))) (F_top_a : Fld Z h0 a "com/example/signetry/signetry/card/WordFrame" "top" "I" (.int (4 : Int32))) (F_thisUninitialized_a : Fld Z h0 a "com/example/signetry/signetry/card/WordFrame" "thisUninitialized" "Z" (.int (0 : Int32))) (F_localsVersion_a : Fld Z h0 a "com/example/signetry/signetry/card/WordFrame" "localsVersion" "I" (.int (3 : Int32))) (E_a : Exa Z h0 a "com/example/signetry/signetry/card/WordFrame") (V_w : Arv Z h0 w kw .int (4 : Int32) [(.int x0), (.int x1), (.int x2), (.int x3)] (.int (0 : Int32))) :
    MetFree l (⟨"com/example/signetry/signetry/card/WordFrame", "requireWords", "(I)V"⟩ : MethodName) (head1 (Jvm.Cond.code (⟨"com/example/signetry/signetry/card/WordFrame", "requireWords", "(I)V"⟩ : MethodName) prog_110_method_21_code 2 none :: ws) ({ frames := 0, cells := 0, slots := 0, locals := 0 } : Room)) (fun aS U => aS = #[(.ref a), (.int (1 : Int32))] ∧ Z.Warmed39 U.vm ∧ U.heap = h0) (fun _ _ _ _ _ => True) (fun _ U o U' => ∃ v L, o = .returned v ∧ Qrw_po4 Z a w kw x0 x1 x2 x3 h0 n0 v U'.heap L ∧ FrameEnd U o U' L ({ frames := 0, cells := 0, slots := 0, locals := 0 } : Room).cells ({ frames := 0, cells := 0, slots := 0, locals := 0 } : Room).slots) := by
  refine MetFree.of_bodySF (plainFor_of_name pn_0) hisR ?_
  intro p e s m args below meth c s₁ Bd hml0 hP hK
  obtain ⟨rfl, hZ, hh⟩ := hP
  have hx := Bd.exec
  have hby := Bd.bytes
  have hml : c.maxLocals = 2 := hml0
  have hown : s.vm.findClass "com/example/signetry/signetry/card/WordFrame" = some m.cls := findClass_of_methodNamed Bd.named
  have hnm := (name_of_methodNamed Bd.named Bd.method).1
  have X0 : Stand p l e ({ frames := 0, cells := 0, slots := 0, locals := 0 } : Room) s m #[(.ref a), (.int (1 : Int32))] below meth c s₁ [] 0 0 := Stand.of_body Bd
  have e0 : s₁.heap = h0 := by rw [← hh, Bd.state]; rfl
  have N0 := Fr.nil n0
  have Kh : Keep h0 h0 [] := Keep.refl _ _
  suffices H : own_R p e below (own_E s below (Qrw_po4 Z a w kw x0 x1 x2 x3 h0 n0) ({ frames := 0, cells := 0, slots := 0, locals := 0 } : Room).cells ({ frames := 0, cells := 0, slots := 0, locals := 0 } : Room).slots) s₁ (mkF m 0 #[.val (.ref a), .val (.int (1 : Int32))] []) by
    obtain ⟨t, hst, hrun, v, L, hend, hQ, hF⟩ := H
    exact ⟨t, _, castTop (ef_rw_po4 m a) hst, hrun, hend, v, L, rfl, hQ, hF⟩
  show own_R p e below _ s₁ (mkF m 0 #[.val (.ref a), .val (.int (1 : Int32))] [])
  refine own_go (fun t k => XS.aloadN X0.here hx rfl (hb hby d13_0) rfl rfl  k) ?_
  show own_R p e below _ s₁ (mkF m 1 #[.val (.ref a), .val (.int (1 : Int32))] [(.ref a)])
  obtain ⟨T1, X1, e1, st1⟩ := getF X0 hx hZ hown (host := "") (Or.inl (hw _ (List.mem_of_getElem? (i := 29) rfl))) Via.refl e0 F_top_a (g := (mkF m 1 #[.val (.ref a), .val (.int (1 : Int32))] [(.ref a)])) rfl rfl (hb hby d13_1)
  refine own_go (st1) ?_
  show own_R p e below _ T1 (mkF m 4 #[.val (.ref a), .val (.int (1 : Int32))] [(.int (4 : Int32))])
  refine own_go (fun t k => XS.aloadN X1.here hx rfl (hb hby d13_4) rfl rfl  k) ?_
  show own_R p e below _ T1 (mkF m 5 #[.val (.ref a), .val (.int (1 : Int32))] [(.ref a), (.int (4 : Int32))])
  obtain ⟨T2, X2, e2, st2⟩ := getF X1 hx hZ hown (host := "") (Or.inl (hw _ (List.mem_of_getElem? (i := 25) rfl))) Via.refl e1 F_localCount_a (g := (mkF m 5 #[.val (.ref a), .val (.int (1 : Int32))] [(.ref a), (.int (4 : Int32))])) rfl rfl (hb hby d13_5)
  refine own_go (st2) ?_
  show own_R p e below _ T2 (mkF m 8 #[.val (.ref a), .val (.int (1 : Int32))] [(.int (2 : Int32)), (.int (4 : Int32))])
  refine own_go (fun t k => XS.isub X2.here hx rfl (hb hby d13_8) rfl k) ?_
  show own_R p e below _ T2 (mkF m 9 #[.val (.ref a), .val (.int (1 : Int32))] [(.int (2 : Int32))])
  refine own_go (fun t k => XS.iloadN X2.here hx rfl (hb hby d13_9) rfl  k) ?_
  show own_R p e below _ T2 (mkF m 10 #[.val (.ref a), .val (.int (1 : Int32))] [(.int (1 : Int32)), (.int (2 : Int32))])
  refine own_go (fun t k => XS.icmpYes X2.here hx rfl (pc0 := 10) (pc' := 17) rfl (hb hby d13_10) rfl (flt (by decide : ¬ ((2 : Int32) < (1 : Int32)))).2.1 (by decide) (by decide) k) ?_
  show own_R p e below _ T2 (mkF m 17 #[.val (.ref a), .val (.int (1 : Int32))] [])
  refine own_retV X2 hx Bd.returns (BodyLoose.notSynchronized Bd) (hb hby d13_17) (by decide) (by decide) ?_
  exact ⟨rfl, N0, e2⟩
theorem d12_0 : decode prog_110_method_15_code 0 = .ok (.aload_n 0, 1) := by decide +kernel
theorem d12_1 : decode prog_110_method_15_code 1 = .ok (.iconst 1, 1) := by decide +kernel
theorem d12_2 : decode prog_110_method_15_code 2 = .ok (.invokevirtual 54, 3) := by decide +kernel
theorem d12_5 : decode prog_110_method_15_code 5 = .ok (.aload_n 0, 1) := by decide +kernel
theorem d12_6 : decode prog_110_method_15_code 6 = .ok (.dup, 1) := by decide +kernel
theorem d12_7 : decode prog_110_method_15_code 7 = .ok (.getfield 28, 3) := by decide +kernel
theorem d12_10 : decode prog_110_method_15_code 10 = .ok (.iconst 1, 1) := by decide +kernel
theorem d12_11 : decode prog_110_method_15_code 11 = .ok (.isub, 1) := by decide +kernel
theorem d12_12 : decode prog_110_method_15_code 12 = .ok (.putfield 28, 3) := by decide +kernel
theorem d12_15 : decode prog_110_method_15_code 15 = .ok (.aload_n 0, 1) := by decide +kernel
theorem d12_16 : decode prog_110_method_15_code 16 = .ok (.getfield 7, 3) := by decide +kernel
theorem d12_19 : decode prog_110_method_15_code 19 = .ok (.aload_n 0, 1) := by decide +kernel
theorem d12_20 : decode prog_110_method_15_code 20 = .ok (.getfield 28, 3) := by decide +kernel
theorem d12_23 : decode prog_110_method_15_code 23 = .ok (.iaload, 1) := by decide +kernel
theorem d12_24 : decode prog_110_method_15_code 24 = .ok (.ireturn, 1) := by decide +kernel
theorem ef_pop_po4 (m : MethodId) (x0 : Addr) : entryFrame m #[(.ref x0)] 1 = mkF m 0 #[.val (.ref x0)] [] := by first | (simp [entryFrame, mkF, argsToLocals, Value.category]; done) | rfl
def Qpop_po4 (Z : State) (a : Addr) (w : Addr) (kw : ClassId) (x0 : Int32) (x1 : Int32) (x2 : Int32) (x3 : Int32) (h0 : Heap) (n0 : Nat) (v : Option Value) (h : Heap) (L : List Loc) : Prop := v = some (.int x3) ∧ Fr n0 L ∧ Keep h0 h [a] ∧ Exa Z h a "com/example/signetry/signetry/card/WordFrame" ∧ Fld Z h a "com/example/signetry/signetry/card/WordFrame" "words" "[I" (.ref w) ∧ Fld Z h a "com/example/signetry/signetry/card/WordFrame" "localCount" "I" (.int (2 : Int32)) ∧ Fld Z h a "com/example/signetry/signetry/card/WordFrame" "maxStack" "I" (.int (2 : Int32)) ∧ Fld Z h a "com/example/signetry/signetry/card/WordFrame" "top" "I" (.int (3 : Int32)) ∧ Fld Z h a "com/example/signetry/signetry/card/WordFrame" "thisUninitialized" "Z" (.int (0 : Int32)) ∧ Fld Z h a "com/example/signetry/signetry/card/WordFrame" "localsVersion" "I" (.int (3 : Int32))
set_option maxRecDepth 65536 in
set_option maxHeartbeats 40000000 in
theorem rmpop_po4 (l : Launch) (Z : State) (a0 : Array Value) (hw : ∀ d ∈ tables_1, d.before a0 Z = true) (ws : List Jvm.Cond) (a : Addr) (w : Addr) (kw : ClassId) (x0 : Int32) (x1 : Int32) (x2 : Int32) (x3 : Int32) (h0 : Heap) (n0 : Nat) (Z0 : n0 ≤ h0.size) (F_words_a : Fld Z h0 a "com/example/signetry/signetry/card/WordFrame" "words" "[I" (.ref w)) (F_localCount_a : Fld Z h0 a "com/example/signetry/signetry/card/WordFrame" "localCount" "I" (.int (2 : Int32))) (F_maxStack_a : Fld Z h0 a "com/example/signetry/signetry/card/WordFrame" "maxStack" "I" (.int (2 : Int32))) (F_top_a : Fld Z h0 a "com/example/signetry/signetry/card/WordFrame" "top" "I" (.int (4 : Int32))) (F_thisUninitialized_a : Fld Z h0 a "com/example/signetry/signetry/card/WordFrame" "thisUninitialized" "Z" (.int (0 : Int32))) (F_localsVersion_a : Fld Z h0 a "com/example/signetry/signetry/card/WordFrame" "localsVersion" "I" (.int (3 : Int32))) (E_a : Exa Z h0 a "com/example/signetry/signetry/card/WordFrame") (V_w : Arv Z h0 w kw .int (4 : Int32) [(.int x0), (.int x1), (.int x2), (.int x3)] (.int (0 : Int32))) (g_a : n0 ≤ a) (ne_a_w : a ≠ w) :
    MetFree l (⟨"com/example/signetry/signetry/card/WordFrame", "pop", "()I"⟩ : MethodName) (head1 (Jvm.Cond.code (⟨"com/example/signetry/signetry/card/WordFrame", "pop", "()I"⟩ : MethodName) prog_110_method_15_code 1 (some .int) :: ws) ({ frames := 1, cells := 0, slots := 0, locals := 13 } : Room)) (fun aS U => aS = #[(.ref a)] ∧ Z.Warmed39 U.vm ∧ U.heap = h0) (fun _ _ _ _ _ => True) (fun _ U o U' => ∃ v L, o = .returned v ∧ Qpop_po4 Z a w kw x0 x1 x2 x3 h0 n0 v U'.heap L ∧ FrameEnd U o U' L ({ frames := 1, cells := 0, slots := 0, locals := 13 } : Room).cells ({ frames := 1, cells := 0, slots := 0, locals := 13 } : Room).slots) := by
  refine MetFree.of_bodySF (plainFor_of_name pn_0) hisR ?_
  intro p e s m args below meth c s₁ Bd hml0 hP hK
  obtain ⟨rfl, hZ, hh⟩ := hP
  have hx := Bd.exec
  have hby := Bd.bytes
  have hml : c.maxLocals = 1 := hml0
  have hown : s.vm.findClass "com/example/signetry/signetry/card/WordFrame" = some m.cls := findClass_of_methodNamed Bd.named
  have hnm := (name_of_methodNamed Bd.named Bd.method).1
  have X0 : Stand p l e ({ frames := 1, cells := 0, slots := 0, locals := 13 } : Room) s m #[(.ref a)] below meth c s₁ [] 0 0 := Stand.of_body Bd
  have e0 : s₁.heap = h0 := by rw [← hh, Bd.state]; rfl
  have N0 := Fr.nil n0
  have Kh : Keep h0 h0 [a] := Keep.refl _ _
  suffices H : own_R p e below (own_E s below (Qpop_po4 Z a w kw x0 x1 x2 x3 h0 n0) ({ frames := 1, cells := 0, slots := 0, locals := 13 } : Room).cells ({ frames := 1, cells := 0, slots := 0, locals := 13 } : Room).slots) s₁ (mkF m 0 #[.val (.ref a)] []) by
    obtain ⟨t, hst, hrun, v, L, hend, hQ, hF⟩ := H
    exact ⟨t, _, castTop (ef_pop_po4 m a) hst, hrun, hend, v, L, rfl, hQ, hF⟩
  show own_R p e below _ s₁ (mkF m 0 #[.val (.ref a)] [])
  refine own_go (fun t k => XS.aloadN X0.here hx rfl (hb hby d12_0) rfl rfl  k) ?_
  show own_R p e below _ s₁ (mkF m 1 #[.val (.ref a)] [(.ref a)])
  refine own_go (fun t k => XS.iconst X0.here hx rfl (hb hby d12_1) k) ?_
  show own_R p e below _ s₁ (mkF m 2 #[.val (.ref a)] [(.int (1 : Int32)), (.ref a)])
  obtain ⟨cq1, q1, q1'⟩ := E_a.cell
  obtain ⟨_, _, ⟨T1, L1, k1, n1⟩, -, X1, ⟨Lc1, hQ1, l1, y1, z1⟩, st1⟩ := X0.privateBack hx (y := (⟨"com/example/signetry/signetry/card/WordFrame", "requireWords", "(I)V"⟩ : MethodName)) hown (mvT hZ (hw _ (List.mem_of_getElem? (i := 67) rfl))) (mvT hZ (hw _ (List.mem_of_getElem? (i := 68) rfl))) (Jvm.Kit.selects_private (by decide) (mvT hZ (hw _ (List.mem_of_getElem? (i := 2) rfl))) (mvP hZ (hw _ (List.mem_of_getElem? (i := 69) rfl))) (mvT hZ (hw _ (List.mem_of_getElem? (i := 68) rfl)))) (Cond.privateMethod_at (mvP hZ (hw _ (List.mem_of_getElem? (i := 69) rfl)) (args := #[]))) (mvT hZ (hw _ (List.mem_of_getElem? (i := 70) rfl))) (by decide) (backOf (W := 0) (rmrw_po4 l Z a0 hw [] a w kw x0 x1 x2 x3 h0 n0 (Nat.le_trans Z0 Kh.1) F_words_a F_localCount_a F_maxStack_a F_top_a F_thisUninitialized_a F_localsVersion_a E_a V_w) hZ (hw _ (List.mem_of_getElem? (i := 70) rfl)) (hw _ (List.mem_of_getElem? (i := 3) rfl)) (by decide) (by decide)) (g := (mkF m 2 #[.val (.ref a)] [(.int (1 : Int32)), (.ref a)])) rfl (by rw [hml]; rfl) (Steps.refl _) (a := a) (by rw [e0]; exact q1) q1' (argsL := [(.int (1 : Int32))]) (rest := []) (lenOf pd_4 rfl) rfl (by show 2 * 0 + _ ≤ _; exact Nat.le_of_eq rfl) (hb hby d12_2) (fun _ _ => ⟨rfl, e0, (by decide : 0 + 0 ≤ _), (by decide : 0 + 0 ≤ _)⟩)
  dsimp only [Pt.U, Pt.locs, Pt.cells, Pt.slots] at X1 l1 y1 z1 st1 hQ1
  subst l1 y1 z1
  obtain ⟨rfl, Nq1, e1⟩ := hQ1
  have N1 := Fr.app N0 Nq1
  refine own_go (fun t k => st1.trans k) ?_
  show own_R p e below _ T1 (mkF m 5 #[.val (.ref a)] [])
  refine own_go (fun t k => XS.aloadN X1.here hx rfl (hb hby d12_5) rfl rfl  k) ?_
  show own_R p e below _ T1 (mkF m 6 #[.val (.ref a)] [(.ref a)])
  refine own_go (fun t k => XS.dup X1.here hx rfl (hb hby d12_6) rfl rfl k) ?_
  show own_R p e below _ T1 (mkF m 7 #[.val (.ref a)] [(.ref a), (.ref a)])
  obtain ⟨T2, X2, e2, st2⟩ := getF X1 hx hZ hown (host := "") (Or.inl (hw _ (List.mem_of_getElem? (i := 29) rfl))) Via.refl e1 F_top_a (g := (mkF m 7 #[.val (.ref a)] [(.ref a), (.ref a)])) rfl rfl (hb hby d12_7)
  refine own_go (st2) ?_
  show own_R p e below _ T2 (mkF m 10 #[.val (.ref a)] [(.int (4 : Int32)), (.ref a)])
  refine own_go (fun t k => XS.iconst X2.here hx rfl (hb hby d12_10) k) ?_
  show own_R p e below _ T2 (mkF m 11 #[.val (.ref a)] [(.int (1 : Int32)), (.int (4 : Int32)), (.ref a)])
  refine own_go (fun t k => XS.isub X2.here hx rfl (hb hby d12_11) rfl k) ?_
  show own_R p e below _ T2 (mkF m 12 #[.val (.ref a)] [(.int (3 : Int32)), (.ref a)])
  obtain ⟨T3, h3, X3, e3, W3, st3⟩ := putF X2 hx hZ hown (host := "") (Or.inl (hw _ (List.mem_of_getElem? (i := 29) rfl))) Via.refl e2 F_top_a E_a (Or.inl (hw _ (List.mem_of_getElem? (i := 30) rfl))) (hw _ (List.mem_of_getElem? (i := 2) rfl)) (ty := .int) (by decide) rfl rfl (g := (mkF m 12 #[.val (.ref a)] [(.int (3 : Int32)), (.ref a)])) rfl rfl (hb hby d12_12)
  have N3 := Fr.snoc X3 N1 g_a
  replace Kh := Kh.wr W3 (Or.inl (List.mem_of_getElem? (i := 0) rfl))
  replace F_words_a := Fld.other W3 F_words_a (Or.inr (slot_ne (Or.inl (hw _ (List.mem_of_getElem? (i := 12) rfl))) (Or.inl (hw _ (List.mem_of_getElem? (i := 30) rfl))) (by decide) (t := (.array .int)) (t' := .int) (by decide) (by decide)))
  replace F_localCount_a := Fld.other W3 F_localCount_a (Or.inr (slot_ne (Or.inl (hw _ (List.mem_of_getElem? (i := 26) rfl))) (Or.inl (hw _ (List.mem_of_getElem? (i := 30) rfl))) (by decide) (t := .int) (t' := .int) (by decide) (by decide)))
  replace F_maxStack_a := Fld.other W3 F_maxStack_a (Or.inr (slot_ne (Or.inl (hw _ (List.mem_of_getElem? (i := 28) rfl))) (Or.inl (hw _ (List.mem_of_getElem? (i := 30) rfl))) (by decide) (t := .int) (t' := .int) (by decide) (by decide)))
  replace F_top_a := Fld.same W3 F_top_a
  replace F_thisUninitialized_a := Fld.other W3 F_thisUninitialized_a (Or.inr (slot_ne (Or.inl (hw _ (List.mem_of_getElem? (i := 32) rfl))) (Or.inl (hw _ (List.mem_of_getElem? (i := 30) rfl))) (by decide) (t := .boolean) (t' := .int) (by decide) (by decide)))
  replace F_localsVersion_a := Fld.other W3 F_localsVersion_a (Or.inr (slot_ne (Or.inl (hw _ (List.mem_of_getElem? (i := 34) rfl))) (Or.inl (hw _ (List.mem_of_getElem? (i := 30) rfl))) (by decide) (t := .int) (t' := .int) (by decide) (by decide)))
  replace E_a := Exa.wr W3 E_a
  replace V_w := Arv.other V_w W3 (Ne.symm ne_a_w)
  refine own_go (st3) ?_
  show own_R p e below _ T3 (mkF m 15 #[.val (.ref a)] [])
  refine own_go (fun t k => XS.aloadN X3.here hx rfl (hb hby d12_15) rfl rfl  k) ?_
  show own_R p e below _ T3 (mkF m 16 #[.val (.ref a)] [(.ref a)])
  obtain ⟨T4, X4, e4, st4⟩ := getF X3 hx hZ hown (host := "") (Or.inl (hw _ (List.mem_of_getElem? (i := 11) rfl))) Via.refl e3 F_words_a (g := (mkF m 16 #[.val (.ref a)] [(.ref a)])) rfl rfl (hb hby d12_16)
  refine own_go (st4) ?_
  show own_R p e below _ T4 (mkF m 19 #[.val (.ref a)] [(.ref w)])
  refine own_go (fun t k => XS.aloadN X4.here hx rfl (hb hby d12_19) rfl rfl  k) ?_
  show own_R p e below _ T4 (mkF m 20 #[.val (.ref a)] [(.ref a), (.ref w)])
  obtain ⟨T5, X5, e5, st5⟩ := getF X4 hx hZ hown (host := "") (Or.inl (hw _ (List.mem_of_getElem? (i := 29) rfl))) Via.refl e4 F_top_a (g := (mkF m 20 #[.val (.ref a)] [(.ref a), (.ref w)])) rfl rfl (hb hby d12_20)
  refine own_go (st5) ?_
  show own_R p e below _ T5 (mkF m 23 #[.val (.ref a)] [(.int (3 : Int32)), (.ref w)])
  obtain ⟨cl6, Ar6, q6, S6, Nn6, Hh6, G6⟩ := id V_w
  have hin6 : ¬ ((3 : Int32) < 0 ∨ cl6.slots.size ≤ ((3 : Int32)).toNatClampNeg) := inb_of S6 ⟨by decide, by decide⟩
  have hat6 : cl6.slots[((3 : Int32)).toNatClampNeg]? = some (.int x3) := Has.at Hh6 hin6 rfl
  refine own_go (X5.iaload hx (j := (3 : Int32)) (v := (.int x3)) (by rw [e5]; exact Ar6.1) (State.isArrayOf_alike hZ.alike Ar6.2.1) Ar6.2.2 hin6 hat6 (g := (mkF m 23 #[.val (.ref a)] [(.int (3 : Int32)), (.ref w)])) rfl rfl (hb hby d12_23)) ?_
  show own_R p e below _ T5 (mkF m 24 #[.val (.ref a)] [(.int x3)])
  refine own_retW X5 hx Bd.returns rfl (Or.inl ⟨rfl, Or.inl rfl, _, rfl⟩) (BodyLoose.notSynchronized Bd) (hb hby d12_24) (by decide) (by decide) ?_
  rw [e5]
  exact ⟨rfl, N3, Kh, E_a, F_words_a, F_localCount_a, F_maxStack_a, F_top_a, F_thisUninitialized_a, F_localsVersion_a⟩
theorem ef_rw_po3 (m : MethodId) (x0 : Addr) : entryFrame m #[(.ref x0), (.int (1 : Int32))] 2 = mkF m 0 #[.val (.ref x0), .val (.int (1 : Int32))] [] := by first | (simp [entryFrame, mkF, argsToLocals, Value.category]; done) | rfl
def Qrw_po3 (Z : State) (a : Addr) (w : Addr) (kw : ClassId) (x0 : Int32) (x1 : Int32) (x2 : Int32) (x3 : Int32) (h0 : Heap) (n0 : Nat) (v : Option Value) (h : Heap) (L : List Loc) : Prop := v = none ∧ Fr n0 L ∧ h = h0
set_option maxRecDepth 65536 in
set_option maxHeartbeats 40000000 in
theorem rmrw_po3 (l : Launch) (Z : State) (a0 : Array Value) (hw : ∀ d ∈ tables_1, d.before a0 Z = true) (ws : List Jvm.Cond) (a : Addr) (w : Addr) (kw : ClassId) (x0 : Int32) (x1 : Int32) (x2 : Int32) (x3 : Int32) (h0 : Heap) (n0 : Nat) (Z0 : n0 ≤ h0.size) (F_words_a : Fld Z h0 a "com/example/signetry/signetry/card/WordFrame" "words" "[I" (.ref w)) (F_localCount_a : Fld Z h0 a "com/example/signetry/signetry/card/WordFrame" "localCount" "I" (.int (2 : Int32))) (F_maxStack_a : Fld Z h0 a "com/example/signetry/signetry/card/WordFrame" "maxStack" "I" (.int (2 : Int32))) (F_top_a : Fld Z h0 a "com/example/signetry/signetry/card/WordFrame" "top" "I" (.int (3 : Int32))) (F_thisUninitialized_a : Fld Z h0 a "com/example/signetry/signetry/card/WordFrame" "thisUninitialized" "Z" (.int (0 : Int32))) (F_localsVersion_a : Fld Z h0 a "com/example/signetry/signetry/card/WordFrame" "localsVersion" "I" (.int (3 : Int32))) (E_a : Exa Z h0 a "com/example/signetry/signetry/card/WordFrame") (V_w : Arv Z h0 w kw .int (4 : Int32) [(.int x0), (.int x1), (.int x2), (.int x3)] (.int (0 : Int32))) :
    MetFree l (⟨"com/example/signetry/signetry/card/WordFrame", "requireWords", "(I)V"⟩ : MethodName) (head1 (Jvm.Cond.code (⟨"com/example/signetry/signetry/card/WordFrame", "requireWords", "(I)V"⟩ : MethodName) prog_110_method_21_code 2 none :: ws) ({ frames := 0, cells := 0, slots := 0, locals := 0 } : Room)) (fun aS U => aS = #[(.ref a), (.int (1 : Int32))] ∧ Z.Warmed39 U.vm ∧ U.heap = h0) (fun _ _ _ _ _ => True) (fun _ U o U' => ∃ v L, o = .returned v ∧ Qrw_po3 Z a w kw x0 x1 x2 x3 h0 n0 v U'.heap L ∧ FrameEnd U o U' L ({ frames := 0, cells := 0, slots := 0, locals := 0 } : Room).cells ({ frames := 0, cells := 0, slots := 0, locals := 0 } : Room).slots) := by
  refine MetFree.of_bodySF (plainFor_of_name pn_0) hisR ?_
  intro p e s m args below meth c s₁ Bd hml0 hP hK
  obtain ⟨rfl, hZ, hh⟩ := hP
  have hx := Bd.exec
  have hby := Bd.bytes
  have hml : c.maxLocals = 2 := hml0
  have hown : s.vm.findClass "com/example/signetry/signetry/card/WordFrame" = some m.cls := findClass_of_methodNamed Bd.named
  have hnm := (name_of_methodNamed Bd.named Bd.method).1
  have X0 : Stand p l e ({ frames := 0, cells := 0, slots := 0, locals := 0 } : Room) s m #[(.ref a), (.int (1 : Int32))] below meth c s₁ [] 0 0 := Stand.of_body Bd
  have e0 : s₁.heap = h0 := by rw [← hh, Bd.state]; rfl
  have N0 := Fr.nil n0
  have Kh : Keep h0 h0 [] := Keep.refl _ _
  suffices H : own_R p e below (own_E s below (Qrw_po3 Z a w kw x0 x1 x2 x3 h0 n0) ({ frames := 0, cells := 0, slots := 0, locals := 0 } : Room).cells ({ frames := 0, cells := 0, slots := 0, locals := 0 } : Room).slots) s₁ (mkF m 0 #[.val (.ref a), .val (.int (1 : Int32))] []) by
    obtain ⟨t, hst, hrun, v, L, hend, hQ, hF⟩ := H
    exact ⟨t, _, castTop (ef_rw_po3 m a) hst, hrun, hend, v, L, rfl, hQ, hF⟩
  show own_R p e below _ s₁ (mkF m 0 #[.val (.ref a), .val (.int (1 : Int32))] [])
  refine own_go (fun t k => XS.aloadN X0.here hx rfl (hb hby d13_0) rfl rfl  k) ?_
  show own_R p e below _ s₁ (mkF m 1 #[.val (.ref a), .val (.int (1 : Int32))] [(.ref a)])
  obtain ⟨T1, X1, e1, st1⟩ := getF X0 hx hZ hown (host := "") (Or.inl (hw _ (List.mem_of_getElem? (i := 29) rfl))) Via.refl e0 F_top_a (g := (mkF m 1 #[.val (.ref a), .val (.int (1 : Int32))] [(.ref a)])) rfl rfl (hb hby d13_1)
  refine own_go (st1) ?_
  show own_R p e below _ T1 (mkF m 4 #[.val (.ref a), .val (.int (1 : Int32))] [(.int (3 : Int32))])
  refine own_go (fun t k => XS.aloadN X1.here hx rfl (hb hby d13_4) rfl rfl  k) ?_
  show own_R p e below _ T1 (mkF m 5 #[.val (.ref a), .val (.int (1 : Int32))] [(.ref a), (.int (3 : Int32))])
  obtain ⟨T2, X2, e2, st2⟩ := getF X1 hx hZ hown (host := "") (Or.inl (hw _ (List.mem_of_getElem? (i := 25) rfl))) Via.refl e1 F_localCount_a (g := (mkF m 5 #[.val (.ref a), .val (.int (1 : Int32))] [(.ref a), (.int (3 : Int32))])) rfl rfl (hb hby d13_5)
  refine own_go (st2) ?_
  show own_R p e below _ T2 (mkF m 8 #[.val (.ref a), .val (.int (1 : Int32))] [(.int (2 : Int32)), (.int (3 : Int32))])
  refine own_go (fun t k => XS.isub X2.here hx rfl (hb hby d13_8) rfl k) ?_
  show own_R p e below _ T2 (mkF m 9 #[.val (.ref a), .val (.int (1 : Int32))] [(.int (1 : Int32))])
  refine own_go (fun t k => XS.iloadN X2.here hx rfl (hb hby d13_9) rfl  k) ?_
  show own_R p e below _ T2 (mkF m 10 #[.val (.ref a), .val (.int (1 : Int32))] [(.int (1 : Int32)), (.int (1 : Int32))])
  refine own_go (fun t k => XS.icmpYes X2.here hx rfl (pc0 := 10) (pc' := 17) rfl (hb hby d13_10) rfl (flt (by decide : ¬ ((1 : Int32) < (1 : Int32)))).2.1 (by decide) (by decide) k) ?_
  show own_R p e below _ T2 (mkF m 17 #[.val (.ref a), .val (.int (1 : Int32))] [])
  refine own_retV X2 hx Bd.returns (BodyLoose.notSynchronized Bd) (hb hby d13_17) (by decide) (by decide) ?_
  exact ⟨rfl, N0, e2⟩
theorem ef_pop_po3 (m : MethodId) (x0 : Addr) : entryFrame m #[(.ref x0)] 1 = mkF m 0 #[.val (.ref x0)] [] := by first | (simp [entryFrame, mkF, argsToLocals, Value.category]; done) | rfl
def Qpop_po3 (Z : State) (a : Addr) (w : Addr) (kw : ClassId) (x0 : Int32) (x1 : Int32) (x2 : Int32) (x3 : Int32) (h0 : Heap) (n0 : Nat) (v : Option Value) (h : Heap) (L : List Loc) : Prop := v = some (.int x2) ∧ Fr n0 L ∧ Keep h0 h [a] ∧ Exa Z h a "com/example/signetry/signetry/card/WordFrame" ∧ Fld Z h a "com/example/signetry/signetry/card/WordFrame" "words" "[I" (.ref w) ∧ Fld Z h a "com/example/signetry/signetry/card/WordFrame" "localCount" "I" (.int (2 : Int32)) ∧ Fld Z h a "com/example/signetry/signetry/card/WordFrame" "maxStack" "I" (.int (2 : Int32)) ∧ Fld Z h a "com/example/signetry/signetry/card/WordFrame" "top" "I" (.int (2 : Int32)) ∧ Fld Z h a "com/example/signetry/signetry/card/WordFrame" "thisUninitialized" "Z" (.int (0 : Int32)) ∧ Fld Z h a "com/example/signetry/signetry/card/WordFrame" "localsVersion" "I" (.int (3 : Int32))
set_option maxRecDepth 65536 in
set_option maxHeartbeats 40000000 in
theorem rmpop_po3 (l : Launch) (Z : State) (a0 : Array Value) (hw : ∀ d ∈ tables_1, d.before a0 Z = true) (ws : List Jvm.Cond) (a : Addr) (w : Addr) (kw : ClassId) (x0 : Int32) (x1 : Int32) (x2 : Int32) (x3 : Int32) (h0 : Heap) (n0 : Nat) (Z0 : n0 ≤ h0.size) (F_words_a : Fld Z h0 a "com/example/signetry/signetry/card/WordFrame" "words" "[I" (.ref w)) (F_localCount_a : Fld Z h0 a "com/example/signetry/signetry/card/WordFrame" "localCount" "I" (.int (2 : Int32))) (F_maxStack_a : Fld Z h0 a "com/example/signetry/signetry/card/WordFrame" "maxStack" "I" (.int (2 : Int32))) (F_top_a : Fld Z h0 a "com/example/signetry/signetry/card/WordFrame" "top" "I" (.int (3 : Int32))) (F_thisUninitialized_a : Fld Z h0 a "com/example/signetry/signetry/card/WordFrame" "thisUninitialized" "Z" (.int (0 : Int32))) (F_localsVersion_a : Fld Z h0 a "com/example/signetry/signetry/card/WordFrame" "localsVersion" "I" (.int (3 : Int32))) (E_a : Exa Z h0 a "com/example/signetry/signetry/card/WordFrame") (V_w : Arv Z h0 w kw .int (4 : Int32) [(.int x0), (.int x1), (.int x2), (.int x3)] (.int (0 : Int32))) (g_a : n0 ≤ a) (ne_a_w : a ≠ w) :
    MetFree l (⟨"com/example/signetry/signetry/card/WordFrame", "pop", "()I"⟩ : MethodName) (head1 (Jvm.Cond.code (⟨"com/example/signetry/signetry/card/WordFrame", "pop", "()I"⟩ : MethodName) prog_110_method_15_code 1 (some .int) :: ws) ({ frames := 1, cells := 0, slots := 0, locals := 13 } : Room)) (fun aS U => aS = #[(.ref a)] ∧ Z.Warmed39 U.vm ∧ U.heap = h0) (fun _ _ _ _ _ => True) (fun _ U o U' => ∃ v L, o = .returned v ∧ Qpop_po3 Z a w kw x0 x1 x2 x3 h0 n0 v U'.heap L ∧ FrameEnd U o U' L ({ frames := 1, cells := 0, slots := 0, locals := 13 } : Room).cells ({ frames := 1, cells := 0, slots := 0, locals := 13 } : Room).slots) := by
  refine MetFree.of_bodySF (plainFor_of_name pn_0) hisR ?_
  intro p e s m args below meth c s₁ Bd hml0 hP hK
  obtain ⟨rfl, hZ, hh⟩ := hP
  have hx := Bd.exec
  have hby := Bd.bytes
  have hml : c.maxLocals = 1 := hml0
  have hown : s.vm.findClass "com/example/signetry/signetry/card/WordFrame" = some m.cls := findClass_of_methodNamed Bd.named
  have hnm := (name_of_methodNamed Bd.named Bd.method).1
  have X0 : Stand p l e ({ frames := 1, cells := 0, slots := 0, locals := 13 } : Room) s m #[(.ref a)] below meth c s₁ [] 0 0 := Stand.of_body Bd
  have e0 : s₁.heap = h0 := by rw [← hh, Bd.state]; rfl
  have N0 := Fr.nil n0
  have Kh : Keep h0 h0 [a] := Keep.refl _ _
  suffices H : own_R p e below (own_E s below (Qpop_po3 Z a w kw x0 x1 x2 x3 h0 n0) ({ frames := 1, cells := 0, slots := 0, locals := 13 } : Room).cells ({ frames := 1, cells := 0, slots := 0, locals := 13 } : Room).slots) s₁ (mkF m 0 #[.val (.ref a)] []) by
    obtain ⟨t, hst, hrun, v, L, hend, hQ, hF⟩ := H
    exact ⟨t, _, castTop (ef_pop_po3 m a) hst, hrun, hend, v, L, rfl, hQ, hF⟩
  show own_R p e below _ s₁ (mkF m 0 #[.val (.ref a)] [])
  refine own_go (fun t k => XS.aloadN X0.here hx rfl (hb hby d12_0) rfl rfl  k) ?_
  show own_R p e below _ s₁ (mkF m 1 #[.val (.ref a)] [(.ref a)])
  refine own_go (fun t k => XS.iconst X0.here hx rfl (hb hby d12_1) k) ?_
  show own_R p e below _ s₁ (mkF m 2 #[.val (.ref a)] [(.int (1 : Int32)), (.ref a)])
  obtain ⟨cq1, q1, q1'⟩ := E_a.cell
  obtain ⟨_, _, ⟨T1, L1, k1, n1⟩, -, X1, ⟨Lc1, hQ1, l1, y1, z1⟩, st1⟩ := X0.privateBack hx (y := (⟨"com/example/signetry/signetry/card/WordFrame", "requireWords", "(I)V"⟩ : MethodName)) hown (mvT hZ (hw _ (List.mem_of_getElem? (i := 67) rfl))) (mvT hZ (hw _ (List.mem_of_getElem? (i := 68) rfl))) (Jvm.Kit.selects_private (by decide) (mvT hZ (hw _ (List.mem_of_getElem? (i := 2) rfl))) (mvP hZ (hw _ (List.mem_of_getElem? (i := 69) rfl))) (mvT hZ (hw _ (List.mem_of_getElem? (i := 68) rfl)))) (Cond.privateMethod_at (mvP hZ (hw _ (List.mem_of_getElem? (i := 69) rfl)) (args := #[]))) (mvT hZ (hw _ (List.mem_of_getElem? (i := 70) rfl))) (by decide) (backOf (W := 0) (rmrw_po3 l Z a0 hw [] a w kw x0 x1 x2 x3 h0 n0 (Nat.le_trans Z0 Kh.1) F_words_a F_localCount_a F_maxStack_a F_top_a F_thisUninitialized_a F_localsVersion_a E_a V_w) hZ (hw _ (List.mem_of_getElem? (i := 70) rfl)) (hw _ (List.mem_of_getElem? (i := 3) rfl)) (by decide) (by decide)) (g := (mkF m 2 #[.val (.ref a)] [(.int (1 : Int32)), (.ref a)])) rfl (by rw [hml]; rfl) (Steps.refl _) (a := a) (by rw [e0]; exact q1) q1' (argsL := [(.int (1 : Int32))]) (rest := []) (lenOf pd_4 rfl) rfl (by show 2 * 0 + _ ≤ _; exact Nat.le_of_eq rfl) (hb hby d12_2) (fun _ _ => ⟨rfl, e0, (by decide : 0 + 0 ≤ _), (by decide : 0 + 0 ≤ _)⟩)
  dsimp only [Pt.U, Pt.locs, Pt.cells, Pt.slots] at X1 l1 y1 z1 st1 hQ1
  subst l1 y1 z1
  obtain ⟨rfl, Nq1, e1⟩ := hQ1
  have N1 := Fr.app N0 Nq1
  refine own_go (fun t k => st1.trans k) ?_
  show own_R p e below _ T1 (mkF m 5 #[.val (.ref a)] [])
  refine own_go (fun t k => XS.aloadN X1.here hx rfl (hb hby d12_5) rfl rfl  k) ?_
  show own_R p e below _ T1 (mkF m 6 #[.val (.ref a)] [(.ref a)])
  refine own_go (fun t k => XS.dup X1.here hx rfl (hb hby d12_6) rfl rfl k) ?_
  show own_R p e below _ T1 (mkF m 7 #[.val (.ref a)] [(.ref a), (.ref a)])
  obtain ⟨T2, X2, e2, st2⟩ := getF X1 hx hZ hown (host := "") (Or.inl (hw _ (List.mem_of_getElem? (i := 29) rfl))) Via.refl e1 F_top_a (g := (mkF m 7 #[.val (.ref a)] [(.ref a), (.ref a)])) rfl rfl (hb hby d12_7)
  refine own_go (st2) ?_
  show own_R p e below _ T2 (mkF m 10 #[.val (.ref a)] [(.int (3 : Int32)), (.ref a)])
  refine own_go (fun t k => XS.iconst X2.here hx rfl (hb hby d12_10) k) ?_
  show own_R p e below _ T2 (mkF m 11 #[.val (.ref a)] [(.int (1 : Int32)), (.int (3 : Int32)), (.ref a)])
  refine own_go (fun t k => XS.isub X2.here hx rfl (hb hby d12_11) rfl k) ?_
  show own_R p e below _ T2 (mkF m 12 #[.val (.ref a)] [(.int (2 : Int32)), (.ref a)])
  obtain ⟨T3, h3, X3, e3, W3, st3⟩ := putF X2 hx hZ hown (host := "") (Or.inl (hw _ (List.mem_of_getElem? (i := 29) rfl))) Via.refl e2 F_top_a E_a (Or.inl (hw _ (List.mem_of_getElem? (i := 30) rfl))) (hw _ (List.mem_of_getElem? (i := 2) rfl)) (ty := .int) (by decide) rfl rfl (g := (mkF m 12 #[.val (.ref a)] [(.int (2 : Int32)), (.ref a)])) rfl rfl (hb hby d12_12)
  have N3 := Fr.snoc X3 N1 g_a
  replace Kh := Kh.wr W3 (Or.inl (List.mem_of_getElem? (i := 0) rfl))
  replace F_words_a := Fld.other W3 F_words_a (Or.inr (slot_ne (Or.inl (hw _ (List.mem_of_getElem? (i := 12) rfl))) (Or.inl (hw _ (List.mem_of_getElem? (i := 30) rfl))) (by decide) (t := (.array .int)) (t' := .int) (by decide) (by decide)))
  replace F_localCount_a := Fld.other W3 F_localCount_a (Or.inr (slot_ne (Or.inl (hw _ (List.mem_of_getElem? (i := 26) rfl))) (Or.inl (hw _ (List.mem_of_getElem? (i := 30) rfl))) (by decide) (t := .int) (t' := .int) (by decide) (by decide)))
  replace F_maxStack_a := Fld.other W3 F_maxStack_a (Or.inr (slot_ne (Or.inl (hw _ (List.mem_of_getElem? (i := 28) rfl))) (Or.inl (hw _ (List.mem_of_getElem? (i := 30) rfl))) (by decide) (t := .int) (t' := .int) (by decide) (by decide)))
  replace F_top_a := Fld.same W3 F_top_a
  replace F_thisUninitialized_a := Fld.other W3 F_thisUninitialized_a (Or.inr (slot_ne (Or.inl (hw _ (List.mem_of_getElem? (i := 32) rfl))) (Or.inl (hw _ (List.mem_of_getElem? (i := 30) rfl))) (by decide) (t := .boolean) (t' := .int) (by decide) (by decide)))
  replace F_localsVersion_a := Fld.other W3 F_localsVersion_a (Or.inr (slot_ne (Or.inl (hw _ (List.mem_of_getElem? (i := 34) rfl))) (Or.inl (hw _ (List.mem_of_getElem? (i := 30) rfl))) (by decide) (t := .int) (t' := .int) (by decide) (by decide)))
  replace E_a := Exa.wr W3 E_a
  replace V_w := Arv.other V_w W3 (Ne.symm ne_a_w)
  refine own_go (st3) ?_
  show own_R p e below _ T3 (mkF m 15 #[.val (.ref a)] [])
  refine own_go (fun t k => XS.aloadN X3.here hx rfl (hb hby d12_15) rfl rfl  k) ?_
  show own_R p e below _ T3 (mkF m 16 #[.val (.ref a)] [(.ref a)])
  obtain ⟨T4, X4, e4, st4⟩ := getF X3 hx hZ hown (host := "") (Or.inl (hw _ (List.mem_of_getElem? (i := 11) rfl))) Via.refl e3 F_words_a (g := (mkF m 16 #[.val (.ref a)] [(.ref a)])) rfl rfl (hb hby d12_16)
  refine own_go (st4) ?_
  show own_R p e below _ T4 (mkF m 19 #[.val (.ref a)] [(.ref w)])
  refine own_go (fun t k => XS.aloadN X4.here hx rfl (hb hby d12_19) rfl rfl  k) ?_
  show own_R p e below _ T4 (mkF m 20 #[.val (.ref a)] [(.ref a), (.ref w)])
  obtain ⟨T5, X5, e5, st5⟩ := getF X4 hx hZ hown (host := "") (Or.inl (hw _ (List.mem_of_getElem? (i := 29) rfl))) Via.refl e4 F_top_a (g := (mkF m 20 #[.val (.ref a)] [(.ref a), (.ref w)])) rfl rfl (hb hby d12_20)
  refine own_go (st5) ?_
  show own_R p e below _ T5 (mkF m 23 #[.val (.ref a)] [(.int (2 : Int32)), (.ref w)])
  obtain ⟨cl6, Ar6, q6, S6, Nn6, Hh6, G6⟩ := id V_w
  have hin6 : ¬ ((2 : Int32) < 0 ∨ cl6.slots.size ≤ ((2 : Int32)).toNatClampNeg) := inb_of S6 ⟨by decide, by decide⟩
  have hat6 : cl6.slots[((2 : Int32)).toNatClampNeg]? = some (.int x2) := Has.at Hh6 hin6 rfl
  refine own_go (X5.iaload hx (j := (2 : Int32)) (v := (.int x2)) (by rw [e5]; exact Ar6.1) (State.isArrayOf_alike hZ.alike Ar6.2.1) Ar6.2.2 hin6 hat6 (g := (mkF m 23 #[.val (.ref a)] [(.int (2 : Int32)), (.ref w)])) rfl rfl (hb hby d12_23)) ?_
  show own_R p e below _ T5 (mkF m 24 #[.val (.ref a)] [(.int x2)])
  refine own_retW X5 hx Bd.returns rfl (Or.inl ⟨rfl, Or.inl rfl, _, rfl⟩) (BodyLoose.notSynchronized Bd) (hb hby d12_24) (by decide) (by decide) ?_
  rw [e5]
  exact ⟨rfl, N3, Kh, E_a, F_words_a, F_localCount_a, F_maxStack_a, F_top_a, F_thisUninitialized_a, F_localsVersion_a⟩
theorem d11_0 : decode prog_110_method_24_code 0 = .ok (.iconst 0, 1) := by decide +kernel
theorem d11_1 : decode prog_110_method_24_code 1 = .ok (.istore_n 2, 1) := by decide +kernel
theorem d11_2 : decode prog_110_method_24_code 2 = .ok (.iload_n 2, 1) := by decide +kernel
theorem d11_3 : decode prog_110_method_24_code 3 = .ok (.aload_n 0, 1) := by decide +kernel
theorem d11_4 : decode prog_110_method_24_code 4 = .ok (.getfield 28, 3) := by decide +kernel
theorem d11_7 : decode prog_110_method_24_code 7 = .ok (.if_icmp .ge 21, 3) := by decide +kernel
theorem d11_10 : decode prog_110_method_24_code 10 = .ok (.aload_n 0, 1) := by decide +kernel
theorem d11_11 : decode prog_110_method_24_code 11 = .ok (.getfield 7, 3) := by decide +kernel
theorem d11_14 : decode prog_110_method_24_code 14 = .ok (.iload_n 2, 1) := by decide +kernel
theorem d11_15 : decode prog_110_method_24_code 15 = .ok (.iaload, 1) := by decide +kernel
theorem d11_16 : decode prog_110_method_24_code 16 = .ok (.iload_n 1, 1) := by decide +kernel
theorem d11_17 : decode prog_110_method_24_code 17 = .ok (.if_icmp .ne 5, 3) := by decide +kernel
theorem d11_20 : decode prog_110_method_24_code 20 = .ok (.iconst 1, 1) := by decide +kernel
theorem d11_21 : decode prog_110_method_24_code 21 = .ok (.ireturn, 1) := by decide +kernel
theorem d11_22 : decode prog_110_method_24_code 22 = .ok (.iinc 2 1, 3) := by decide +kernel
theorem d11_25 : decode prog_110_method_24_code 25 = .ok (.goto (-23), 3) := by decide +kernel
theorem d11_28 : decode prog_110_method_24_code 28 = .ok (.iconst 0, 1) := by decide +kernel
theorem d11_29 : decode prog_110_method_24_code 29 = .ok (.ireturn, 1) := by decide +kernel
theorem ef_holds_4 (m : MethodId) (x0 : Addr) (x1 : Int32) : entryFrame m #[(.ref x0), (.int x1)] 3 = mkF m 0 #[.val (.ref x0), .val (.int x1), .unset] [] := by first | (simp [entryFrame, mkF, argsToLocals, Value.category]; done) | rfl
def Qholds_4 (Z : State) (a : Addr) (y : Int32) (w : Addr) (kw : ClassId) (x0 : Int32) (x1 : Int32) (x2 : Int32) (x3 : Int32) (h0 : Heap) (n0 : Nat) (v : Option Value) (h : Heap) (L : List Loc) : Prop := v = some (.int (if x0 = y ∨ x1 = y ∨ x2 = y ∨ x3 = y then (1 : Int32) else (0 : Int32))) ∧ Fr n0 L ∧ h = h0
set_option maxRecDepth 65536 in
set_option maxHeartbeats 40000000 in
theorem rmholds_4 (l : Launch) (Z : State) (a0 : Array Value) (hw : ∀ d ∈ tables_1, d.before a0 Z = true) (ws : List Jvm.Cond) (a : Addr) (y : Int32) (w : Addr) (kw : ClassId) (x0 : Int32) (x1 : Int32) (x2 : Int32) (x3 : Int32) (h0 : Heap) (n0 : Nat) (Z0 : n0 ≤ h0.size) (F_words_a : Fld Z h0 a "com/example/signetry/signetry/card/WordFrame" "words" "[I" (.ref w)) (F_localCount_a : Fld Z h0 a "com/example/signetry/signetry/card/WordFrame" "localCount" "I" (.int (2 : Int32))) (F_maxStack_a : Fld Z h0 a "com/example/signetry/signetry/card/WordFrame" "maxStack" "I" (.int (2 : Int32))) (F_top_a : Fld Z h0 a "com/example/signetry/signetry/card/WordFrame" "top" "I" (.int (4 : Int32))) (F_thisUninitialized_a : Fld Z h0 a "com/example/signetry/signetry/card/WordFrame" "thisUninitialized" "Z" (.int (0 : Int32))) (F_localsVersion_a : Fld Z h0 a "com/example/signetry/signetry/card/WordFrame" "localsVersion" "I" (.int (3 : Int32))) (E_a : Exa Z h0 a "com/example/signetry/signetry/card/WordFrame") (V_w : Arv Z h0 w kw .int (4 : Int32) [(.int x0), (.int x1), (.int x2), (.int x3)] (.int (0 : Int32))) :
    MetFree l (⟨"com/example/signetry/signetry/card/WordFrame", "holds", "(I)Z"⟩ : MethodName) (head1 (Jvm.Cond.code (⟨"com/example/signetry/signetry/card/WordFrame", "holds", "(I)Z"⟩ : MethodName) prog_110_method_24_code 3 (some .boolean) :: ws) ({ frames := 0, cells := 0, slots := 0, locals := 0 } : Room)) (fun aS U => aS = #[(.ref a), (.int y)] ∧ Z.Warmed39 U.vm ∧ U.heap = h0) (fun _ _ _ _ _ => True) (fun _ U o U' => ∃ v L, o = .returned v ∧ Qholds_4 Z a y w kw x0 x1 x2 x3 h0 n0 v U'.heap L ∧ FrameEnd U o U' L ({ frames := 0, cells := 0, slots := 0, locals := 0 } : Room).cells ({ frames := 0, cells := 0, slots := 0, locals := 0 } : Room).slots) := by
  refine MetFree.of_bodySF (plainFor_of_name pn_0) hisR ?_
  intro p e s m args below meth c s₁ Bd hml0 hP hK
  obtain ⟨rfl, hZ, hh⟩ := hP
  have hx := Bd.exec
  have hby := Bd.bytes
  have hml : c.maxLocals = 3 := hml0
  have hown : s.vm.findClass "com/example/signetry/signetry/card/WordFrame" = some m.cls := findClass_of_methodNamed Bd.named
  have hnm := (name_of_methodNamed Bd.named Bd.method).1
  have X0 : Stand p l e ({ frames := 0, cells := 0, slots := 0, locals := 0 } : Room) s m #[(.ref a), (.int y)] below meth c s₁ [] 0 0 := Stand.of_body Bd
  have e0 : s₁.heap = h0 := by rw [← hh, Bd.state]; rfl
  have N0 := Fr.nil n0
  have Kh : Keep h0 h0 [] := Keep.refl _ _
  suffices H : own_R p e below (own_E s below (Qholds_4 Z a y w kw x0 x1 x2 x3 h0 n0) ({ frames := 0, cells := 0, slots := 0, locals := 0 } : Room).cells ({ frames := 0, cells := 0, slots := 0, locals := 0 } : Room).slots) s₁ (mkF m 0 #[.val (.ref a), .val (.int y), .unset] []) by
    obtain ⟨t, hst, hrun, v, L, hend, hQ, hF⟩ := H
    exact ⟨t, _, castTop (ef_holds_4 m a y) hst, hrun, hend, v, L, rfl, hQ, hF⟩
  show own_R p e below _ s₁ (mkF m 0 #[.val (.ref a), .val (.int y), .unset] [])
  refine own_go (fun t k => XS.iconst X0.here hx rfl (hb hby d11_0) k) ?_
  show own_R p e below _ s₁ (mkF m 1 #[.val (.ref a), .val (.int y), .unset] [(.int (0 : Int32))])
  refine own_go (fun t k => XS.istoreN X0.here hx rfl (hb hby d11_1) rfl (l' := #[.val (.ref a), .val (.int y), .val (.int (0 : Int32))]) rfl k) ?_
  show own_R p e below _ s₁ (mkF m 2 #[.val (.ref a), .val (.int y), .val (.int (0 : Int32))] [])
  refine own_go (fun t k => XS.iloadN X0.here hx rfl (hb hby d11_2) rfl  k) ?_
  show own_R p e below _ s₁ (mkF m 3 #[.val (.ref a), .val (.int y), .val (.int (0 : Int32))] [(.int (0 : Int32))])
  refine own_go (fun t k => XS.aloadN X0.here hx rfl (hb hby d11_3) rfl rfl  k) ?_
  show own_R p e below _ s₁ (mkF m 4 #[.val (.ref a), .val (.int y), .val (.int (0 : Int32))] [(.ref a), (.int (0 : Int32))])
  obtain ⟨T1, X1, e1, st1⟩ := getF X0 hx hZ hown (host := "") (Or.inl (hw _ (List.mem_of_getElem? (i := 29) rfl))) Via.refl e0 F_top_a (g := (mkF m 4 #[.val (.ref a), .val (.int y), .val (.int (0 : Int32))] [(.ref a), (.int (0 : Int32))])) rfl rfl (hb hby d11_4)
  refine own_go (st1) ?_
  show own_R p e below _ T1 (mkF m 7 #[.val (.ref a), .val (.int y), .val (.int (0 : Int32))] [(.int (4 : Int32)), (.int (0 : Int32))])
  refine own_go (fun t k => XS.icmpNo X1.here hx rfl (hb hby d11_7) rfl (tlt (by decide : (0 : Int32) < (4 : Int32))).2.1 k) ?_
  show own_R p e below _ T1 (mkF m 10 #[.val (.ref a), .val (.int y), .val (.int (0 : Int32))] [])
  refine own_go (fun t k => XS.aloadN X1.here hx rfl (hb hby d11_10) rfl rfl  k) ?_
  show own_R p e below _ T1 (mkF m 11 #[.val (.ref a), .val (.int y), .val (.int (0 : Int32))] [(.ref a)])
  obtain ⟨T2, X2, e2, st2⟩ := getF X1 hx hZ hown (host := "") (Or.inl (hw _ (List.mem_of_getElem? (i := 11) rfl))) Via.refl e1 F_words_a (g := (mkF m 11 #[.val (.ref a), .val (.int y), .val (.int (0 : Int32))] [(.ref a)])) rfl rfl (hb hby d11_11)
  refine own_go (st2) ?_
  show own_R p e below _ T2 (mkF m 14 #[.val (.ref a), .val (.int y), .val (.int (0 : Int32))] [(.ref w)])
  refine own_go (fun t k => XS.iloadN X2.here hx rfl (hb hby d11_14) rfl  k) ?_
  show own_R p e below _ T2 (mkF m 15 #[.val (.ref a), .val (.int y), .val (.int (0 : Int32))] [(.int (0 : Int32)), (.ref w)])
  obtain ⟨cl3, Ar3, q3, S3, Nn3, Hh3, G3⟩ := id V_w
  have hin3 : ¬ ((0 : Int32) < 0 ∨ cl3.slots.size ≤ ((0 : Int32)).toNatClampNeg) := inb_of S3 ⟨by decide, by decide⟩
  have hat3 : cl3.slots[((0 : Int32)).toNatClampNeg]? = some (.int x0) := Has.at Hh3 hin3 rfl
  refine own_go (X2.iaload hx (j := (0 : Int32)) (v := (.int x0)) (by rw [e2]; exact Ar3.1) (State.isArrayOf_alike hZ.alike Ar3.2.1) Ar3.2.2 hin3 hat3 (g := (mkF m 15 #[.val (.ref a), .val (.int y), .val (.int (0 : Int32))] [(.int (0 : Int32)), (.ref w)])) rfl rfl (hb hby d11_15)) ?_
  show own_R p e below _ T2 (mkF m 16 #[.val (.ref a), .val (.int y), .val (.int (0 : Int32))] [(.int x0)])
  refine own_go (fun t k => XS.iloadN X2.here hx rfl (hb hby d11_16) rfl  k) ?_
  show own_R p e below _ T2 (mkF m 17 #[.val (.ref a), .val (.int y), .val (.int (0 : Int32))] [(.int y), (.int x0)])
  by_cases hc17_4 : x0 = y
  · -- pc 17: yes
    refine own_go (fun t k => XS.icmpNo X2.here hx rfl (hb hby d11_17) rfl (teq hc17_4).2 k) ?_
    show own_R p e below _ T2 (mkF m 20 #[.val (.ref a), .val (.int y), .val (.int (0 : Int32))] [])
    refine own_go (fun t k => XS.iconst X2.here hx rfl (hb hby d11_20) k) ?_
    show own_R p e below _ T2 (mkF m 21 #[.val (.ref a), .val (.int y), .val (.int (0 : Int32))] [(.int (1 : Int32))])
    refine own_retN X2 hx Bd.returns (by simp) (BodyLoose.notSynchronized Bd) (hb hby d11_21) (by decide) (by decide) ?_
    exact ⟨(by rw [if_pos (Or.inl hc17_4)]; rfl), N0, e2⟩
  · -- pc 17: no
    refine own_go (fun t k => XS.icmpYes X2.here hx rfl (pc0 := 17) (pc' := 22) rfl (hb hby d11_17) rfl (feq hc17_4).2 (by decide) (by decide) k) ?_
    show own_R p e below _ T2 (mkF m 22 #[.val (.ref a), .val (.int y), .val (.int (0 : Int32))] [])
    refine own_go (fun t k => XS.iinc X2.here hx rfl (hb hby d11_22) rfl (l' := #[.val (.ref a), .val (.int y), .val (.int (1 : Int32))]) rfl k) ?_
    show own_R p e below _ T2 (mkF m 25 #[.val (.ref a), .val (.int y), .val (.int (1 : Int32))] [])
    refine own_go (fun t k => XS.goto X2.here hx rfl (pc0 := 25) (pc' := 2) rfl (hb hby d11_25) (by decide) (by decide) k) ?_
    show own_R p e below _ T2 (mkF m 2 #[.val (.ref a), .val (.int y), .val (.int (1 : Int32))] [])
    refine own_go (fun t k => XS.iloadN X2.here hx rfl (hb hby d11_2) rfl  k) ?_
    show own_R p e below _ T2 (mkF m 3 #[.val (.ref a), .val (.int y), .val (.int (1 : Int32))] [(.int (1 : Int32))])
    refine own_go (fun t k => XS.aloadN X2.here hx rfl (hb hby d11_3) rfl rfl  k) ?_
    show own_R p e below _ T2 (mkF m 4 #[.val (.ref a), .val (.int y), .val (.int (1 : Int32))] [(.ref a), (.int (1 : Int32))])
    obtain ⟨T5, X5, e5, st5⟩ := getF X2 hx hZ hown (host := "") (Or.inl (hw _ (List.mem_of_getElem? (i := 29) rfl))) Via.refl e2 F_top_a (g := (mkF m 4 #[.val (.ref a), .val (.int y), .val (.int (1 : Int32))] [(.ref a), (.int (1 : Int32))])) rfl rfl (hb hby d11_4)
    refine own_go (st5) ?_
    show own_R p e below _ T5 (mkF m 7 #[.val (.ref a), .val (.int y), .val (.int (1 : Int32))] [(.int (4 : Int32)), (.int (1 : Int32))])
    refine own_go (fun t k => XS.icmpNo X5.here hx rfl (hb hby d11_7) rfl (tlt (by decide : (1 : Int32) < (4 : Int32))).2.1 k) ?_
    show own_R p e below _ T5 (mkF m 10 #[.val (.ref a), .val (.int y), .val (.int (1 : Int32))] [])
    refine own_go (fun t k => XS.aloadN X5.here hx rfl (hb hby d11_10) rfl rfl  k) ?_
    show own_R p e below _ T5 (mkF m 11 #[.val (.ref a), .val (.int y), .val (.int (1 : Int32))] [(.ref a)])
    obtain ⟨T6, X6, e6, st6⟩ := getF X5 hx hZ hown (host := "") (Or.inl (hw _ (List.mem_of_getElem? (i := 11) rfl))) Via.refl e5 F_words_a (g := (mkF m 11 #[.val (.ref a), .val (.int y), .val (.int (1 : Int32))] [(.ref a)])) rfl rfl (hb hby d11_11)
    refine own_go (st6) ?_
    show own_R p e below _ T6 (mkF m 14 #[.val (.ref a), .val (.int y), .val (.int (1 : Int32))] [(.ref w)])
    refine own_go (fun t k => XS.iloadN X6.here hx rfl (hb hby d11_14) rfl  k) ?_
    show own_R p e below _ T6 (mkF m 15 #[.val (.ref a), .val (.int y), .val (.int (1 : Int32))] [(.int (1 : Int32)), (.ref w)])
    obtain ⟨cl7, Ar7, q7, S7, Nn7, Hh7, G7⟩ := id V_w
    have hin7 : ¬ ((1 : Int32) < 0 ∨ cl7.slots.size ≤ ((1 : Int32)).toNatClampNeg) := inb_of S7 ⟨by decide, by decide⟩
    have hat7 : cl7.slots[((1 : Int32)).toNatClampNeg]? = some (.int x1) := Has.at Hh7 hin7 rfl
    refine own_go (X6.iaload hx (j := (1 : Int32)) (v := (.int x1)) (by rw [e6]; exact Ar7.1) (State.isArrayOf_alike hZ.alike Ar7.2.1) Ar7.2.2 hin7 hat7 (g := (mkF m 15 #[.val (.ref a), .val (.int y), .val (.int (1 : Int32))] [(.int (1 : Int32)), (.ref w)])) rfl rfl (hb hby d11_15)) ?_
    show own_R p e below _ T6 (mkF m 16 #[.val (.ref a), .val (.int y), .val (.int (1 : Int32))] [(.int x1)])
    refine own_go (fun t k => XS.iloadN X6.here hx rfl (hb hby d11_16) rfl  k) ?_
    show own_R p e below _ T6 (mkF m 17 #[.val (.ref a), .val (.int y), .val (.int (1 : Int32))] [(.int y), (.int x1)])
    by_cases hc17_8 : x1 = y
    · -- pc 17: yes
      refine own_go (fun t k => XS.icmpNo X6.here hx rfl (hb hby d11_17) rfl (teq hc17_8).2 k) ?_
      show own_R p e below _ T6 (mkF m 20 #[.val (.ref a), .val (.int y), .val (.int (1 : Int32))] [])
      refine own_go (fun t k => XS.iconst X6.here hx rfl (hb hby d11_20) k) ?_
      show own_R p e below _ T6 (mkF m 21 #[.val (.ref a), .val (.int y), .val (.int (1 : Int32))] [(.int (1 : Int32))])
      refine own_retN X6 hx Bd.returns (by simp) (BodyLoose.notSynchronized Bd) (hb hby d11_21) (by decide) (by decide) ?_
      exact ⟨(by rw [if_pos (Or.inr (Or.inl hc17_8))]; rfl), N0, e6⟩
    · -- pc 17: no
      refine own_go (fun t k => XS.icmpYes X6.here hx rfl (pc0 := 17) (pc' := 22) rfl (hb hby d11_17) rfl (feq hc17_8).2 (by decide) (by decide) k) ?_
      show own_R p e below _ T6 (mkF m 22 #[.val (.ref a), .val (.int y), .val (.int (1 : Int32))] [])
      refine own_go (fun t k => XS.iinc X6.here hx rfl (hb hby d11_22) rfl (l' := #[.val (.ref a), .val (.int y), .val (.int (2 : Int32))]) rfl k) ?_
      show own_R p e below _ T6 (mkF m 25 #[.val (.ref a), .val (.int y), .val (.int (2 : Int32))] [])
      refine own_go (fun t k => XS.goto X6.here hx rfl (pc0 := 25) (pc' := 2) rfl (hb hby d11_25) (by decide) (by decide) k) ?_
      show own_R p e below _ T6 (mkF m 2 #[.val (.ref a), .val (.int y), .val (.int (2 : Int32))] [])
      refine own_go (fun t k => XS.iloadN X6.here hx rfl (hb hby d11_2) rfl  k) ?_
      show own_R p e below _ T6 (mkF m 3 #[.val (.ref a), .val (.int y), .val (.int (2 : Int32))] [(.int (2 : Int32))])
      refine own_go (fun t k => XS.aloadN X6.here hx rfl (hb hby d11_3) rfl rfl  k) ?_
      show own_R p e below _ T6 (mkF m 4 #[.val (.ref a), .val (.int y), .val (.int (2 : Int32))] [(.ref a), (.int (2 : Int32))])
      obtain ⟨T9, X9, e9, st9⟩ := getF X6 hx hZ hown (host := "") (Or.inl (hw _ (List.mem_of_getElem? (i := 29) rfl))) Via.refl e6 F_top_a (g := (mkF m 4 #[.val (.ref a), .val (.int y), .val (.int (2 : Int32))] [(.ref a), (.int (2 : Int32))])) rfl rfl (hb hby d11_4)
      refine own_go (st9) ?_
      show own_R p e below _ T9 (mkF m 7 #[.val (.ref a), .val (.int y), .val (.int (2 : Int32))] [(.int (4 : Int32)), (.int (2 : Int32))])
      refine own_go (fun t k => XS.icmpNo X9.here hx rfl (hb hby d11_7) rfl (tlt (by decide : (2 : Int32) < (4 : Int32))).2.1 k) ?_
      show own_R p e below _ T9 (mkF m 10 #[.val (.ref a), .val (.int y), .val (.int (2 : Int32))] [])
      refine own_go (fun t k => XS.aloadN X9.here hx rfl (hb hby d11_10) rfl rfl  k) ?_
      show own_R p e below _ T9 (mkF m 11 #[.val (.ref a), .val (.int y), .val (.int (2 : Int32))] [(.ref a)])
      obtain ⟨T10, X10, e10, st10⟩ := getF X9 hx hZ hown (host := "") (Or.inl (hw _ (List.mem_of_getElem? (i := 11) rfl))) Via.refl e9 F_words_a (g := (mkF m 11 #[.val (.ref a), .val (.int y), .val (.int (2 : Int32))] [(.ref a)])) rfl rfl (hb hby d11_11)
      refine own_go (st10) ?_
      show own_R p e below _ T10 (mkF m 14 #[.val (.ref a), .val (.int y), .val (.int (2 : Int32))] [(.ref w)])
      refine own_go (fun t k => XS.iloadN X10.here hx rfl (hb hby d11_14) rfl  k) ?_
      show own_R p e below _ T10 (mkF m 15 #[.val (.ref a), .val (.int y), .val (.int (2 : Int32))] [(.int (2 : Int32)), (.ref w)])
      obtain ⟨cl11, Ar11, q11, S11, Nn11, Hh11, G11⟩ := id V_w
      have hin11 : ¬ ((2 : Int32) < 0 ∨ cl11.slots.size ≤ ((2 : Int32)).toNatClampNeg) := inb_of S11 ⟨by decide, by decide⟩
      have hat11 : cl11.slots[((2 : Int32)).toNatClampNeg]? = some (.int x2) := Has.at Hh11 hin11 rfl
      refine own_go (X10.iaload hx (j := (2 : Int32)) (v := (.int x2)) (by rw [e10]; exact Ar11.1) (State.isArrayOf_alike hZ.alike Ar11.2.1) Ar11.2.2 hin11 hat11 (g := (mkF m 15 #[.val (.ref a), .val (.int y), .val (.int (2 : Int32))] [(.int (2 : Int32)), (.ref w)])) rfl rfl (hb hby d11_15)) ?_
      show own_R p e below _ T10 (mkF m 16 #[.val (.ref a), .val (.int y), .val (.int (2 : Int32))] [(.int x2)])
      refine own_go (fun t k => XS.iloadN X10.here hx rfl (hb hby d11_16) rfl  k) ?_
      show own_R p e below _ T10 (mkF m 17 #[.val (.ref a), .val (.int y), .val (.int (2 : Int32))] [(.int y), (.int x2)])
      by_cases hc17_12 : x2 = y
      · -- pc 17: yes
        refine own_go (fun t k => XS.icmpNo X10.here hx rfl (hb hby d11_17) rfl (teq hc17_12).2 k) ?_
        show own_R p e below _ T10 (mkF m 20 #[.val (.ref a), .val (.int y), .val (.int (2 : Int32))] [])
        refine own_go (fun t k => XS.iconst X10.here hx rfl (hb hby d11_20) k) ?_
        show own_R p e below _ T10 (mkF m 21 #[.val (.ref a), .val (.int y), .val (.int (2 : Int32))] [(.int (1 : Int32))])
        refine own_retN X10 hx Bd.returns (by simp) (BodyLoose.notSynchronized Bd) (hb hby d11_21) (by decide) (by decide) ?_
        exact ⟨(by rw [if_pos (Or.inr (Or.inr (Or.inl hc17_12)))]; rfl), N0, e10⟩
      · -- pc 17: no
        refine own_go (fun t k => XS.icmpYes X10.here hx rfl (pc0 := 17) (pc' := 22) rfl (hb hby d11_17) rfl (feq hc17_12).2 (by decide) (by decide) k) ?_
        show own_R p e below _ T10 (mkF m 22 #[.val (.ref a), .val (.int y), .val (.int (2 : Int32))] [])
        refine own_go (fun t k => XS.iinc X10.here hx rfl (hb hby d11_22) rfl (l' := #[.val (.ref a), .val (.int y), .val (.int (3 : Int32))]) rfl k) ?_
        show own_R p e below _ T10 (mkF m 25 #[.val (.ref a), .val (.int y), .val (.int (3 : Int32))] [])
        refine own_go (fun t k => XS.goto X10.here hx rfl (pc0 := 25) (pc' := 2) rfl (hb hby d11_25) (by decide) (by decide) k) ?_
        show own_R p e below _ T10 (mkF m 2 #[.val (.ref a), .val (.int y), .val (.int (3 : Int32))] [])
        refine own_go (fun t k => XS.iloadN X10.here hx rfl (hb hby d11_2) rfl  k) ?_
        show own_R p e below _ T10 (mkF m 3 #[.val (.ref a), .val (.int y), .val (.int (3 : Int32))] [(.int (3 : Int32))])
        refine own_go (fun t k => XS.aloadN X10.here hx rfl (hb hby d11_3) rfl rfl  k) ?_
        show own_R p e below _ T10 (mkF m 4 #[.val (.ref a), .val (.int y), .val (.int (3 : Int32))] [(.ref a), (.int (3 : Int32))])
        obtain ⟨T13, X13, e13, st13⟩ := getF X10 hx hZ hown (host := "") (Or.inl (hw _ (List.mem_of_getElem? (i := 29) rfl))) Via.refl e10 F_top_a (g := (mkF m 4 #[.val (.ref a), .val (.int y), .val (.int (3 : Int32))] [(.ref a), (.int (3 : Int32))])) rfl rfl (hb hby d11_4)
        refine own_go (st13) ?_
        show own_R p e below _ T13 (mkF m 7 #[.val (.ref a), .val (.int y), .val (.int (3 : Int32))] [(.int (4 : Int32)), (.int (3 : Int32))])
        refine own_go (fun t k => XS.icmpNo X13.here hx rfl (hb hby d11_7) rfl (tlt (by decide : (3 : Int32) < (4 : Int32))).2.1 k) ?_
        show own_R p e below _ T13 (mkF m 10 #[.val (.ref a), .val (.int y), .val (.int (3 : Int32))] [])
        refine own_go (fun t k => XS.aloadN X13.here hx rfl (hb hby d11_10) rfl rfl  k) ?_
        show own_R p e below _ T13 (mkF m 11 #[.val (.ref a), .val (.int y), .val (.int (3 : Int32))] [(.ref a)])
        obtain ⟨T14, X14, e14, st14⟩ := getF X13 hx hZ hown (host := "") (Or.inl (hw _ (List.mem_of_getElem? (i := 11) rfl))) Via.refl e13 F_words_a (g := (mkF m 11 #[.val (.ref a), .val (.int y), .val (.int (3 : Int32))] [(.ref a)])) rfl rfl (hb hby d11_11)
        refine own_go (st14) ?_
        show own_R p e below _ T14 (mkF m 14 #[.val (.ref a), .val (.int y), .val (.int (3 : Int32))] [(.ref w)])
        refine own_go (fun t k => XS.iloadN X14.here hx rfl (hb hby d11_14) rfl  k) ?_
        show own_R p e below _ T14 (mkF m 15 #[.val (.ref a), .val (.int y), .val (.int (3 : Int32))] [(.int (3 : Int32)), (.ref w)])
        obtain ⟨cl15, Ar15, q15, S15, Nn15, Hh15, G15⟩ := id V_w
        have hin15 : ¬ ((3 : Int32) < 0 ∨ cl15.slots.size ≤ ((3 : Int32)).toNatClampNeg) := inb_of S15 ⟨by decide, by decide⟩
        have hat15 : cl15.slots[((3 : Int32)).toNatClampNeg]? = some (.int x3) := Has.at Hh15 hin15 rfl
        refine own_go (X14.iaload hx (j := (3 : Int32)) (v := (.int x3)) (by rw [e14]; exact Ar15.1) (State.isArrayOf_alike hZ.alike Ar15.2.1) Ar15.2.2 hin15 hat15 (g := (mkF m 15 #[.val (.ref a), .val (.int y), .val (.int (3 : Int32))] [(.int (3 : Int32)), (.ref w)])) rfl rfl (hb hby d11_15)) ?_
        show own_R p e below _ T14 (mkF m 16 #[.val (.ref a), .val (.int y), .val (.int (3 : Int32))] [(.int x3)])
        refine own_go (fun t k => XS.iloadN X14.here hx rfl (hb hby d11_16) rfl  k) ?_
        show own_R p e below _ T14 (mkF m 17 #[.val (.ref a), .val (.int y), .val (.int (3 : Int32))] [(.int y), (.int x3)])
        by_cases hc17_16 : x3 = y
        · -- pc 17: yes
          refine own_go (fun t k => XS.icmpNo X14.here hx rfl (hb hby d11_17) rfl (teq hc17_16).2 k) ?_
          show own_R p e below _ T14 (mkF m 20 #[.val (.ref a), .val (.int y), .val (.int (3 : Int32))] [])
          refine own_go (fun t k => XS.iconst X14.here hx rfl (hb hby d11_20) k) ?_
          show own_R p e below _ T14 (mkF m 21 #[.val (.ref a), .val (.int y), .val (.int (3 : Int32))] [(.int (1 : Int32))])
          refine own_retN X14 hx Bd.returns (by simp) (BodyLoose.notSynchronized Bd) (hb hby d11_21) (by decide) (by decide) ?_
          exact ⟨(by rw [if_pos (Or.inr (Or.inr (Or.inr (hc17_16))))]; rfl), N0, e14⟩
        · -- pc 17: no
          refine own_go (fun t k => XS.icmpYes X14.here hx rfl (pc0 := 17) (pc' := 22) rfl (hb hby d11_17) rfl (feq hc17_16).2 (by decide) (by decide) k) ?_
          show own_R p e below _ T14 (mkF m 22 #[.val (.ref a), .val (.int y), .val (.int (3 : Int32))] [])
          refine own_go (fun t k => XS.iinc X14.here hx rfl (hb hby d11_22) rfl (l' := #[.val (.ref a), .val (.int y), .val (.int (4 : Int32))]) rfl k) ?_
          show own_R p e below _ T14 (mkF m 25 #[.val (.ref a), .val (.int y), .val (.int (4 : Int32))] [])
          refine own_go (fun t k => XS.goto X14.here hx rfl (pc0 := 25) (pc' := 2) rfl (hb hby d11_25) (by decide) (by decide) k) ?_
          show own_R p e below _ T14 (mkF m 2 #[.val (.ref a), .val (.int y), .val (.int (4 : Int32))] [])
          refine own_go (fun t k => XS.iloadN X14.here hx rfl (hb hby d11_2) rfl  k) ?_
          show own_R p e below _ T14 (mkF m 3 #[.val (.ref a), .val (.int y), .val (.int (4 : Int32))] [(.int (4 : Int32))])
          refine own_go (fun t k => XS.aloadN X14.here hx rfl (hb hby d11_3) rfl rfl  k) ?_
          show own_R p e below _ T14 (mkF m 4 #[.val (.ref a), .val (.int y), .val (.int (4 : Int32))] [(.ref a), (.int (4 : Int32))])
          obtain ⟨T17, X17, e17, st17⟩ := getF X14 hx hZ hown (host := "") (Or.inl (hw _ (List.mem_of_getElem? (i := 29) rfl))) Via.refl e14 F_top_a (g := (mkF m 4 #[.val (.ref a), .val (.int y), .val (.int (4 : Int32))] [(.ref a), (.int (4 : Int32))])) rfl rfl (hb hby d11_4)
          refine own_go (st17) ?_
          show own_R p e below _ T17 (mkF m 7 #[.val (.ref a), .val (.int y), .val (.int (4 : Int32))] [(.int (4 : Int32)), (.int (4 : Int32))])
          refine own_go (fun t k => XS.icmpYes X17.here hx rfl (pc0 := 7) (pc' := 28) rfl (hb hby d11_7) rfl (flt (by decide : ¬ ((4 : Int32) < (4 : Int32)))).2.1 (by decide) (by decide) k) ?_
          show own_R p e below _ T17 (mkF m 28 #[.val (.ref a), .val (.int y), .val (.int (4 : Int32))] [])
          refine own_go (fun t k => XS.iconst X17.here hx rfl (hb hby d11_28) k) ?_
          show own_R p e below _ T17 (mkF m 29 #[.val (.ref a), .val (.int y), .val (.int (4 : Int32))] [(.int (0 : Int32))])
          refine own_retN X17 hx Bd.returns (by simp) (BodyLoose.notSynchronized Bd) (hb hby d11_29) (by decide) (by decide) ?_
          exact ⟨(by rw [if_neg (by simp only [hc17_4, hc17_8, hc17_12, hc17_16, or_self, not_false_eq_true])]; rfl), N0, e17⟩
theorem ef_holds_3 (m : MethodId) (x0 : Addr) (x1 : Int32) : entryFrame m #[(.ref x0), (.int x1)] 3 = mkF m 0 #[.val (.ref x0), .val (.int x1), .unset] [] := by first | (simp [entryFrame, mkF, argsToLocals, Value.category]; done) | rfl
def Qholds_3 (Z : State) (a : Addr) (y : Int32) (w : Addr) (kw : ClassId) (x0 : Int32) (x1 : Int32) (x2 : Int32) (x3 : Int32) (h0 : Heap) (n0 : Nat) (v : Option Value) (h : Heap) (L : List Loc) : Prop := v = some (.int (if x0 = y ∨ x1 = y ∨ x2 = y then (1 : Int32) else (0 : Int32))) ∧ Fr n0 L ∧ h = h0
set_option maxRecDepth 65536 in
set_option maxHeartbeats 40000000 in
theorem rmholds_3 (l : Launch) (Z : State) (a0 : Array Value) (hw : ∀ d ∈ tables_1, d.before a0 Z = true) (ws : List Jvm.Cond) (a : Addr) (y : Int32) (w : Addr) (kw : ClassId) (x0 : Int32) (x1 : Int32) (x2 : Int32) (x3 : Int32) (h0 : Heap) (n0 : Nat) (Z0 : n0 ≤ h0.size) (F_words_a : Fld Z h0 a "com/example/signetry/signetry/card/WordFrame" "words" "[I" (.ref w)) (F_localCount_a : Fld Z h0 a "com/example/signetry/signetry/card/WordFrame" "localCount" "I" (.int (2 : Int32))) (F_maxStack_a : Fld Z h0 a "com/example/signetry/signetry/card/WordFrame" "maxStack" "I" (.int (2 : Int32))) (F_top_a : Fld Z h0 a "com/example/signetry/signetry/card/WordFrame" "top" "I" (.int (3 : Int32))) (F_thisUninitialized_a : Fld Z h0 a "com/example/signetry/signetry/card/WordFrame" "thisUninitialized" "Z" (.int (0 : Int32))) (F_localsVersion_a : Fld Z h0 a "com/example/signetry/signetry/card/WordFrame" "localsVersion" "I" (.int (3 : Int32))) (E_a : Exa Z h0 a "com/example/signetry/signetry/card/WordFrame") (V_w : Arv Z h0 w kw .int (4 : Int32) [(.int x0), (.int x1), (.int x2), (.int x3)] (.int (0 : Int32))) :
    MetFree l (⟨"com/example/signetry/signetry/card/WordFrame", "holds", "(I)Z"⟩ : MethodName) (head1 (Jvm.Cond.code (⟨"com/example/signetry/signetry/card/WordFrame", "holds", "(I)Z"⟩ : MethodName) prog_110_method_24_code 3 (some .boolean) :: ws) ({ frames := 0, cells := 0, slots := 0, locals := 0 } : Room)) (fun aS U => aS = #[(.ref a), (.int y)] ∧ Z.Warmed39 U.vm ∧ U.heap = h0) (fun _ _ _ _ _ => True) (fun _ U o U' => ∃ v L, o = .returned v ∧ Qholds_3 Z a y w kw x0 x1 x2 x3 h0 n0 v U'.heap L ∧ FrameEnd U o U' L ({ frames := 0, cells := 0, slots := 0, locals := 0 } : Room).cells ({ frames := 0, cells := 0, slots := 0, locals := 0 } : Room).slots) := by
  refine MetFree.of_bodySF (plainFor_of_name pn_0) hisR ?_
  intro p e s m args below meth c s₁ Bd hml0 hP hK
  obtain ⟨rfl, hZ, hh⟩ := hP
  have hx := Bd.exec
  have hby := Bd.bytes
  have hml : c.maxLocals = 3 := hml0
  have hown : s.vm.findClass "com/example/signetry/signetry/card/WordFrame" = some m.cls := findClass_of_methodNamed Bd.named
  have hnm := (name_of_methodNamed Bd.named Bd.method).1
  have X0 : Stand p l e ({ frames := 0, cells := 0, slots := 0, locals := 0 } : Room) s m #[(.ref a), (.int y)] below meth c s₁ [] 0 0 := Stand.of_body Bd
  have e0 : s₁.heap = h0 := by rw [← hh, Bd.state]; rfl
  have N0 := Fr.nil n0
  have Kh : Keep h0 h0 [] := Keep.refl _ _
  suffices H : own_R p e below (own_E s below (Qholds_3 Z a y w kw x0 x1 x2 x3 h0 n0) ({ frames := 0, cells := 0, slots := 0, locals := 0 } : Room).cells ({ frames := 0, cells := 0, slots := 0, locals := 0 } : Room).slots) s₁ (mkF m 0 #[.val (.ref a), .val (.int y), .unset] []) by
    obtain ⟨t, hst, hrun, v, L, hend, hQ, hF⟩ := H
    exact ⟨t, _, castTop (ef_holds_3 m a y) hst, hrun, hend, v, L, rfl, hQ, hF⟩
  show own_R p e below _ s₁ (mkF m 0 #[.val (.ref a), .val (.int y), .unset] [])
  refine own_go (fun t k => XS.iconst X0.here hx rfl (hb hby d11_0) k) ?_
  show own_R p e below _ s₁ (mkF m 1 #[.val (.ref a), .val (.int y), .unset] [(.int (0 : Int32))])
  refine own_go (fun t k => XS.istoreN X0.here hx rfl (hb hby d11_1) rfl (l' := #[.val (.ref a), .val (.int y), .val (.int (0 : Int32))]) rfl k) ?_
  show own_R p e below _ s₁ (mkF m 2 #[.val (.ref a), .val (.int y), .val (.int (0 : Int32))] [])
  refine own_go (fun t k => XS.iloadN X0.here hx rfl (hb hby d11_2) rfl  k) ?_
  show own_R p e below _ s₁ (mkF m 3 #[.val (.ref a), .val (.int y), .val (.int (0 : Int32))] [(.int (0 : Int32))])
  refine own_go (fun t k => XS.aloadN X0.here hx rfl (hb hby d11_3) rfl rfl  k) ?_
  show own_R p e below _ s₁ (mkF m 4 #[.val (.ref a), .val (.int y), .val (.int (0 : Int32))] [(.ref a), (.int (0 : Int32))])
  obtain ⟨T1, X1, e1, st1⟩ := getF X0 hx hZ hown (host := "") (Or.inl (hw _ (List.mem_of_getElem? (i := 29) rfl))) Via.refl e0 F_top_a (g := (mkF m 4 #[.val (.ref a), .val (.int y), .val (.int (0 : Int32))] [(.ref a), (.int (0 : Int32))])) rfl rfl (hb hby d11_4)
  refine own_go (st1) ?_
  show own_R p e below _ T1 (mkF m 7 #[.val (.ref a), .val (.int y), .val (.int (0 : Int32))] [(.int (3 : Int32)), (.int (0 : Int32))])
  refine own_go (fun t k => XS.icmpNo X1.here hx rfl (hb hby d11_7) rfl (tlt (by decide : (0 : Int32) < (3 : Int32))).2.1 k) ?_
  show own_R p e below _ T1 (mkF m 10 #[.val (.ref a), .val (.int y), .val (.int (0 : Int32))] [])
  refine own_go (fun t k => XS.aloadN X1.here hx rfl (hb hby d11_10) rfl rfl  k) ?_
  show own_R p e below _ T1 (mkF m 11 #[.val (.ref a), .val (.int y), .val (.int (0 : Int32))] [(.ref a)])
  obtain ⟨T2, X2, e2, st2⟩ := getF X1 hx hZ hown (host := "") (Or.inl (hw _ (List.mem_of_getElem? (i := 11) rfl))) Via.refl e1 F_words_a (g := (mkF m 11 #[.val (.ref a), .val (.int y), .val (.int (0 : Int32))] [(.ref a)])) rfl rfl (hb hby d11_11)
  refine own_go (st2) ?_
  show own_R p e below _ T2 (mkF m 14 #[.val (.ref a), .val (.int y), .val (.int (0 : Int32))] [(.ref w)])
  refine own_go (fun t k => XS.iloadN X2.here hx rfl (hb hby d11_14) rfl  k) ?_
  show own_R p e below _ T2 (mkF m 15 #[.val (.ref a), .val (.int y), .val (.int (0 : Int32))] [(.int (0 : Int32)), (.ref w)])
  obtain ⟨cl3, Ar3, q3, S3, Nn3, Hh3, G3⟩ := id V_w
  have hin3 : ¬ ((0 : Int32) < 0 ∨ cl3.slots.size ≤ ((0 : Int32)).toNatClampNeg) := inb_of S3 ⟨by decide, by decide⟩
  have hat3 : cl3.slots[((0 : Int32)).toNatClampNeg]? = some (.int x0) := Has.at Hh3 hin3 rfl
  refine own_go (X2.iaload hx (j := (0 : Int32)) (v := (.int x0)) (by rw [e2]; exact Ar3.1) (State.isArrayOf_alike hZ.alike Ar3.2.1) Ar3.2.2 hin3 hat3 (g := (mkF m 15 #[.val (.ref a), .val (.int y), .val (.int (0 : Int32))] [(.int (0 : Int32)), (.ref w)])) rfl rfl (hb hby d11_15)) ?_
  show own_R p e below _ T2 (mkF m 16 #[.val (.ref a), .val (.int y), .val (.int (0 : Int32))] [(.int x0)])
  refine own_go (fun t k => XS.iloadN X2.here hx rfl (hb hby d11_16) rfl  k) ?_
  show own_R p e below _ T2 (mkF m 17 #[.val (.ref a), .val (.int y), .val (.int (0 : Int32))] [(.int y), (.int x0)])
  by_cases hc17_4 : x0 = y
  · -- pc 17: yes
    refine own_go (fun t k => XS.icmpNo X2.here hx rfl (hb hby d11_17) rfl (teq hc17_4).2 k) ?_
    show own_R p e below _ T2 (mkF m 20 #[.val (.ref a), .val (.int y), .val (.int (0 : Int32))] [])
    refine own_go (fun t k => XS.iconst X2.here hx rfl (hb hby d11_20) k) ?_
    show own_R p e below _ T2 (mkF m 21 #[.val (.ref a), .val (.int y), .val (.int (0 : Int32))] [(.int (1 : Int32))])
    refine own_retN X2 hx Bd.returns (by simp) (BodyLoose.notSynchronized Bd) (hb hby d11_21) (by decide) (by decide) ?_
    exact ⟨(by rw [if_pos (Or.inl hc17_4)]; rfl), N0, e2⟩
  · -- pc 17: no
    refine own_go (fun t k => XS.icmpYes X2.here hx rfl (pc0 := 17) (pc' := 22) rfl (hb hby d11_17) rfl (feq hc17_4).2 (by decide) (by decide) k) ?_
    show own_R p e below _ T2 (mkF m 22 #[.val (.ref a), .val (.int y), .val (.int (0 : Int32))] [])
    refine own_go (fun t k => XS.iinc X2.here hx rfl (hb hby d11_22) rfl (l' := #[.val (.ref a), .val (.int y), .val (.int (1 : Int32))]) rfl k) ?_
    show own_R p e below _ T2 (mkF m 25 #[.val (.ref a), .val (.int y), .val (.int (1 : Int32))] [])
    refine own_go (fun t k => XS.goto X2.here hx rfl (pc0 := 25) (pc' := 2) rfl (hb hby d11_25) (by decide) (by decide) k) ?_
    show own_R p e below _ T2 (mkF m 2 #[.val (.ref a), .val (.int y), .val (.int (1 : Int32))] [])
    refine own_go (fun t k => XS.iloadN X2.here hx rfl (hb hby d11_2) rfl  k) ?_
    show own_R p e below _ T2 (mkF m 3 #[.val (.ref a), .val (.int y), .val (.int (1 : Int32))] [(.int (1 : Int32))])
    refine own_go (fun t k => XS.aloadN X2.here hx rfl (hb hby d11_3) rfl rfl  k) ?_
    show own_R p e below _ T2 (mkF m 4 #[.val (.ref a), .val (.int y), .val (.int (1 : Int32))] [(.ref a), (.int (1 : Int32))])
    obtain ⟨T5, X5, e5, st5⟩ := getF X2 hx hZ hown (host := "") (Or.inl (hw _ (List.mem_of_getElem? (i := 29) rfl))) Via.refl e2 F_top_a (g := (mkF m 4 #[.val (.ref a), .val (.int y), .val (.int (1 : Int32))] [(.ref a), (.int (1 : Int32))])) rfl rfl (hb hby d11_4)
    refine own_go (st5) ?_
    show own_R p e below _ T5 (mkF m 7 #[.val (.ref a), .val (.int y), .val (.int (1 : Int32))] [(.int (3 : Int32)), (.int (1 : Int32))])
    refine own_go (fun t k => XS.icmpNo X5.here hx rfl (hb hby d11_7) rfl (tlt (by decide : (1 : Int32) < (3 : Int32))).2.1 k) ?_
    show own_R p e below _ T5 (mkF m 10 #[.val (.ref a), .val (.int y), .val (.int (1 : Int32))] [])
    refine own_go (fun t k => XS.aloadN X5.here hx rfl (hb hby d11_10) rfl rfl  k) ?_
    show own_R p e below _ T5 (mkF m 11 #[.val (.ref a), .val (.int y), .val (.int (1 : Int32))] [(.ref a)])
    obtain ⟨T6, X6, e6, st6⟩ := getF X5 hx hZ hown (host := "") (Or.inl (hw _ (List.mem_of_getElem? (i := 11) rfl))) Via.refl e5 F_words_a (g := (mkF m 11 #[.val (.ref a), .val (.int y), .val (.int (1 : Int32))] [(.ref a)])) rfl rfl (hb hby d11_11)
    refine own_go (st6) ?_
    show own_R p e below _ T6 (mkF m 14 #[.val (.ref a), .val (.int y), .val (.int (1 : Int32))] [(.ref w)])
    refine own_go (fun t k => XS.iloadN X6.here hx rfl (hb hby d11_14) rfl  k) ?_
    show own_R p e below _ T6 (mkF m 15 #[.val (.ref a), .val (.int y), .val (.int (1 : Int32))] [(.int (1 : Int32)), (.ref w)])
    obtain ⟨cl7, Ar7, q7, S7, Nn7, Hh7, G7⟩ := id V_w
    have hin7 : ¬ ((1 : Int32) < 0 ∨ cl7.slots.size ≤ ((1 : Int32)).toNatClampNeg) := inb_of S7 ⟨by decide, by decide⟩
    have hat7 : cl7.slots[((1 : Int32)).toNatClampNeg]? = some (.int x1) := Has.at Hh7 hin7 rfl
    refine own_go (X6.iaload hx (j := (1 : Int32)) (v := (.int x1)) (by rw [e6]; exact Ar7.1) (State.isArrayOf_alike hZ.alike Ar7.2.1) Ar7.2.2 hin7 hat7 (g := (mkF m 15 #[.val (.ref a), .val (.int y), .val (.int (1 : Int32))] [(.int (1 : Int32)), (.ref w)])) rfl rfl (hb hby d11_15)) ?_
    show own_R p e below _ T6 (mkF m 16 #[.val (.ref a), .val (.int y), .val (.int (1 : Int32))] [(.int x1)])
    refine own_go (fun t k => XS.iloadN X6.here hx rfl (hb hby d11_16) rfl  k) ?_
    show own_R p e below _ T6 (mkF m 17 #[.val (.ref a), .val (.int y), .val (.int (1 : Int32))] [(.int y), (.int x1)])
    by_cases hc17_8 : x1 = y
    · -- pc 17: yes
      refine own_go (fun t k => XS.icmpNo X6.here hx rfl (hb hby d11_17) rfl (teq hc17_8).2 k) ?_
      show own_R p e below _ T6 (mkF m 20 #[.val (.ref a), .val (.int y), .val (.int (1 : Int32))] [])
      refine own_go (fun t k => XS.iconst X6.here hx rfl (hb hby d11_20) k) ?_
      show own_R p e below _ T6 (mkF m 21 #[.val (.ref a), .val (.int y), .val (.int (1 : Int32))] [(.int (1 : Int32))])
      refine own_retN X6 hx Bd.returns (by simp) (BodyLoose.notSynchronized Bd) (hb hby d11_21) (by decide) (by decide) ?_
      exact ⟨(by rw [if_pos (Or.inr (Or.inl hc17_8))]; rfl), N0, e6⟩
    · -- pc 17: no
      refine own_go (fun t k => XS.icmpYes X6.here hx rfl (pc0 := 17) (pc' := 22) rfl (hb hby d11_17) rfl (feq hc17_8).2 (by decide) (by decide) k) ?_
      show own_R p e below _ T6 (mkF m 22 #[.val (.ref a), .val (.int y), .val (.int (1 : Int32))] [])
      refine own_go (fun t k => XS.iinc X6.here hx rfl (hb hby d11_22) rfl (l' := #[.val (.ref a), .val (.int y), .val (.int (2 : Int32))]) rfl k) ?_
      show own_R p e below _ T6 (mkF m 25 #[.val (.ref a), .val (.int y), .val (.int (2 : Int32))] [])
      refine own_go (fun t k => XS.goto X6.here hx rfl (pc0 := 25) (pc' := 2) rfl (hb hby d11_25) (by decide) (by decide) k) ?_
      show own_R p e below _ T6 (mkF m 2 #[.val (.ref a), .val (.int y), .val (.int (2 : Int32))] [])
      refine own_go (fun t k => XS.iloadN X6.here hx rfl (hb hby d11_2) rfl  k) ?_
      show own_R p e below _ T6 (mkF m 3 #[.val (.ref a), .val (.int y), .val (.int (2 : Int32))] [(.int (2 : Int32))])
      refine own_go (fun t k => XS.aloadN X6.here hx rfl (hb hby d11_3) rfl rfl  k) ?_
      show own_R p e below _ T6 (mkF m 4 #[.val (.ref a), .val (.int y), .val (.int (2 : Int32))] [(.ref a), (.int (2 : Int32))])
      obtain ⟨T9, X9, e9, st9⟩ := getF X6 hx hZ hown (host := "") (Or.inl (hw _ (List.mem_of_getElem? (i := 29) rfl))) Via.refl e6 F_top_a (g := (mkF m 4 #[.val (.ref a), .val (.int y), .val (.int (2 : Int32))] [(.ref a), (.int (2 : Int32))])) rfl rfl (hb hby d11_4)
      refine own_go (st9) ?_
      show own_R p e below _ T9 (mkF m 7 #[.val (.ref a), .val (.int y), .val (.int (2 : Int32))] [(.int (3 : Int32)), (.int (2 : Int32))])
      refine own_go (fun t k => XS.icmpNo X9.here hx rfl (hb hby d11_7) rfl (tlt (by decide : (2 : Int32) < (3 : Int32))).2.1 k) ?_
      show own_R p e below _ T9 (mkF m 10 #[.val (.ref a), .val (.int y), .val (.int (2 : Int32))] [])
      refine own_go (fun t k => XS.aloadN X9.here hx rfl (hb hby d11_10) rfl rfl  k) ?_
      show own_R p e below _ T9 (mkF m 11 #[.val (.ref a), .val (.int y), .val (.int (2 : Int32))] [(.ref a)])
      obtain ⟨T10, X10, e10, st10⟩ := getF X9 hx hZ hown (host := "") (Or.inl (hw _ (List.mem_of_getElem? (i := 11) rfl))) Via.refl e9 F_words_a (g := (mkF m 11 #[.val (.ref a), .val (.int y), .val (.int (2 : Int32))] [(.ref a)])) rfl rfl (hb hby d11_11)
      refine own_go (st10) ?_
      show own_R p e below _ T10 (mkF m 14 #[.val (.ref a), .val (.int y), .val (.int (2 : Int32))] [(.ref w)])
      refine own_go (fun t k => XS.iloadN X10.here hx rfl (hb hby d11_14) rfl  k) ?_
      show own_R p e below _ T10 (mkF m 15 #[.val (.ref a), .val (.int y), .val (.int (2 : Int32))] [(.int (2 : Int32)), (.ref w)])
      obtain ⟨cl11, Ar11, q11, S11, Nn11, Hh11, G11⟩ := id V_w
      have hin11 : ¬ ((2 : Int32) < 0 ∨ cl11.slots.size ≤ ((2 : Int32)).toNatClampNeg) := inb_of S11 ⟨by decide, by decide⟩
      have hat11 : cl11.slots[((2 : Int32)).toNatClampNeg]? = some (.int x2) := Has.at Hh11 hin11 rfl
      refine own_go (X10.iaload hx (j := (2 : Int32)) (v := (.int x2)) (by rw [e10]; exact Ar11.1) (State.isArrayOf_alike hZ.alike Ar11.2.1) Ar11.2.2 hin11 hat11 (g := (mkF m 15 #[.val (.ref a), .val (.int y), .val (.int (2 : Int32))] [(.int (2 : Int32)), (.ref w)])) rfl rfl (hb hby d11_15)) ?_
      show own_R p e below _ T10 (mkF m 16 #[.val (.ref a), .val (.int y), .val (.int (2 : Int32))] [(.int x2)])
      refine own_go (fun t k => XS.iloadN X10.here hx rfl (hb hby d11_16) rfl  k) ?_
      show own_R p e below _ T10 (mkF m 17 #[.val (.ref a), .val (.int y), .val (.int (2 : Int32))] [(.int y), (.int x2)])
      by_cases hc17_12 : x2 = y
      · -- pc 17: yes
        refine own_go (fun t k => XS.icmpNo X10.here hx rfl (hb hby d11_17) rfl (teq hc17_12).2 k) ?_
        show own_R p e below _ T10 (mkF m 20 #[.val (.ref a), .val (.int y), .val (.int (2 : Int32))] [])
        refine own_go (fun t k => XS.iconst X10.here hx rfl (hb hby d11_20) k) ?_
        show own_R p e below _ T10 (mkF m 21 #[.val (.ref a), .val (.int y), .val (.int (2 : Int32))] [(.int (1 : Int32))])
        refine own_retN X10 hx Bd.returns (by simp) (BodyLoose.notSynchronized Bd) (hb hby d11_21) (by decide) (by decide) ?_
        exact ⟨(by rw [if_pos (Or.inr (Or.inr (hc17_12)))]; rfl), N0, e10⟩
      · -- pc 17: no
        refine own_go (fun t k => XS.icmpYes X10.here hx rfl (pc0 := 17) (pc' := 22) rfl (hb hby d11_17) rfl (feq hc17_12).2 (by decide) (by decide) k) ?_
        show own_R p e below _ T10 (mkF m 22 #[.val (.ref a), .val (.int y), .val (.int (2 : Int32))] [])
        refine own_go (fun t k => XS.iinc X10.here hx rfl (hb hby d11_22) rfl (l' := #[.val (.ref a), .val (.int y), .val (.int (3 : Int32))]) rfl k) ?_
        show own_R p e below _ T10 (mkF m 25 #[.val (.ref a), .val (.int y), .val (.int (3 : Int32))] [])
        refine own_go (fun t k => XS.goto X10.here hx rfl (pc0 := 25) (pc' := 2) rfl (hb hby d11_25) (by decide) (by decide) k) ?_
        show own_R p e below _ T10 (mkF m 2 #[.val (.ref a), .val (.int y), .val (.int (3 : Int32))] [])
        refine own_go (fun t k => XS.iloadN X10.here hx rfl (hb hby d11_2) rfl  k) ?_
        show own_R p e below _ T10 (mkF m 3 #[.val (.ref a), .val (.int y), .val (.int (3 : Int32))] [(.int (3 : Int32))])
        refine own_go (fun t k => XS.aloadN X10.here hx rfl (hb hby d11_3) rfl rfl  k) ?_
        show own_R p e below _ T10 (mkF m 4 #[.val (.ref a), .val (.int y), .val (.int (3 : Int32))] [(.ref a), (.int (3 : Int32))])
        obtain ⟨T13, X13, e13, st13⟩ := getF X10 hx hZ hown (host := "") (Or.inl (hw _ (List.mem_of_getElem? (i := 29) rfl))) Via.refl e10 F_top_a (g := (mkF m 4 #[.val (.ref a), .val (.int y), .val (.int (3 : Int32))] [(.ref a), (.int (3 : Int32))])) rfl rfl (hb hby d11_4)
        refine own_go (st13) ?_
        show own_R p e below _ T13 (mkF m 7 #[.val (.ref a), .val (.int y), .val (.int (3 : Int32))] [(.int (3 : Int32)), (.int (3 : Int32))])
        refine own_go (fun t k => XS.icmpYes X13.here hx rfl (pc0 := 7) (pc' := 28) rfl (hb hby d11_7) rfl (flt (by decide : ¬ ((3 : Int32) < (3 : Int32)))).2.1 (by decide) (by decide) k) ?_
        show own_R p e below _ T13 (mkF m 28 #[.val (.ref a), .val (.int y), .val (.int (3 : Int32))] [])
        refine own_go (fun t k => XS.iconst X13.here hx rfl (hb hby d11_28) k) ?_
        show own_R p e below _ T13 (mkF m 29 #[.val (.ref a), .val (.int y), .val (.int (3 : Int32))] [(.int (0 : Int32))])
        refine own_retN X13 hx Bd.returns (by simp) (BodyLoose.notSynchronized Bd) (hb hby d11_29) (by decide) (by decide) ?_
        exact ⟨(by rw [if_neg (by simp only [hc17_4, hc17_8, hc17_12, or_self, not_false_eq_true])]; rfl), N0, e13⟩
theorem ef_holds_2 (m : MethodId) (x0 : Addr) (x1 : Int32) : entryFrame m #[(.ref x0), (.int x1)] 3 = mkF m 0 #[.val (.ref x0), .val (.int x1), .unset] [] := by first | (simp [entryFrame, mkF, argsToLocals, Value.category]; done) | rfl
def Qholds_2 (Z : State) (a : Addr) (y : Int32) (w : Addr) (kw : ClassId) (x0 : Int32) (x1 : Int32) (x2 : Int32) (x3 : Int32) (h0 : Heap) (n0 : Nat) (v : Option Value) (h : Heap) (L : List Loc) : Prop := v = some (.int (if x0 = y ∨ x1 = y then (1 : Int32) else (0 : Int32))) ∧ Fr n0 L ∧ h = h0
set_option maxRecDepth 65536 in
set_option maxHeartbeats 40000000 in
theorem rmholds_2 (l : Launch) (Z : State) (a0 : Array Value) (hw : ∀ d ∈ tables_1, d.before a0 Z = true) (ws : List Jvm.Cond) (a : Addr) (y : Int32) (w : Addr) (kw : ClassId) (x0 : Int32) (x1 : Int32) (x2 : Int32) (x3 : Int32) (h0 : Heap) (n0 : Nat) (Z0 : n0 ≤ h0.size) (F_words_a : Fld Z h0 a "com/example/signetry/signetry/card/WordFrame" "words" "[I" (.ref w)) (F_localCount_a : Fld Z h0 a "com/example/signetry/signetry/card/WordFrame" "localCount" "I" (.int (2 : Int32))) (F_maxStack_a : Fld Z h0 a "com/example/signetry/signetry/card/WordFrame" "maxStack" "I" (.int (2 : Int32))) (F_top_a : Fld Z h0 a "com/example/signetry/signetry/card/WordFrame" "top" "I" (.int (2 : Int32))) (F_thisUninitialized_a : Fld Z h0 a "com/example/signetry/signetry/card/WordFrame" "thisUninitialized" "Z" (.int (0 : Int32))) (F_localsVersion_a : Fld Z h0 a "com/example/signetry/signetry/card/WordFrame" "localsVersion" "I" (.int (3 : Int32))) (E_a : Exa Z h0 a "com/example/signetry/signetry/card/WordFrame") (V_w : Arv Z h0 w kw .int (4 : Int32) [(.int x0), (.int x1), (.int x2), (.int x3)] (.int (0 : Int32))) :
    MetFree l (⟨"com/example/signetry/signetry/card/WordFrame", "holds", "(I)Z"⟩ : MethodName) (head1 (Jvm.Cond.code (⟨"com/example/signetry/signetry/card/WordFrame", "holds", "(I)Z"⟩ : MethodName) prog_110_method_24_code 3 (some .boolean) :: ws) ({ frames := 0, cells := 0, slots := 0, locals := 0 } : Room)) (fun aS U => aS = #[(.ref a), (.int y)] ∧ Z.Warmed39 U.vm ∧ U.heap = h0) (fun _ _ _ _ _ => True) (fun _ U o U' => ∃ v L, o = .returned v ∧ Qholds_2 Z a y w kw x0 x1 x2 x3 h0 n0 v U'.heap L ∧ FrameEnd U o U' L ({ frames := 0, cells := 0, slots := 0, locals := 0 } : Room).cells ({ frames := 0, cells := 0, slots := 0, locals := 0 } : Room).slots) := by
  refine MetFree.of_bodySF (plainFor_of_name pn_0) hisR ?_
  intro p e s m args below meth c s₁ Bd hml0 hP hK
  obtain ⟨rfl, hZ, hh⟩ := hP
  have hx := Bd.exec
  have hby := Bd.bytes
  have hml : c.maxLocals = 3 := hml0
  have hown : s.vm.findClass "com/example/signetry/signetry/card/WordFrame" = some m.cls := findClass_of_methodNamed Bd.named
  have hnm := (name_of_methodNamed Bd.named Bd.method).1
  have X0 : Stand p l e ({ frames := 0, cells := 0, slots := 0, locals := 0 } : Room) s m #[(.ref a), (.int y)] below meth c s₁ [] 0 0 := Stand.of_body Bd
  have e0 : s₁.heap = h0 := by rw [← hh, Bd.state]; rfl
  have N0 := Fr.nil n0
  have Kh : Keep h0 h0 [] := Keep.refl _ _
  suffices H : own_R p e below (own_E s below (Qholds_2 Z a y w kw x0 x1 x2 x3 h0 n0) ({ frames := 0, cells := 0, slots := 0, locals := 0 } : Room).cells ({ frames := 0, cells := 0, slots := 0, locals := 0 } : Room).slots) s₁ (mkF m 0 #[.val (.ref a), .val (.int y), .unset] []) by
    obtain ⟨t, hst, hrun, v, L, hend, hQ, hF⟩ := H
    exact ⟨t, _, castTop (ef_holds_2 m a y) hst, hrun, hend, v, L, rfl, hQ, hF⟩
  show own_R p e below _ s₁ (mkF m 0 #[.val (.ref a), .val (.int y), .unset] [])
  refine own_go (fun t k => XS.iconst X0.here hx rfl (hb hby d11_0) k) ?_
  show own_R p e below _ s₁ (mkF m 1 #[.val (.ref a), .val (.int y), .unset] [(.int (0 : Int32))])
  refine own_go (fun t k => XS.istoreN X0.here hx rfl (hb hby d11_1) rfl (l' := #[.val (.ref a), .val (.int y), .val (.int (0 : Int32))]) rfl k) ?_
  show own_R p e below _ s₁ (mkF m 2 #[.val (.ref a), .val (.int y), .val (.int (0 : Int32))] [])
  refine own_go (fun t k => XS.iloadN X0.here hx rfl (hb hby d11_2) rfl  k) ?_
  show own_R p e below _ s₁ (mkF m 3 #[.val (.ref a), .val (.int y), .val (.int (0 : Int32))] [(.int (0 : Int32))])
  refine own_go (fun t k => XS.aloadN X0.here hx rfl (hb hby d11_3) rfl rfl  k) ?_
  show own_R p e below _ s₁ (mkF m 4 #[.val (.ref a), .val (.int y), .val (.int (0 : Int32))] [(.ref a), (.int (0 : Int32))])
  obtain ⟨T1, X1, e1, st1⟩ := getF X0 hx hZ hown (host := "") (Or.inl (hw _ (List.mem_of_getElem? (i := 29) rfl))) Via.refl e0 F_top_a (g := (mkF m 4 #[.val (.ref a), .val (.int y), .val (.int (0 : Int32))] [(.ref a), (.int (0 : Int32))])) rfl rfl (hb hby d11_4)
  refine own_go (st1) ?_
  show own_R p e below _ T1 (mkF m 7 #[.val (.ref a), .val (.int y), .val (.int (0 : Int32))] [(.int (2 : Int32)), (.int (0 : Int32))])
  refine own_go (fun t k => XS.icmpNo X1.here hx rfl (hb hby d11_7) rfl (tlt (by decide : (0 : Int32) < (2 : Int32))).2.1 k) ?_
  show own_R p e below _ T1 (mkF m 10 #[.val (.ref a), .val (.int y), .val (.int (0 : Int32))] [])
  refine own_go (fun t k => XS.aloadN X1.here hx rfl (hb hby d11_10) rfl rfl  k) ?_
  show own_R p e below _ T1 (mkF m 11 #[.val (.ref a), .val (.int y), .val (.int (0 : Int32))] [(.ref a)])
  obtain ⟨T2, X2, e2, st2⟩ := getF X1 hx hZ hown (host := "") (Or.inl (hw _ (List.mem_of_getElem? (i := 11) rfl))) Via.refl e1 F_words_a (g := (mkF m 11 #[.val (.ref a), .val (.int y), .val (.int (0 : Int32))] [(.ref a)])) rfl rfl (hb hby d11_11)
  refine own_go (st2) ?_
  show own_R p e below _ T2 (mkF m 14 #[.val (.ref a), .val (.int y), .val (.int (0 : Int32))] [(.ref w)])
  refine own_go (fun t k => XS.iloadN X2.here hx rfl (hb hby d11_14) rfl  k) ?_
  show own_R p e below _ T2 (mkF m 15 #[.val (.ref a), .val (.int y), .val (.int (0 : Int32))] [(.int (0 : Int32)), (.ref w)])
  obtain ⟨cl3, Ar3, q3, S3, Nn3, Hh3, G3⟩ := id V_w
  have hin3 : ¬ ((0 : Int32) < 0 ∨ cl3.slots.size ≤ ((0 : Int32)).toNatClampNeg) := inb_of S3 ⟨by decide, by decide⟩
  have hat3 : cl3.slots[((0 : Int32)).toNatClampNeg]? = some (.int x0) := Has.at Hh3 hin3 rfl
  refine own_go (X2.iaload hx (j := (0 : Int32)) (v := (.int x0)) (by rw [e2]; exact Ar3.1) (State.isArrayOf_alike hZ.alike Ar3.2.1) Ar3.2.2 hin3 hat3 (g := (mkF m 15 #[.val (.ref a), .val (.int y), .val (.int (0 : Int32))] [(.int (0 : Int32)), (.ref w)])) rfl rfl (hb hby d11_15)) ?_
  show own_R p e below _ T2 (mkF m 16 #[.val (.ref a), .val (.int y), .val (.int (0 : Int32))] [(.int x0)])
  refine own_go (fun t k => XS.iloadN X2.here hx rfl (hb hby d11_16) rfl  k) ?_
  show own_R p e below _ T2 (mkF m 17 #[.val (.ref a), .val (.int y), .val (.int (0 : Int32))] [(.int y), (.int x0)])
  by_cases hc17_4 : x0 = y
  · -- pc 17: yes
    refine own_go (fun t k => XS.icmpNo X2.here hx rfl (hb hby d11_17) rfl (teq hc17_4).2 k) ?_
    show own_R p e below _ T2 (mkF m 20 #[.val (.ref a), .val (.int y), .val (.int (0 : Int32))] [])
    refine own_go (fun t k => XS.iconst X2.here hx rfl (hb hby d11_20) k) ?_
    show own_R p e below _ T2 (mkF m 21 #[.val (.ref a), .val (.int y), .val (.int (0 : Int32))] [(.int (1 : Int32))])
    refine own_retN X2 hx Bd.returns (by simp) (BodyLoose.notSynchronized Bd) (hb hby d11_21) (by decide) (by decide) ?_
    exact ⟨(by rw [if_pos (Or.inl hc17_4)]; rfl), N0, e2⟩
  · -- pc 17: no
    refine own_go (fun t k => XS.icmpYes X2.here hx rfl (pc0 := 17) (pc' := 22) rfl (hb hby d11_17) rfl (feq hc17_4).2 (by decide) (by decide) k) ?_
    show own_R p e below _ T2 (mkF m 22 #[.val (.ref a), .val (.int y), .val (.int (0 : Int32))] [])
    refine own_go (fun t k => XS.iinc X2.here hx rfl (hb hby d11_22) rfl (l' := #[.val (.ref a), .val (.int y), .val (.int (1 : Int32))]) rfl k) ?_
    show own_R p e below _ T2 (mkF m 25 #[.val (.ref a), .val (.int y), .val (.int (1 : Int32))] [])
    refine own_go (fun t k => XS.goto X2.here hx rfl (pc0 := 25) (pc' := 2) rfl (hb hby d11_25) (by decide) (by decide) k) ?_
    show own_R p e below _ T2 (mkF m 2 #[.val (.ref a), .val (.int y), .val (.int (1 : Int32))] [])
    refine own_go (fun t k => XS.iloadN X2.here hx rfl (hb hby d11_2) rfl  k) ?_
    show own_R p e below _ T2 (mkF m 3 #[.val (.ref a), .val (.int y), .val (.int (1 : Int32))] [(.int (1 : Int32))])
    refine own_go (fun t k => XS.aloadN X2.here hx rfl (hb hby d11_3) rfl rfl  k) ?_
    show own_R p e below _ T2 (mkF m 4 #[.val (.ref a), .val (.int y), .val (.int (1 : Int32))] [(.ref a), (.int (1 : Int32))])
    obtain ⟨T5, X5, e5, st5⟩ := getF X2 hx hZ hown (host := "") (Or.inl (hw _ (List.mem_of_getElem? (i := 29) rfl))) Via.refl e2 F_top_a (g := (mkF m 4 #[.val (.ref a), .val (.int y), .val (.int (1 : Int32))] [(.ref a), (.int (1 : Int32))])) rfl rfl (hb hby d11_4)
    refine own_go (st5) ?_
    show own_R p e below _ T5 (mkF m 7 #[.val (.ref a), .val (.int y), .val (.int (1 : Int32))] [(.int (2 : Int32)), (.int (1 : Int32))])
    refine own_go (fun t k => XS.icmpNo X5.here hx rfl (hb hby d11_7) rfl (tlt (by decide : (1 : Int32) < (2 : Int32))).2.1 k) ?_
    show own_R p e below _ T5 (mkF m 10 #[.val (.ref a), .val (.int y), .val (.int (1 : Int32))] [])
    refine own_go (fun t k => XS.aloadN X5.here hx rfl (hb hby d11_10) rfl rfl  k) ?_
    show own_R p e below _ T5 (mkF m 11 #[.val (.ref a), .val (.int y), .val (.int (1 : Int32))] [(.ref a)])
    obtain ⟨T6, X6, e6, st6⟩ := getF X5 hx hZ hown (host := "") (Or.inl (hw _ (List.mem_of_getElem? (i := 11) rfl))) Via.refl e5 F_words_a (g := (mkF m 11 #[.val (.ref a), .val (.int y), .val (.int (1 : Int32))] [(.ref a)])) rfl rfl (hb hby d11_11)
    refine own_go (st6) ?_
    show own_R p e below _ T6 (mkF m 14 #[.val (.ref a), .val (.int y), .val (.int (1 : Int32))] [(.ref w)])
    refine own_go (fun t k => XS.iloadN X6.here hx rfl (hb hby d11_14) rfl  k) ?_
    show own_R p e below _ T6 (mkF m 15 #[.val (.ref a), .val (.int y), .val (.int (1 : Int32))] [(.int (1 : Int32)), (.ref w)])
    obtain ⟨cl7, Ar7, q7, S7, Nn7, Hh7, G7⟩ := id V_w
    have hin7 : ¬ ((1 : Int32) < 0 ∨ cl7.slots.size ≤ ((1 : Int32)).toNatClampNeg) := inb_of S7 ⟨by decide, by decide⟩
    have hat7 : cl7.slots[((1 : Int32)).toNatClampNeg]? = some (.int x1) := Has.at Hh7 hin7 rfl
    refine own_go (X6.iaload hx (j := (1 : Int32)) (v := (.int x1)) (by rw [e6]; exact Ar7.1) (State.isArrayOf_alike hZ.alike Ar7.2.1) Ar7.2.2 hin7 hat7 (g := (mkF m 15 #[.val (.ref a), .val (.int y), .val (.int (1 : Int32))] [(.int (1 : Int32)), (.ref w)])) rfl rfl (hb hby d11_15)) ?_
    show own_R p e below _ T6 (mkF m 16 #[.val (.ref a), .val (.int y), .val (.int (1 : Int32))] [(.int x1)])
    refine own_go (fun t k => XS.iloadN X6.here hx rfl (hb hby d11_16) rfl  k) ?_
    show own_R p e below _ T6 (mkF m 17 #[.val (.ref a), .val (.int y), .val (.int (1 : Int32))] [(.int y), (.int x1)])
    by_cases hc17_8 : x1 = y
    · -- pc 17: yes
      refine own_go (fun t k => XS.icmpNo X6.here hx rfl (hb hby d11_17) rfl (teq hc17_8).2 k) ?_
      show own_R p e below _ T6 (mkF m 20 #[.val (.ref a), .val (.int y), .val (.int (1 : Int32))] [])
      refine own_go (fun t k => XS.iconst X6.here hx rfl (hb hby d11_20) k) ?_
      show own_R p e below _ T6 (mkF m 21 #[.val (.ref a), .val (.int y), .val (.int (1 : Int32))] [(.int (1 : Int32))])
      refine own_retN X6 hx Bd.returns (by simp) (BodyLoose.notSynchronized Bd) (hb hby d11_21) (by decide) (by decide) ?_
      exact ⟨(by rw [if_pos (Or.inr (hc17_8))]; rfl), N0, e6⟩
    · -- pc 17: no
      refine own_go (fun t k => XS.icmpYes X6.here hx rfl (pc0 := 17) (pc' := 22) rfl (hb hby d11_17) rfl (feq hc17_8).2 (by decide) (by decide) k) ?_
      show own_R p e below _ T6 (mkF m 22 #[.val (.ref a), .val (.int y), .val (.int (1 : Int32))] [])
      refine own_go (fun t k => XS.iinc X6.here hx rfl (hb hby d11_22) rfl (l' := #[.val (.ref a), .val (.int y), .val (.int (2 : Int32))]) rfl k) ?_
      show own_R p e below _ T6 (mkF m 25 #[.val (.ref a), .val (.int y), .val (.int (2 : Int32))] [])
      refine own_go (fun t k => XS.goto X6.here hx rfl (pc0 := 25) (pc' := 2) rfl (hb hby d11_25) (by decide) (by decide) k) ?_
      show own_R p e below _ T6 (mkF m 2 #[.val (.ref a), .val (.int y), .val (.int (2 : Int32))] [])
      refine own_go (fun t k => XS.iloadN X6.here hx rfl (hb hby d11_2) rfl  k) ?_
      show own_R p e below _ T6 (mkF m 3 #[.val (.ref a), .val (.int y), .val (.int (2 : Int32))] [(.int (2 : Int32))])
      refine own_go (fun t k => XS.aloadN X6.here hx rfl (hb hby d11_3) rfl rfl  k) ?_
      show own_R p e below _ T6 (mkF m 4 #[.val (.ref a), .val (.int y), .val (.int (2 : Int32))] [(.ref a), (.int (2 : Int32))])
      obtain ⟨T9, X9, e9, st9⟩ := getF X6 hx hZ hown (host := "") (Or.inl (hw _ (List.mem_of_getElem? (i := 29) rfl))) Via.refl e6 F_top_a (g := (mkF m 4 #[.val (.ref a), .val (.int y), .val (.int (2 : Int32))] [(.ref a), (.int (2 : Int32))])) rfl rfl (hb hby d11_4)
      refine own_go (st9) ?_
      show own_R p e below _ T9 (mkF m 7 #[.val (.ref a), .val (.int y), .val (.int (2 : Int32))] [(.int (2 : Int32)), (.int (2 : Int32))])
      refine own_go (fun t k => XS.icmpYes X9.here hx rfl (pc0 := 7) (pc' := 28) rfl (hb hby d11_7) rfl (flt (by decide : ¬ ((2 : Int32) < (2 : Int32)))).2.1 (by decide) (by decide) k) ?_
      show own_R p e below _ T9 (mkF m 28 #[.val (.ref a), .val (.int y), .val (.int (2 : Int32))] [])
      refine own_go (fun t k => XS.iconst X9.here hx rfl (hb hby d11_28) k) ?_
      show own_R p e below _ T9 (mkF m 29 #[.val (.ref a), .val (.int y), .val (.int (2 : Int32))] [(.int (0 : Int32))])
      refine own_retN X9 hx Bd.returns (by simp) (BodyLoose.notSynchronized Bd) (hb hby d11_29) (by decide) (by decide) ?_
      exact ⟨(by rw [if_neg (by simp only [hc17_4, hc17_8, or_self, not_false_eq_true])]; rfl), N0, e9⟩
theorem own_n0 {k : Int32} (h : (1 : Int32) < k) : ¬ k = (0 : Int32) := fun q => by rw [q] at h; exact absurd h (by decide)
theorem own_k (k : Int32) (h : k < (1 : Int32)) : k < (2 : Int32) := by rw [Int32.lt_iff_toInt_lt] at *; have a : (1 : Int32).toInt = 1 := rfl; have b : (2 : Int32).toInt = 2 := rfl; omega
theorem own_rem (f : Int32) : 0 ≤ ((f &&& (2147483647 : Int32)) % (3 : Int32)).toInt := by
  have h := c_mask f 2147483647 31 (by decide) rfl
  have g := (c_irem (f &&& 2147483647) 3 3 rfl).1 (by omega)
  omega
theorem own_h4 (k y a b c d : Int32) (h0 : 0 ≤ k.toInt) (h : k < (1 : Int32)) : (if a = y ∨ b = y ∨ c = y ∨ d = y then (1 : Int32) else (0 : Int32)) = (if y = a ∨ y = b ∨ (¬ (1 : Int32) < k ∧ y = c) ∨ (k = (0 : Int32) ∧ y = d) then (1 : Int32) else (0 : Int32)) := by
  have e : k = 0 := by rw [Int32.lt_iff_toInt_lt] at h; rw [← Int32.toInt_inj]; have a : (1 : Int32).toInt = 1 := rfl; have b : (0 : Int32).toInt = 0 := rfl; omega
  subst e
  have e2 : ¬ (1 : Int32) < 0 := by decide
  simp only [e2, not_false_eq_true, true_and, @eq_comm _ y]
theorem own_h3 (k y a b c d : Int32) (h0 : ¬ k < (1 : Int32)) (h : k < (2 : Int32)) : (if a = y ∨ b = y ∨ c = y then (1 : Int32) else (0 : Int32)) = (if y = a ∨ y = b ∨ (¬ (1 : Int32) < k ∧ y = c) ∨ (k = (0 : Int32) ∧ y = d) then (1 : Int32) else (0 : Int32)) := by
  have e : k = 1 := by rw [Int32.lt_iff_toInt_lt] at h h0; rw [← Int32.toInt_inj]; have a : (1 : Int32).toInt = 1 := rfl; have b : (2 : Int32).toInt = 2 := rfl; omega
  subst e
  have e2 : ¬ (1 : Int32) < 1 := by decide
  have e3 : ¬ (1 : Int32) = 0 := by decide
  simp only [e2, e3, not_false_eq_true, true_and, false_and, or_false, @eq_comm _ y]
theorem own_h2 (k y a b c d : Int32) (h : ¬ k < (2 : Int32)) : (if a = y ∨ b = y then (1 : Int32) else (0 : Int32)) = (if y = a ∨ y = b ∨ (¬ (1 : Int32) < k ∧ y = c) ∨ (k = (0 : Int32) ∧ y = d) then (1 : Int32) else (0 : Int32)) := by
  rw [Int32.lt_iff_toInt_lt] at h
  have a1 : (1 : Int32).toInt = 1 := rfl
  have a0 : (0 : Int32).toInt = 0 := rfl
  have b1 : (2 : Int32).toInt = 2 := rfl
  have e2 : (1 : Int32) < k := by rw [Int32.lt_iff_toInt_lt]; omega
  have e3 : ¬ k = 0 := by rw [← Int32.toInt_inj]; omega
  simp only [e2, e3, not_true_eq_false, false_and, or_false, @eq_comm _ y]
theorem pn_2 : plainName "com/example/signetry/signetry/card/WordFrameHoldsPinLaw" = true := by first | (simp [plainName, overriddenIn]; done) | decide +kernel
theorem ef_0 (m : MethodId) (x0 : Int32) (x1 : Int32) (x2 : Int32) (x3 : Int32) (x4 : Int32) (x5 : Int32) : entryFrame m #[(.int x0), (.int x1), (.int x2), (.int x3), (.int x4), (.int x5)] maxLocals = mkF m 0 #[.val (.int x0), .val (.int x1), .val (.int x2), .val (.int x3), .val (.int x4), .val (.int x5), .unset, .unset, .unset, .unset, .unset] [] := by first | (simp [entryFrame, mkF, argsToLocals, Value.category, maxLocals]; done) | rfl
def Q0 (Z : State) (p0 : Int32) (p1 : Int32) (p2 : Int32) (p3 : Int32) (p4 : Int32) (p5 : Int32) (h0 : Heap) (n0 : Nat) (v : Option Value) (h : Heap) (L : List Loc) : Prop := v = some (.int (1 : Int32)) ∧ Fr n0 L
set_option maxRecDepth 65536 in
set_option maxHeartbeats 40000000 in
theorem rm0 (l : Launch) (Z : State) (a0 : Array Value) (hw : ∀ d ∈ tables_1, d.before a0 Z = true) (ws : List Jvm.Cond) (p0 : Int32) (p1 : Int32) (p2 : Int32) (p3 : Int32) (p4 : Int32) (p5 : Int32) (h0 : Heap) (n0 : Nat) (Z0 : n0 ≤ h0.size) :
    MetFree l x (head1 (Jvm.Cond.code x code maxLocals ret :: ws) room_1) (fun aS U => aS = #[(.int p0), (.int p1), (.int p2), (.int p3), (.int p4), (.int p5)] ∧ Z.Warmed39 U.vm ∧ U.heap = h0) (fun _ _ _ _ _ => True) (fun _ U o U' => ∃ v L, o = .returned v ∧ Q0 Z p0 p1 p2 p3 p4 p5 h0 n0 v U'.heap L ∧ FrameEnd U o U' L room_1.cells room_1.slots) := by
  refine MetFree.of_bodySF (plainFor_of_name pn_2) hisR ?_
  intro p e s m args below meth c s₁ Bd hml0 hP hK
  obtain ⟨rfl, hZ, hh⟩ := hP
  have hx := Bd.exec
  have hby := Bd.bytes
  have hml : c.maxLocals = 11 := hml0
  have hown : s.vm.findClass "com/example/signetry/signetry/card/WordFrameHoldsPinLaw" = some m.cls := findClass_of_methodNamed Bd.named
  have hnm := (name_of_methodNamed Bd.named Bd.method).1
  have X0 : Stand p l e room_1 s m #[(.int p0), (.int p1), (.int p2), (.int p3), (.int p4), (.int p5)] below meth c s₁ [] 0 0 := Stand.of_body Bd
  have e0 : s₁.heap = h0 := by rw [← hh, Bd.state]; rfl
  have N0 := Fr.nil n0
  have Kh : Keep h0 h0 [] := Keep.refl _ _
  suffices H : own_R p e below (own_E s below (Q0 Z p0 p1 p2 p3 p4 p5 h0 n0) room_1.cells room_1.slots) s₁ (mkF m 0 #[.val (.int p0), .val (.int p1), .val (.int p2), .val (.int p3), .val (.int p4), .val (.int p5), .unset, .unset, .unset, .unset, .unset] []) by
    obtain ⟨t, hst, hrun, v, L, hend, hQ, hF⟩ := H
    exact ⟨t, _, castTop (ef_0 m p0 p1 p2 p3 p4 p5) hst, hrun, hend, v, L, rfl, hQ, hF⟩
  show own_R p e below _ s₁ (mkF m 0 #[.val (.int p0), .val (.int p1), .val (.int p2), .val (.int p3), .val (.int p4), .val (.int p5), .unset, .unset, .unset, .unset, .unset] [])
  refine own_go (fun t k => XS.iload X0.here hx rfl (hb hby at_0) rfl  k) ?_
  show own_R p e below _ s₁ (mkF m 2 #[.val (.int p0), .val (.int p1), .val (.int p2), .val (.int p3), .val (.int p4), .val (.int p5), .unset, .unset, .unset, .unset, .unset] [(.int p5)])
  refine own_go (X0.ldcInt hx hown (mvT hZ (hw _ (List.mem_of_getElem? (i := 0) rfl))) (g := (mkF m 2 #[.val (.int p0), .val (.int p1), .val (.int p2), .val (.int p3), .val (.int p4), .val (.int p5), .unset, .unset, .unset, .unset, .unset] [(.int p5)])) rfl (hb hby at_2)) ?_
  show own_R p e below _ s₁ (mkF m 4 #[.val (.int p0), .val (.int p1), .val (.int p2), .val (.int p3), .val (.int p4), .val (.int p5), .unset, .unset, .unset, .unset, .unset] [(.int (2147483647 : Int32)), (.int p5)])
  refine own_go (fun t k => XS.iand X0.here hx rfl (hb hby at_4) rfl k) ?_
  show own_R p e below _ s₁ (mkF m 5 #[.val (.int p0), .val (.int p1), .val (.int p2), .val (.int p3), .val (.int p4), .val (.int p5), .unset, .unset, .unset, .unset, .unset] [(.int (p5 &&& (2147483647 : Int32)))])
  refine own_go (fun t k => XS.iconst X0.here hx rfl (hb hby at_5) k) ?_
  show own_R p e below _ s₁ (mkF m 6 #[.val (.int p0), .val (.int p1), .val (.int p2), .val (.int p3), .val (.int p4), .val (.int p5), .unset, .unset, .unset, .unset, .unset] [(.int (3 : Int32)), (.int (p5 &&& (2147483647 : Int32)))])
  refine own_go (fun t k => iremM X0 hx rfl (hb hby at_6) rfl (by decide) k) ?_
  show own_R p e below _ s₁ (mkF m 7 #[.val (.int p0), .val (.int p1), .val (.int p2), .val (.int p3), .val (.int p4), .val (.int p5), .unset, .unset, .unset, .unset, .unset] [(.int ((p5 &&& (2147483647 : Int32)) % (3 : Int32)))])
  refine own_go (fun t k => XS.istore X0.here hx rfl (hb hby at_7) rfl (l' := #[.val (.int p0), .val (.int p1), .val (.int p2), .val (.int p3), .val (.int p4), .val (.int p5), .val (.int ((p5 &&& (2147483647 : Int32)) % (3 : Int32))), .unset, .unset, .unset, .unset]) rfl k) ?_
  show own_R p e below _ s₁ (mkF m 9 #[.val (.int p0), .val (.int p1), .val (.int p2), .val (.int p3), .val (.int p4), .val (.int p5), .val (.int ((p5 &&& (2147483647 : Int32)) % (3 : Int32))), .unset, .unset, .unset, .unset] [])
  obtain ⟨kk, hkk⟩ : ∃ z, z = ((p5 &&& (2147483647 : Int32)) % (3 : Int32)) := ⟨_, rfl⟩
  rw [← hkk]
  show own_R p e below _ s₁ (mkF m 9 #[.val (.int p0), .val (.int p1), .val (.int p2), .val (.int p3), .val (.int p4), .val (.int p5), .val (.int kk), .unset, .unset, .unset, .unset] [])
  refine own_go (fun t k => XS.iload X0.here hx rfl (hb hby at_9) rfl  k) ?_
  show own_R p e below _ s₁ (mkF m 11 #[.val (.int p0), .val (.int p1), .val (.int p2), .val (.int p3), .val (.int p4), .val (.int p5), .val (.int kk), .unset, .unset, .unset, .unset] [(.int p5)])
  refine own_go (fun t k => XS.iconst X0.here hx rfl (hb hby at_11) k) ?_
  show own_R p e below _ s₁ (mkF m 12 #[.val (.int p0), .val (.int p1), .val (.int p2), .val (.int p3), .val (.int p4), .val (.int p5), .val (.int kk), .unset, .unset, .unset, .unset] [(.int (2 : Int32)), (.int p5)])
  refine own_go (fun t k => XS.iushr X0.here hx rfl (hb hby at_12) rfl k) ?_
  show own_R p e below _ s₁ (mkF m 13 #[.val (.int p0), .val (.int p1), .val (.int p2), .val (.int p3), .val (.int p4), .val (.int p5), .val (.int kk), .unset, .unset, .unset, .unset] [(.int ((p5.toUInt32 >>> ((2 : Int32) &&& 31).toUInt32).toInt32))])
  refine own_go (fun t k => XS.bipush X0.here hx rfl (hb hby at_13) k) ?_
  show own_R p e below _ s₁ (mkF m 15 #[.val (.int p0), .val (.int p1), .val (.int p2), .val (.int p3), .val (.int p4), .val (.int p5), .val (.int kk), .unset, .unset, .unset, .unset] [(.int (7 : Int32)), (.int ((p5.toUInt32 >>> ((2 : Int32) &&& 31).toUInt32).toInt32))])
  refine own_go (fun t k => XS.iand X0.here hx rfl (hb hby at_15) rfl k) ?_
  show own_R p e below _ s₁ (mkF m 16 #[.val (.int p0), .val (.int p1), .val (.int p2), .val (.int p3), .val (.int p4), .val (.int p5), .val (.int kk), .unset, .unset, .unset, .unset] [(.int (((p5.toUInt32 >>> ((2 : Int32) &&& 31).toUInt32).toInt32) &&& (7 : Int32)))])
  refine own_go (fun t k => XS.istore X0.here hx rfl (hb hby at_16) rfl (l' := #[.val (.int p0), .val (.int p1), .val (.int p2), .val (.int p3), .val (.int p4), .val (.int p5), .val (.int kk), .val (.int (((p5.toUInt32 >>> ((2 : Int32) &&& 31).toUInt32).toInt32) &&& (7 : Int32))), .unset, .unset, .unset]) rfl k) ?_
  show own_R p e below _ s₁ (mkF m 18 #[.val (.int p0), .val (.int p1), .val (.int p2), .val (.int p3), .val (.int p4), .val (.int p5), .val (.int kk), .val (.int (((p5.toUInt32 >>> ((2 : Int32) &&& 31).toUInt32).toInt32) &&& (7 : Int32))), .unset, .unset, .unset] [])
  refine own_go (fun t k => XS.iload X0.here hx rfl (hb hby at_18) rfl  k) ?_
  show own_R p e below _ s₁ (mkF m 20 #[.val (.int p0), .val (.int p1), .val (.int p2), .val (.int p3), .val (.int p4), .val (.int p5), .val (.int kk), .val (.int (((p5.toUInt32 >>> ((2 : Int32) &&& 31).toUInt32).toInt32) &&& (7 : Int32))), .unset, .unset, .unset] [(.int p4)])
  refine own_go (fun t k => XS.istore X0.here hx rfl (hb hby at_20) rfl (l' := #[.val (.int p0), .val (.int p1), .val (.int p2), .val (.int p3), .val (.int p4), .val (.int p5), .val (.int kk), .val (.int (((p5.toUInt32 >>> ((2 : Int32) &&& 31).toUInt32).toInt32) &&& (7 : Int32))), .val (.int p4), .unset, .unset]) rfl k) ?_
  show own_R p e below _ s₁ (mkF m 22 #[.val (.int p0), .val (.int p1), .val (.int p2), .val (.int p3), .val (.int p4), .val (.int p5), .val (.int kk), .val (.int (((p5.toUInt32 >>> ((2 : Int32) &&& 31).toUInt32).toInt32) &&& (7 : Int32))), .val (.int p4), .unset, .unset] [])
  obtain ⟨se, hse⟩ : ∃ z, z = (((p5.toUInt32 >>> ((2 : Int32) &&& 31).toUInt32).toInt32) &&& (7 : Int32)) := ⟨_, rfl⟩
  rw [← hse]
  show own_R p e below _ s₁ (mkF m 22 #[.val (.int p0), .val (.int p1), .val (.int p2), .val (.int p3), .val (.int p4), .val (.int p5), .val (.int kk), .val (.int se), .val (.int p4), .unset, .unset] [])
  obtain ⟨_, st1, T1, L1, rfl, X1, e1, N1⟩ : own_R p e below (own_K p l e _ s m _ below meth c n0 0 0 (fun h => h = h0) (mkF m 66 #[.val (.int p0), .val (.int p1), .val (.int p2), .val (.int p3), .val (.int p4), .val (.int p5), .val (.int kk), .val (.int se), .val (.int (if se = (0 : Int32) then p0 else if se = (1 : Int32) then p1 else if se = (2 : Int32) then p2 else if se = (3 : Int32) then p3 else p4)), .unset, .unset] [])) s₁ (mkF m 22 #[.val (.int p0), .val (.int p1), .val (.int p2), .val (.int p3), .val (.int p4), .val (.int p5), .val (.int kk), .val (.int se), .val (.int p4), .unset, .unset] []) := by
    refine own_go (fun t k => XS.iload X0.here hx rfl (hb hby at_22) rfl  k) ?_
    show own_R p e below _ s₁ (mkF m 24 #[.val (.int p0), .val (.int p1), .val (.int p2), .val (.int p3), .val (.int p4), .val (.int p5), .val (.int kk), .val (.int se), .val (.int p4), .unset, .unset] [(.int se)])
    by_cases hc24_2 : se = (0 : Int32)
    · -- pc 24: yes
      refine own_go (fun t k => XS.ifNo X0.here hx rfl (hb hby at_24) rfl ((if0 _ _).trans (teq hc24_2).2) k) ?_
      show own_R p e below _ s₁ (mkF m 27 #[.val (.int p0), .val (.int p1), .val (.int p2), .val (.int p3), .val (.int p4), .val (.int p5), .val (.int kk), .val (.int se), .val (.int p4), .unset, .unset] [])
      refine own_go (fun t k => XS.iloadN X0.here hx rfl (hb hby at_27) rfl  k) ?_
      show own_R p e below _ s₁ (mkF m 28 #[.val (.int p0), .val (.int p1), .val (.int p2), .val (.int p3), .val (.int p4), .val (.int p5), .val (.int kk), .val (.int se), .val (.int p4), .unset, .unset] [(.int p0)])
      refine own_go (fun t k => XS.istore X0.here hx rfl (hb hby at_28) rfl (l' := #[.val (.int p0), .val (.int p1), .val (.int p2), .val (.int p3), .val (.int p4), .val (.int p5), .val (.int kk), .val (.int se), .val (.int p0), .unset, .unset]) rfl k) ?_
      show own_R p e below _ s₁ (mkF m 30 #[.val (.int p0), .val (.int p1), .val (.int p2), .val (.int p3), .val (.int p4), .val (.int p5), .val (.int kk), .val (.int se), .val (.int p0), .unset, .unset] [])
      refine own_go (fun t k => XS.goto X0.here hx rfl (pc0 := 30) (pc' := 66) rfl (hb hby at_30) (by decide) (by decide) k) ?_
      show own_R p e below _ s₁ (mkF m 66 #[.val (.int p0), .val (.int p1), .val (.int p2), .val (.int p3), .val (.int p4), .val (.int p5), .val (.int kk), .val (.int se), .val (.int p0), .unset, .unset] [])
      have hv3 : (if se = (0 : Int32) then p0 else if se = (1 : Int32) then p1 else if se = (2 : Int32) then p2 else if se = (3 : Int32) then p3 else p4) = p0 := by simp only [if_pos hc24_2]
      rw [hv3]
      exact own_here X0 e0 N0
    · -- pc 24: no
      refine own_go (fun t k => XS.ifYes X0.here hx rfl (pc0 := 24) (pc' := 33) rfl (hb hby at_24) rfl ((if0 _ _).trans (feq hc24_2).2) (by decide) (by decide) k) ?_
      show own_R p e below _ s₁ (mkF m 33 #[.val (.int p0), .val (.int p1), .val (.int p2), .val (.int p3), .val (.int p4), .val (.int p5), .val (.int kk), .val (.int se), .val (.int p4), .unset, .unset] [])
      refine own_go (fun t k => XS.iload X0.here hx rfl (hb hby at_33) rfl  k) ?_
      show own_R p e below _ s₁ (mkF m 35 #[.val (.int p0), .val (.int p1), .val (.int p2), .val (.int p3), .val (.int p4), .val (.int p5), .val (.int kk), .val (.int se), .val (.int p4), .unset, .unset] [(.int se)])
      refine own_go (fun t k => XS.iconst X0.here hx rfl (hb hby at_35) k) ?_
      show own_R p e below _ s₁ (mkF m 36 #[.val (.int p0), .val (.int p1), .val (.int p2), .val (.int p3), .val (.int p4), .val (.int p5), .val (.int kk), .val (.int se), .val (.int p4), .unset, .unset] [(.int (1 : Int32)), (.int se)])
      by_cases hc36_4 : se = (1 : Int32)
      · -- pc 36: yes
        refine own_go (fun t k => XS.icmpNo X0.here hx rfl (hb hby at_36) rfl (teq hc36_4).2 k) ?_
        show own_R p e below _ s₁ (mkF m 39 #[.val (.int p0), .val (.int p1), .val (.int p2), .val (.int p3), .val (.int p4), .val (.int p5), .val (.int kk), .val (.int se), .val (.int p4), .unset, .unset] [])
        refine own_go (fun t k => XS.iloadN X0.here hx rfl (hb hby at_39) rfl  k) ?_
        show own_R p e below _ s₁ (mkF m 40 #[.val (.int p0), .val (.int p1), .val (.int p2), .val (.int p3), .val (.int p4), .val (.int p5), .val (.int kk), .val (.int se), .val (.int p4), .unset, .unset] [(.int p1)])
        refine own_go (fun t k => XS.istore X0.here hx rfl (hb hby at_40) rfl (l' := #[.val (.int p0), .val (.int p1), .val (.int p2), .val (.int p3), .val (.int p4), .val (.int p5), .val (.int kk), .val (.int se), .val (.int p1), .unset, .unset]) rfl k) ?_
        show own_R p e below _ s₁ (mkF m 42 #[.val (.int p0), .val (.int p1), .val (.int p2), .val (.int p3), .val (.int p4), .val (.int p5), .val (.int kk), .val (.int se), .val (.int p1), .unset, .unset] [])
        refine own_go (fun t k => XS.goto X0.here hx rfl (pc0 := 42) (pc' := 66) rfl (hb hby at_42) (by decide) (by decide) k) ?_
        show own_R p e below _ s₁ (mkF m 66 #[.val (.int p0), .val (.int p1), .val (.int p2), .val (.int p3), .val (.int p4), .val (.int p5), .val (.int kk), .val (.int se), .val (.int p1), .unset, .unset] [])
        have hv5 : (if se = (0 : Int32) then p0 else if se = (1 : Int32) then p1 else if se = (2 : Int32) then p2 else if se = (3 : Int32) then p3 else p4) = p1 := by simp only [if_neg hc24_2, if_pos hc36_4]
        rw [hv5]
        exact own_here X0 e0 N0
      · -- pc 36: no
        refine own_go (fun t k => XS.icmpYes X0.here hx rfl (pc0 := 36) (pc' := 45) rfl (hb hby at_36) rfl (feq hc36_4).2 (by decide) (by decide) k) ?_
        show own_R p e below _ s₁ (mkF m 45 #[.val (.int p0), .val (.int p1), .val (.int p2), .val (.int p3), .val (.int p4), .val (.int p5), .val (.int kk), .val (.int se), .val (.int p4), .unset, .unset] [])
        refine own_go (fun t k => XS.iload X0.here hx rfl (hb hby at_45) rfl  k) ?_
        show own_R p e below _ s₁ (mkF m 47 #[.val (.int p0), .val (.int p1), .val (.int p2), .val (.int p3), .val (.int p4), .val (.int p5), .val (.int kk), .val (.int se), .val (.int p4), .unset, .unset] [(.int se)])
        refine own_go (fun t k => XS.iconst X0.here hx rfl (hb hby at_47) k) ?_
        show own_R p e below _ s₁ (mkF m 48 #[.val (.int p0), .val (.int p1), .val (.int p2), .val (.int p3), .val (.int p4), .val (.int p5), .val (.int kk), .val (.int se), .val (.int p4), .unset, .unset] [(.int (2 : Int32)), (.int se)])
        by_cases hc48_6 : se = (2 : Int32)
        · -- pc 48: yes
          refine own_go (fun t k => XS.icmpNo X0.here hx rfl (hb hby at_48) rfl (teq hc48_6).2 k) ?_
          show own_R p e below _ s₁ (mkF m 51 #[.val (.int p0), .val (.int p1), .val (.int p2), .val (.int p3), .val (.int p4), .val (.int p5), .val (.int kk), .val (.int se), .val (.int p4), .unset, .unset] [])
          refine own_go (fun t k => XS.iloadN X0.here hx rfl (hb hby at_51) rfl  k) ?_
          show own_R p e below _ s₁ (mkF m 52 #[.val (.int p0), .val (.int p1), .val (.int p2), .val (.int p3), .val (.int p4), .val (.int p5), .val (.int kk), .val (.int se), .val (.int p4), .unset, .unset] [(.int p2)])
          refine own_go (fun t k => XS.istore X0.here hx rfl (hb hby at_52) rfl (l' := #[.val (.int p0), .val (.int p1), .val (.int p2), .val (.int p3), .val (.int p4), .val (.int p5), .val (.int kk), .val (.int se), .val (.int p2), .unset, .unset]) rfl k) ?_
          show own_R p e below _ s₁ (mkF m 54 #[.val (.int p0), .val (.int p1), .val (.int p2), .val (.int p3), .val (.int p4), .val (.int p5), .val (.int kk), .val (.int se), .val (.int p2), .unset, .unset] [])
          refine own_go (fun t k => XS.goto X0.here hx rfl (pc0 := 54) (pc' := 66) rfl (hb hby at_54) (by decide) (by decide) k) ?_
          show own_R p e below _ s₁ (mkF m 66 #[.val (.int p0), .val (.int p1), .val (.int p2), .val (.int p3), .val (.int p4), .val (.int p5), .val (.int kk), .val (.int se), .val (.int p2), .unset, .unset] [])
          have hv7 : (if se = (0 : Int32) then p0 else if se = (1 : Int32) then p1 else if se = (2 : Int32) then p2 else if se = (3 : Int32) then p3 else p4) = p2 := by simp only [if_neg hc24_2, if_neg hc36_4, if_pos hc48_6]
          rw [hv7]
          exact own_here X0 e0 N0
        · -- pc 48: no
          refine own_go (fun t k => XS.icmpYes X0.here hx rfl (pc0 := 48) (pc' := 57) rfl (hb hby at_48) rfl (feq hc48_6).2 (by decide) (by decide) k) ?_
          show own_R p e below _ s₁ (mkF m 57 #[.val (.int p0), .val (.int p1), .val (.int p2), .val (.int p3), .val (.int p4), .val (.int p5), .val (.int kk), .val (.int se), .val (.int p4), .unset, .unset] [])
          refine own_go (fun t k => XS.iload X0.here hx rfl (hb hby at_57) rfl  k) ?_
          show own_R p e below _ s₁ (mkF m 59 #[.val (.int p0), .val (.int p1), .val (.int p2), .val (.int p3), .val (.int p4), .val (.int p5), .val (.int kk), .val (.int se), .val (.int p4), .unset, .unset] [(.int se)])
          refine own_go (fun t k => XS.iconst X0.here hx rfl (hb hby at_59) k) ?_
          show own_R p e below _ s₁ (mkF m 60 #[.val (.int p0), .val (.int p1), .val (.int p2), .val (.int p3), .val (.int p4), .val (.int p5), .val (.int kk), .val (.int se), .val (.int p4), .unset, .unset] [(.int (3 : Int32)), (.int se)])
          by_cases hc60_8 : se = (3 : Int32)
          · -- pc 60: yes
            refine own_go (fun t k => XS.icmpNo X0.here hx rfl (hb hby at_60) rfl (teq hc60_8).2 k) ?_
            show own_R p e below _ s₁ (mkF m 63 #[.val (.int p0), .val (.int p1), .val (.int p2), .val (.int p3), .val (.int p4), .val (.int p5), .val (.int kk), .val (.int se), .val (.int p4), .unset, .unset] [])
            refine own_go (fun t k => XS.iloadN X0.here hx rfl (hb hby at_63) rfl  k) ?_
            show own_R p e below _ s₁ (mkF m 64 #[.val (.int p0), .val (.int p1), .val (.int p2), .val (.int p3), .val (.int p4), .val (.int p5), .val (.int kk), .val (.int se), .val (.int p4), .unset, .unset] [(.int p3)])
            refine own_go (fun t k => XS.istore X0.here hx rfl (hb hby at_64) rfl (l' := #[.val (.int p0), .val (.int p1), .val (.int p2), .val (.int p3), .val (.int p4), .val (.int p5), .val (.int kk), .val (.int se), .val (.int p3), .unset, .unset]) rfl k) ?_
            show own_R p e below _ s₁ (mkF m 66 #[.val (.int p0), .val (.int p1), .val (.int p2), .val (.int p3), .val (.int p4), .val (.int p5), .val (.int kk), .val (.int se), .val (.int p3), .unset, .unset] [])
            have hv9 : (if se = (0 : Int32) then p0 else if se = (1 : Int32) then p1 else if se = (2 : Int32) then p2 else if se = (3 : Int32) then p3 else p4) = p3 := by simp only [if_neg hc24_2, if_neg hc36_4, if_neg hc48_6, if_pos hc60_8]
            rw [hv9]
            exact own_here X0 e0 N0
          · -- pc 60: no
            refine own_go (fun t k => XS.icmpYes X0.here hx rfl (pc0 := 60) (pc' := 66) rfl (hb hby at_60) rfl (feq hc60_8).2 (by decide) (by decide) k) ?_
            show own_R p e below _ s₁ (mkF m 66 #[.val (.int p0), .val (.int p1), .val (.int p2), .val (.int p3), .val (.int p4), .val (.int p5), .val (.int kk), .val (.int se), .val (.int p4), .unset, .unset] [])
            have hv10 : (if se = (0 : Int32) then p0 else if se = (1 : Int32) then p1 else if se = (2 : Int32) then p2 else if se = (3 : Int32) then p3 else p4) = p4 := by simp only [if_neg hc24_2, if_neg hc36_4, if_neg hc48_6, if_neg hc60_8]
            rw [hv10]
            exact own_here X0 e0 N0
  refine own_go (fun t k => st1.trans k) ?_
  show own_R p e below _ T1 (mkF m 66 #[.val (.int p0), .val (.int p1), .val (.int p2), .val (.int p3), .val (.int p4), .val (.int p5), .val (.int kk), .val (.int se), .val (.int (if se = (0 : Int32) then p0 else if se = (1 : Int32) then p1 else if se = (2 : Int32) then p2 else if se = (3 : Int32) then p3 else p4)), .unset, .unset] [])
  obtain ⟨yy, hyy⟩ : ∃ z, z = (if se = (0 : Int32) then p0 else if se = (1 : Int32) then p1 else if se = (2 : Int32) then p2 else if se = (3 : Int32) then p3 else p4) := ⟨_, rfl⟩
  rw [← hyy]
  show own_R p e below _ T1 (mkF m 66 #[.val (.int p0), .val (.int p1), .val (.int p2), .val (.int p3), .val (.int p4), .val (.int p5), .val (.int kk), .val (.int se), .val (.int yy), .unset, .unset] [])
  have hk0 : 0 ≤ kk.toInt := by rw [hkk]; exact own_rem _
  obtain ⟨T11, h11, X11, e11, E11, A11, D11, -, st11⟩ := newO X1 hx hZ hown (hw _ (List.mem_of_getElem? (i := 1) rfl)) (hw _ (List.mem_of_getElem? (i := 2) rfl)) (hw _ (List.mem_of_getElem? (i := 3) rfl)) e1 (g := (mkF m 66 #[.val (.int p0), .val (.int p1), .val (.int p2), .val (.int p3), .val (.int p4), .val (.int p5), .val (.int kk), .val (.int se), .val (.int yy), .unset, .unset] [])) rfl (hb hby at_66) (by decide) (by decide)
  obtain ⟨b11, g11⟩ : ∃ z, z = h0.size := ⟨_, rfl⟩
  rw [← g11] at A11 D11 st11
  have g_b11 : n0 ≤ b11 := Nat.le_trans (Nat.le_trans Z0 Kh.1) (Nat.le_of_eq g11.symm)
  have sz_b11 : h0.size ≤ b11 := Nat.le_trans Kh.1 (Nat.le_of_eq g11.symm)
  replace Kh := Kh.ext E11
  have F_words_b11 : Fld Z h11 b11 "com/example/signetry/signetry/card/WordFrame" "words" "[I" .null := D11 (Or.inl (hw _ (List.mem_of_getElem? (i := 12) rfl))) (ty := (.array .int)) (by decide)
  have F_localCount_b11 : Fld Z h11 b11 "com/example/signetry/signetry/card/WordFrame" "localCount" "I" (.int (0 : Int32)) := D11 (Or.inl (hw _ (List.mem_of_getElem? (i := 26) rfl))) (ty := .int) (by decide)
  have F_maxStack_b11 : Fld Z h11 b11 "com/example/signetry/signetry/card/WordFrame" "maxStack" "I" (.int (0 : Int32)) := D11 (Or.inl (hw _ (List.mem_of_getElem? (i := 28) rfl))) (ty := .int) (by decide)
  have F_top_b11 : Fld Z h11 b11 "com/example/signetry/signetry/card/WordFrame" "top" "I" (.int (0 : Int32)) := D11 (Or.inl (hw _ (List.mem_of_getElem? (i := 30) rfl))) (ty := .int) (by decide)
  have F_thisUninitialized_b11 : Fld Z h11 b11 "com/example/signetry/signetry/card/WordFrame" "thisUninitialized" "Z" (.int (0 : Int32)) := D11 (Or.inl (hw _ (List.mem_of_getElem? (i := 32) rfl))) (ty := .boolean) (by decide)
  have F_localsVersion_b11 : Fld Z h11 b11 "com/example/signetry/signetry/card/WordFrame" "localsVersion" "I" (.int (0 : Int32)) := D11 (Or.inl (hw _ (List.mem_of_getElem? (i := 34) rfl))) (ty := .int) (by decide)
  refine own_go (st11) ?_
  show own_R p e below _ T11 (mkF m 69 #[.val (.int p0), .val (.int p1), .val (.int p2), .val (.int p3), .val (.int p4), .val (.int p5), .val (.int kk), .val (.int se), .val (.int yy), .unset, .unset] [(.ref b11)])
  refine own_go (fun t k => XS.dup X11.here hx rfl (hb hby at_69) rfl rfl k) ?_
  show own_R p e below _ T11 (mkF m 70 #[.val (.int p0), .val (.int p1), .val (.int p2), .val (.int p3), .val (.int p4), .val (.int p5), .val (.int kk), .val (.int se), .val (.int yy), .unset, .unset] [(.ref b11), (.ref b11)])
  obtain ⟨_, _, ⟨T12, L12, k12, n12⟩, -, X12, ⟨Lc12, hQ12, l12, y12, z12⟩, st12⟩ := X11.specialBack hx (y := (⟨"com/example/signetry/signetry/card/WordFrame", "<init>", "()V"⟩ : MethodName)) rfl hown (mvT hZ (hw _ (List.mem_of_getElem? (i := 4) rfl))) (mvT hZ (hw _ (List.mem_of_getElem? (i := 5) rfl))) (mvT hZ (hw _ (List.mem_of_getElem? (i := 6) rfl))) (by decide) (backOf (W := 1) (rm1 l Z a0 hw [] b11 h11 n0 (Nat.le_trans Z0 Kh.1) F_words_b11 F_localCount_b11 F_maxStack_b11 F_top_b11 F_thisUninitialized_b11 F_localsVersion_b11 A11 g_b11) hZ (hw _ (List.mem_of_getElem? (i := 6) rfl)) (hw _ (List.mem_of_getElem? (i := 3) rfl)) (by decide) (by decide)) (g := (mkF m 70 #[.val (.int p0), .val (.int p1), .val (.int p2), .val (.int p3), .val (.int p4), .val (.int p5), .val (.int kk), .val (.int se), .val (.int yy), .unset, .unset] [(.ref b11), (.ref b11)])) rfl (by rw [hml]; rfl) (Steps.refl _) (a := b11) (argsL := []) (rest := [(.ref b11)]) (lenOf pd_0 rfl) rfl (by show 2 * 0 + _ ≤ _; exact Nat.le_of_eq rfl) (hb hby at_70) (fun _ _ => ⟨rfl, e11, (by decide : 1 + 1 ≤ _), (by decide : 6 + 0 ≤ _)⟩)
  dsimp only [Pt.U, Pt.locs, Pt.cells, Pt.slots] at X12 l12 y12 z12 st12 hQ12
  subst l12 y12 z12
  obtain ⟨b12, kb12, rfl, Nq12, K12, gz12_b, E12_a, F12_a_words, F12_a_localCount, F12_a_maxStack, F12_a_top, F12_a_thisUninitialized, F12_a_localsVersion, V12_b⟩ := hQ12
  have N12 := Fr.app N1 Nq12
  obtain ⟨h12, e12⟩ : ∃ z, T12.heap = z := ⟨_, rfl⟩
  rw [e12] at K12 E12_a F12_a_words F12_a_localCount F12_a_maxStack F12_a_top F12_a_thisUninitialized F12_a_localsVersion V12_b
  have ne_b11_b12 : b11 ≠ b12 := Nat.ne_of_lt (Nat.lt_of_lt_of_le A11.lt gz12_b)
  have g_b12 : n0 ≤ b12 := Nat.le_trans (Nat.le_trans Z0 Kh.1) gz12_b
  have sz_b12 : h0.size ≤ b12 := Nat.le_trans Kh.1 gz12_b
  replace Kh := Kh.trans K12 (allS (Or.inr sz_b11) all0)
  refine own_go (fun t k => st12.trans k) ?_
  show own_R p e below _ T12 (mkF m 73 #[.val (.int p0), .val (.int p1), .val (.int p2), .val (.int p3), .val (.int p4), .val (.int p5), .val (.int kk), .val (.int se), .val (.int yy), .unset, .unset] [(.ref b11)])
  refine own_go (fun t k => XS.astore X12.here hx rfl (hb hby at_73) rfl rfl (l' := #[.val (.int p0), .val (.int p1), .val (.int p2), .val (.int p3), .val (.int p4), .val (.int p5), .val (.int kk), .val (.int se), .val (.int yy), .val (.ref b11), .unset]) rfl k) ?_
  show own_R p e below _ T12 (mkF m 75 #[.val (.int p0), .val (.int p1), .val (.int p2), .val (.int p3), .val (.int p4), .val (.int p5), .val (.int kk), .val (.int se), .val (.int yy), .val (.ref b11), .unset] [])
  refine own_go (fun t k => XS.aload X12.here hx rfl (hb hby at_75) rfl rfl  k) ?_
  show own_R p e below _ T12 (mkF m 77 #[.val (.int p0), .val (.int p1), .val (.int p2), .val (.int p3), .val (.int p4), .val (.int p5), .val (.int kk), .val (.int se), .val (.int yy), .val (.ref b11), .unset] [(.ref b11)])
  refine own_go (fun t k => XS.iconst X12.here hx rfl (hb hby at_77) k) ?_
  show own_R p e below _ T12 (mkF m 78 #[.val (.int p0), .val (.int p1), .val (.int p2), .val (.int p3), .val (.int p4), .val (.int p5), .val (.int kk), .val (.int se), .val (.int yy), .val (.ref b11), .unset] [(.int (2 : Int32)), (.ref b11)])
  refine own_go (fun t k => XS.iconst X12.here hx rfl (hb hby at_78) k) ?_
  show own_R p e below _ T12 (mkF m 79 #[.val (.int p0), .val (.int p1), .val (.int p2), .val (.int p3), .val (.int p4), .val (.int p5), .val (.int kk), .val (.int se), .val (.int yy), .val (.ref b11), .unset] [(.int (2 : Int32)), (.int (2 : Int32)), (.ref b11)])
  obtain ⟨cq13, kq13, q13a, q13b, q13c⟩ := isOf hZ e12 E12_a
  obtain ⟨_, _, ⟨T13, L13, k13, n13⟩, -, X13, ⟨Lc13, hQ13, l13, y13, z13⟩, st13⟩ := X12.virtualBack hx (y := (⟨"com/example/signetry/signetry/card/WordFrame", "reset", "(II)V"⟩ : MethodName)) (z := (⟨"com/example/signetry/signetry/card/WordFrame", "reset", "(II)V"⟩ : MethodName)) hown (mvT hZ (hw _ (List.mem_of_getElem? (i := 13) rfl))) (mvT hZ (hw _ (List.mem_of_getElem? (i := 14) rfl))) (notFace_of_selects (args := #[]) (mvT hZ (hw _ (List.mem_of_getElem? (i := 16) rfl)))) (mvT hZ (hw _ (List.mem_of_getElem? (i := 16) rfl))) (mvT hZ (hw _ (List.mem_of_getElem? (i := 15) rfl))) (by decide) (backOf (W := 0) (rm3 l Z a0 hw [] b11 b12 kb12 h12 n0 (Nat.le_trans Z0 Kh.1) F12_a_words F12_a_localCount F12_a_maxStack F12_a_top F12_a_thisUninitialized F12_a_localsVersion E12_a V12_b g_b11 ne_b11_b12) hZ (hw _ (List.mem_of_getElem? (i := 17) rfl)) (hw _ (List.mem_of_getElem? (i := 3) rfl)) (by decide) (by decide)) q13a q13c (g := (mkF m 79 #[.val (.int p0), .val (.int p1), .val (.int p2), .val (.int p3), .val (.int p4), .val (.int p5), .val (.int kk), .val (.int se), .val (.int yy), .val (.ref b11), .unset] [(.int (2 : Int32)), (.int (2 : Int32)), (.ref b11)])) rfl (by rw [hml]; rfl) (Steps.refl _) (argsL := [(.int (2 : Int32)), (.int (2 : Int32))]) (rest := []) (lenOf pd_1 rfl) rfl (by show 2 * 0 + _ ≤ _; exact Nat.le_of_eq rfl) (hb hby at_79) (fun _ _ => ⟨rfl, e12, (by decide : 2 + 1 ≤ _), (by decide : 6 + 4 ≤ _)⟩)
  dsimp only [Pt.U, Pt.locs, Pt.cells, Pt.slots] at X13 l13 y13 z13 st13 hQ13
  subst l13 y13 z13
  obtain ⟨b13, kb13, rfl, Nq13, K13, gz13_b, E13_a, F13_a_words, F13_a_localCount, F13_a_maxStack, F13_a_top, F13_a_thisUninitialized, F13_a_localsVersion, V13_b⟩ := hQ13
  have N13 := Fr.app N12 Nq13
  obtain ⟨h13, e13⟩ : ∃ z, T13.heap = z := ⟨_, rfl⟩
  rw [e13] at K13 E13_a F13_a_words F13_a_localCount F13_a_maxStack F13_a_top F13_a_thisUninitialized F13_a_localsVersion V13_b
  have ne_b11_b13 : b11 ≠ b13 := Nat.ne_of_lt (Nat.lt_of_lt_of_le E12_a.lt gz13_b)
  have ne_b12_b13 : b12 ≠ b13 := Nat.ne_of_lt (Nat.lt_of_lt_of_le V12_b.lt gz13_b)
  have g_b13 : n0 ≤ b13 := Nat.le_trans (Nat.le_trans Z0 Kh.1) gz13_b
  have sz_b13 : h0.size ≤ b13 := Nat.le_trans Kh.1 gz13_b
  replace V12_b := V12_b.keep K13 (ninS (Ne.symm ne_b11_b12) nin0)
  replace Kh := Kh.trans K13 (allS (Or.inr sz_b11) all0)
  refine own_go (fun t k => st13.trans k) ?_
  show own_R p e below _ T13 (mkF m 82 #[.val (.int p0), .val (.int p1), .val (.int p2), .val (.int p3), .val (.int p4), .val (.int p5), .val (.int kk), .val (.int se), .val (.int yy), .val (.ref b11), .unset] [])
  refine own_go (fun t k => XS.aload X13.here hx rfl (hb hby at_82) rfl rfl  k) ?_
  show own_R p e below _ T13 (mkF m 84 #[.val (.int p0), .val (.int p1), .val (.int p2), .val (.int p3), .val (.int p4), .val (.int p5), .val (.int kk), .val (.int se), .val (.int yy), .val (.ref b11), .unset] [(.ref b11)])
  refine own_go (fun t k => XS.iconst X13.here hx rfl (hb hby at_84) k) ?_
  show own_R p e below _ T13 (mkF m 85 #[.val (.int p0), .val (.int p1), .val (.int p2), .val (.int p3), .val (.int p4), .val (.int p5), .val (.int kk), .val (.int se), .val (.int yy), .val (.ref b11), .unset] [(.int (0 : Int32)), (.ref b11)])
  refine own_go (fun t k => XS.iloadN X13.here hx rfl (hb hby at_85) rfl  k) ?_
  show own_R p e below _ T13 (mkF m 86 #[.val (.int p0), .val (.int p1), .val (.int p2), .val (.int p3), .val (.int p4), .val (.int p5), .val (.int kk), .val (.int se), .val (.int yy), .val (.ref b11), .unset] [(.int p0), (.int (0 : Int32)), (.ref b11)])
  obtain ⟨cq14, kq14, q14a, q14b, q14c⟩ := isOf hZ e13 E13_a
  obtain ⟨_, _, ⟨T14, L14, k14, n14⟩, -, X14, ⟨Lc14, hQ14, l14, y14, z14⟩, st14⟩ := X13.virtualBack hx (y := (⟨"com/example/signetry/signetry/card/WordFrame", "store", "(II)V"⟩ : MethodName)) (z := (⟨"com/example/signetry/signetry/card/WordFrame", "store", "(II)V"⟩ : MethodName)) hown (mvT hZ (hw _ (List.mem_of_getElem? (i := 35) rfl))) (mvT hZ (hw _ (List.mem_of_getElem? (i := 36) rfl))) (notFace_of_selects (args := #[]) (mvT hZ (hw _ (List.mem_of_getElem? (i := 38) rfl)))) (mvT hZ (hw _ (List.mem_of_getElem? (i := 38) rfl))) (mvT hZ (hw _ (List.mem_of_getElem? (i := 37) rfl))) (by decide) (backOf (W := 0) (rmstore_st0 l Z a0 hw [] b11 p0 b13 kb13 h13 n0 (Nat.le_trans Z0 Kh.1) F13_a_words F13_a_localCount F13_a_maxStack F13_a_top F13_a_thisUninitialized F13_a_localsVersion E13_a V13_b g_b11 g_b13 ne_b11_b13) hZ (hw _ (List.mem_of_getElem? (i := 39) rfl)) (hw _ (List.mem_of_getElem? (i := 3) rfl)) (by decide) (by decide)) q14a q14c (g := (mkF m 86 #[.val (.int p0), .val (.int p1), .val (.int p2), .val (.int p3), .val (.int p4), .val (.int p5), .val (.int kk), .val (.int se), .val (.int yy), .val (.ref b11), .unset] [(.int p0), (.int (0 : Int32)), (.ref b11)])) rfl (by rw [hml]; rfl) (Steps.refl _) (argsL := [(.int (0 : Int32)), (.int p0)]) (rest := []) (lenOf pd_1 rfl) rfl (by show 2 * 0 + _ ≤ _; exact Nat.le_of_eq rfl) (hb hby at_86) (fun _ _ => ⟨rfl, e13, (by decide : 3 + 0 ≤ _), (by decide : 10 + 0 ≤ _)⟩)
  dsimp only [Pt.U, Pt.locs, Pt.cells, Pt.slots] at X14 l14 y14 z14 st14 hQ14
  subst l14 y14 z14
  obtain ⟨rfl, Nq14, K14, E14_a, F14_a_words, F14_a_localCount, F14_a_maxStack, F14_a_top, F14_a_thisUninitialized, F14_a_localsVersion, V14_w⟩ := hQ14
  have N14 := Fr.app N13 Nq14
  obtain ⟨h14, e14⟩ : ∃ z, T14.heap = z := ⟨_, rfl⟩
  rw [e14] at K14 E14_a F14_a_words F14_a_localCount F14_a_maxStack F14_a_top F14_a_thisUninitialized F14_a_localsVersion V14_w
  replace V12_b := V12_b.keep K14 (ninS (Ne.symm ne_b11_b12) (ninS ne_b12_b13 nin0))
  replace Kh := Kh.trans K14 (allS (Or.inr sz_b11) (allS (Or.inr sz_b13) all0))
  refine own_go (fun t k => st14.trans k) ?_
  show own_R p e below _ T14 (mkF m 89 #[.val (.int p0), .val (.int p1), .val (.int p2), .val (.int p3), .val (.int p4), .val (.int p5), .val (.int kk), .val (.int se), .val (.int yy), .val (.ref b11), .unset] [])
  refine own_go (fun t k => XS.aload X14.here hx rfl (hb hby at_89) rfl rfl  k) ?_
  show own_R p e below _ T14 (mkF m 91 #[.val (.int p0), .val (.int p1), .val (.int p2), .val (.int p3), .val (.int p4), .val (.int p5), .val (.int kk), .val (.int se), .val (.int yy), .val (.ref b11), .unset] [(.ref b11)])
  refine own_go (fun t k => XS.iconst X14.here hx rfl (hb hby at_91) k) ?_
  show own_R p e below _ T14 (mkF m 92 #[.val (.int p0), .val (.int p1), .val (.int p2), .val (.int p3), .val (.int p4), .val (.int p5), .val (.int kk), .val (.int se), .val (.int yy), .val (.ref b11), .unset] [(.int (1 : Int32)), (.ref b11)])
  refine own_go (fun t k => XS.iloadN X14.here hx rfl (hb hby at_92) rfl  k) ?_
  show own_R p e below _ T14 (mkF m 93 #[.val (.int p0), .val (.int p1), .val (.int p2), .val (.int p3), .val (.int p4), .val (.int p5), .val (.int kk), .val (.int se), .val (.int yy), .val (.ref b11), .unset] [(.int p1), (.int (1 : Int32)), (.ref b11)])
  obtain ⟨cq15, kq15, q15a, q15b, q15c⟩ := isOf hZ e14 E14_a
  obtain ⟨_, _, ⟨T15, L15, k15, n15⟩, -, X15, ⟨Lc15, hQ15, l15, y15, z15⟩, st15⟩ := X14.virtualBack hx (y := (⟨"com/example/signetry/signetry/card/WordFrame", "store", "(II)V"⟩ : MethodName)) (z := (⟨"com/example/signetry/signetry/card/WordFrame", "store", "(II)V"⟩ : MethodName)) hown (mvT hZ (hw _ (List.mem_of_getElem? (i := 35) rfl))) (mvT hZ (hw _ (List.mem_of_getElem? (i := 36) rfl))) (notFace_of_selects (args := #[]) (mvT hZ (hw _ (List.mem_of_getElem? (i := 38) rfl)))) (mvT hZ (hw _ (List.mem_of_getElem? (i := 38) rfl))) (mvT hZ (hw _ (List.mem_of_getElem? (i := 37) rfl))) (by decide) (backOf (W := 0) (rmstore_st1 l Z a0 hw [] b11 p1 b13 kb13 p0 h14 n0 (Nat.le_trans Z0 Kh.1) F14_a_words F14_a_localCount F14_a_maxStack F14_a_top F14_a_thisUninitialized F14_a_localsVersion E14_a V14_w g_b11 g_b13 ne_b11_b13) hZ (hw _ (List.mem_of_getElem? (i := 39) rfl)) (hw _ (List.mem_of_getElem? (i := 3) rfl)) (by decide) (by decide)) q15a q15c (g := (mkF m 93 #[.val (.int p0), .val (.int p1), .val (.int p2), .val (.int p3), .val (.int p4), .val (.int p5), .val (.int kk), .val (.int se), .val (.int yy), .val (.ref b11), .unset] [(.int p1), (.int (1 : Int32)), (.ref b11)])) rfl (by rw [hml]; rfl) (Steps.refl _) (argsL := [(.int (1 : Int32)), (.int p1)]) (rest := []) (lenOf pd_1 rfl) rfl (by show 2 * 0 + _ ≤ _; exact Nat.le_of_eq rfl) (hb hby at_93) (fun _ _ => ⟨rfl, e14, (by decide : 3 + 0 ≤ _), (by decide : 10 + 0 ≤ _)⟩)
  dsimp only [Pt.U, Pt.locs, Pt.cells, Pt.slots] at X15 l15 y15 z15 st15 hQ15
  subst l15 y15 z15
  obtain ⟨rfl, Nq15, K15, E15_a, F15_a_words, F15_a_localCount, F15_a_maxStack, F15_a_top, F15_a_thisUninitialized, F15_a_localsVersion, V15_w⟩ := hQ15
  have N15 := Fr.app N14 Nq15
  obtain ⟨h15, e15⟩ : ∃ z, T15.heap = z := ⟨_, rfl⟩
  rw [e15] at K15 E15_a F15_a_words F15_a_localCount F15_a_maxStack F15_a_top F15_a_thisUninitialized F15_a_localsVersion V15_w
  replace V12_b := V12_b.keep K15 (ninS (Ne.symm ne_b11_b12) (ninS ne_b12_b13 nin0))
  replace Kh := Kh.trans K15 (allS (Or.inr sz_b11) (allS (Or.inr sz_b13) all0))
  refine own_go (fun t k => st15.trans k) ?_
  show own_R p e below _ T15 (mkF m 96 #[.val (.int p0), .val (.int p1), .val (.int p2), .val (.int p3), .val (.int p4), .val (.int p5), .val (.int kk), .val (.int se), .val (.int yy), .val (.ref b11), .unset] [])
  refine own_go (fun t k => XS.aload X15.here hx rfl (hb hby at_96) rfl rfl  k) ?_
  show own_R p e below _ T15 (mkF m 98 #[.val (.int p0), .val (.int p1), .val (.int p2), .val (.int p3), .val (.int p4), .val (.int p5), .val (.int kk), .val (.int se), .val (.int yy), .val (.ref b11), .unset] [(.ref b11)])
  refine own_go (fun t k => XS.iloadN X15.here hx rfl (hb hby at_98) rfl  k) ?_
  show own_R p e below _ T15 (mkF m 99 #[.val (.int p0), .val (.int p1), .val (.int p2), .val (.int p3), .val (.int p4), .val (.int p5), .val (.int kk), .val (.int se), .val (.int yy), .val (.ref b11), .unset] [(.int p2), (.ref b11)])
  obtain ⟨cq16, kq16, q16a, q16b, q16c⟩ := isOf hZ e15 E15_a
  obtain ⟨_, _, ⟨T16, L16, k16, n16⟩, -, X16, ⟨Lc16, hQ16, l16, y16, z16⟩, st16⟩ := X15.virtualBack hx (y := (⟨"com/example/signetry/signetry/card/WordFrame", "push", "(I)V"⟩ : MethodName)) (z := (⟨"com/example/signetry/signetry/card/WordFrame", "push", "(I)V"⟩ : MethodName)) hown (mvT hZ (hw _ (List.mem_of_getElem? (i := 48) rfl))) (mvT hZ (hw _ (List.mem_of_getElem? (i := 49) rfl))) (notFace_of_selects (args := #[]) (mvT hZ (hw _ (List.mem_of_getElem? (i := 51) rfl)))) (mvT hZ (hw _ (List.mem_of_getElem? (i := 51) rfl))) (mvT hZ (hw _ (List.mem_of_getElem? (i := 50) rfl))) (by decide) (backOf (W := 0) (rmpush_pu2 l Z a0 hw [] b11 p2 b13 kb13 p0 p1 h15 n0 (Nat.le_trans Z0 Kh.1) F15_a_words F15_a_localCount F15_a_maxStack F15_a_top F15_a_thisUninitialized F15_a_localsVersion E15_a V15_w g_b11 g_b13 ne_b11_b13) hZ (hw _ (List.mem_of_getElem? (i := 52) rfl)) (hw _ (List.mem_of_getElem? (i := 3) rfl)) (by decide) (by decide)) q16a q16c (g := (mkF m 99 #[.val (.int p0), .val (.int p1), .val (.int p2), .val (.int p3), .val (.int p4), .val (.int p5), .val (.int kk), .val (.int se), .val (.int yy), .val (.ref b11), .unset] [(.int p2), (.ref b11)])) rfl (by rw [hml]; rfl) (Steps.refl _) (argsL := [(.int p2)]) (rest := []) (lenOf pd_4 rfl) rfl (by show 2 * 0 + _ ≤ _; exact Nat.le_of_eq rfl) (hb hby at_99) (fun _ _ => ⟨rfl, e15, (by decide : 3 + 0 ≤ _), (by decide : 10 + 0 ≤ _)⟩)
  dsimp only [Pt.U, Pt.locs, Pt.cells, Pt.slots] at X16 l16 y16 z16 st16 hQ16
  subst l16 y16 z16
  obtain ⟨rfl, Nq16, K16, E16_a, F16_a_words, F16_a_localCount, F16_a_maxStack, F16_a_top, F16_a_thisUninitialized, F16_a_localsVersion, V16_w⟩ := hQ16
  have N16 := Fr.app N15 Nq16
  obtain ⟨h16, e16⟩ : ∃ z, T16.heap = z := ⟨_, rfl⟩
  rw [e16] at K16 E16_a F16_a_words F16_a_localCount F16_a_maxStack F16_a_top F16_a_thisUninitialized F16_a_localsVersion V16_w
  replace V12_b := V12_b.keep K16 (ninS (Ne.symm ne_b11_b12) (ninS ne_b12_b13 nin0))
  replace Kh := Kh.trans K16 (allS (Or.inr sz_b11) (allS (Or.inr sz_b13) all0))
  refine own_go (fun t k => st16.trans k) ?_
  show own_R p e below _ T16 (mkF m 102 #[.val (.int p0), .val (.int p1), .val (.int p2), .val (.int p3), .val (.int p4), .val (.int p5), .val (.int kk), .val (.int se), .val (.int yy), .val (.ref b11), .unset] [])
  refine own_go (fun t k => XS.aload X16.here hx rfl (hb hby at_102) rfl rfl  k) ?_
  show own_R p e below _ T16 (mkF m 104 #[.val (.int p0), .val (.int p1), .val (.int p2), .val (.int p3), .val (.int p4), .val (.int p5), .val (.int kk), .val (.int se), .val (.int yy), .val (.ref b11), .unset] [(.ref b11)])
  refine own_go (fun t k => XS.iloadN X16.here hx rfl (hb hby at_104) rfl  k) ?_
  show own_R p e below _ T16 (mkF m 105 #[.val (.int p0), .val (.int p1), .val (.int p2), .val (.int p3), .val (.int p4), .val (.int p5), .val (.int kk), .val (.int se), .val (.int yy), .val (.ref b11), .unset] [(.int p3), (.ref b11)])
  obtain ⟨cq17, kq17, q17a, q17b, q17c⟩ := isOf hZ e16 E16_a
  obtain ⟨_, _, ⟨T17, L17, k17, n17⟩, -, X17, ⟨Lc17, hQ17, l17, y17, z17⟩, st17⟩ := X16.virtualBack hx (y := (⟨"com/example/signetry/signetry/card/WordFrame", "push", "(I)V"⟩ : MethodName)) (z := (⟨"com/example/signetry/signetry/card/WordFrame", "push", "(I)V"⟩ : MethodName)) hown (mvT hZ (hw _ (List.mem_of_getElem? (i := 48) rfl))) (mvT hZ (hw _ (List.mem_of_getElem? (i := 49) rfl))) (notFace_of_selects (args := #[]) (mvT hZ (hw _ (List.mem_of_getElem? (i := 51) rfl)))) (mvT hZ (hw _ (List.mem_of_getElem? (i := 51) rfl))) (mvT hZ (hw _ (List.mem_of_getElem? (i := 50) rfl))) (by decide) (backOf (W := 0) (rmpush_pu3 l Z a0 hw [] b11 p3 b13 kb13 p0 p1 p2 h16 n0 (Nat.le_trans Z0 Kh.1) F16_a_words F16_a_localCount F16_a_maxStack F16_a_top F16_a_thisUninitialized F16_a_localsVersion E16_a V16_w g_b11 g_b13 ne_b11_b13) hZ (hw _ (List.mem_of_getElem? (i := 52) rfl)) (hw _ (List.mem_of_getElem? (i := 3) rfl)) (by decide) (by decide)) q17a q17c (g := (mkF m 105 #[.val (.int p0), .val (.int p1), .val (.int p2), .val (.int p3), .val (.int p4), .val (.int p5), .val (.int kk), .val (.int se), .val (.int yy), .val (.ref b11), .unset] [(.int p3), (.ref b11)])) rfl (by rw [hml]; rfl) (Steps.refl _) (argsL := [(.int p3)]) (rest := []) (lenOf pd_4 rfl) rfl (by show 2 * 0 + _ ≤ _; exact Nat.le_of_eq rfl) (hb hby at_105) (fun _ _ => ⟨rfl, e16, (by decide : 3 + 0 ≤ _), (by decide : 10 + 0 ≤ _)⟩)
  dsimp only [Pt.U, Pt.locs, Pt.cells, Pt.slots] at X17 l17 y17 z17 st17 hQ17
  subst l17 y17 z17
  obtain ⟨rfl, Nq17, K17, E17_a, F17_a_words, F17_a_localCount, F17_a_maxStack, F17_a_top, F17_a_thisUninitialized, F17_a_localsVersion, V17_w⟩ := hQ17
  have N17 := Fr.app N16 Nq17
  obtain ⟨h17, e17⟩ : ∃ z, T17.heap = z := ⟨_, rfl⟩
  rw [e17] at K17 E17_a F17_a_words F17_a_localCount F17_a_maxStack F17_a_top F17_a_thisUninitialized F17_a_localsVersion V17_w
  replace V12_b := V12_b.keep K17 (ninS (Ne.symm ne_b11_b12) (ninS ne_b12_b13 nin0))
  replace Kh := Kh.trans K17 (allS (Or.inr sz_b11) (allS (Or.inr sz_b13) all0))
  refine own_go (fun t k => st17.trans k) ?_
  show own_R p e below _ T17 (mkF m 108 #[.val (.int p0), .val (.int p1), .val (.int p2), .val (.int p3), .val (.int p4), .val (.int p5), .val (.int kk), .val (.int se), .val (.int yy), .val (.ref b11), .unset] [])
  refine own_go (fun t k => XS.iload X17.here hx rfl (hb hby at_108) rfl  k) ?_
  show own_R p e below _ T17 (mkF m 110 #[.val (.int p0), .val (.int p1), .val (.int p2), .val (.int p3), .val (.int p4), .val (.int p5), .val (.int kk), .val (.int se), .val (.int yy), .val (.ref b11), .unset] [(.int kk)])
  refine own_go (fun t k => XS.iconst X17.here hx rfl (hb hby at_110) k) ?_
  show own_R p e below _ T17 (mkF m 111 #[.val (.int p0), .val (.int p1), .val (.int p2), .val (.int p3), .val (.int p4), .val (.int p5), .val (.int kk), .val (.int se), .val (.int yy), .val (.ref b11), .unset] [(.int (1 : Int32)), (.int kk)])
  by_cases hc111_18 : kk < (1 : Int32)
  · -- pc 111: yes
    refine own_go (fun t k => XS.icmpYes X17.here hx rfl (pc0 := 111) (pc' := 120) rfl (hb hby at_111) rfl (tlt hc111_18).1 (by decide) (by decide) k) ?_
    show own_R p e below _ T17 (mkF m 120 #[.val (.int p0), .val (.int p1), .val (.int p2), .val (.int p3), .val (.int p4), .val (.int p5), .val (.int kk), .val (.int se), .val (.int yy), .val (.ref b11), .unset] [])
    refine own_go (fun t k => XS.iload X17.here hx rfl (hb hby at_120) rfl  k) ?_
    show own_R p e below _ T17 (mkF m 122 #[.val (.int p0), .val (.int p1), .val (.int p2), .val (.int p3), .val (.int p4), .val (.int p5), .val (.int kk), .val (.int se), .val (.int yy), .val (.ref b11), .unset] [(.int kk)])
    refine own_go (fun t k => XS.iconst X17.here hx rfl (hb hby at_122) k) ?_
    show own_R p e below _ T17 (mkF m 123 #[.val (.int p0), .val (.int p1), .val (.int p2), .val (.int p3), .val (.int p4), .val (.int p5), .val (.int kk), .val (.int se), .val (.int yy), .val (.ref b11), .unset] [(.int (2 : Int32)), (.int kk)])
    refine own_go (fun t k => XS.icmpYes X17.here hx rfl (pc0 := 123) (pc' := 132) rfl (hb hby at_123) rfl (tlt (own_k _ hc111_18)).1 (by decide) (by decide) k) ?_
    show own_R p e below _ T17 (mkF m 132 #[.val (.int p0), .val (.int p1), .val (.int p2), .val (.int p3), .val (.int p4), .val (.int p5), .val (.int kk), .val (.int se), .val (.int yy), .val (.ref b11), .unset] [])
    obtain ⟨_, st19, T19, L19, rfl, X19, e19, N19⟩ : own_R p e below (own_K p l e _ s m _ below meth c n0 3 10 (fun h => h = h17) (mkF m 172 #[.val (.int p0), .val (.int p1), .val (.int p2), .val (.int p3), .val (.int p4), .val (.int p5), .val (.int kk), .val (.int se), .val (.int yy), .val (.ref b11), .unset] [(.int (if yy = p0 ∨ yy = p1 ∨ (¬ (1 : Int32) < kk ∧ yy = p2) ∨ (kk = (0 : Int32) ∧ yy = p3) then (1 : Int32) else (0 : Int32)))])) T17 (mkF m 132 #[.val (.int p0), .val (.int p1), .val (.int p2), .val (.int p3), .val (.int p4), .val (.int p5), .val (.int kk), .val (.int se), .val (.int yy), .val (.ref b11), .unset] []) := by
      refine own_go (fun t k => XS.iload X17.here hx rfl (hb hby at_132) rfl  k) ?_
      show own_R p e below _ T17 (mkF m 134 #[.val (.int p0), .val (.int p1), .val (.int p2), .val (.int p3), .val (.int p4), .val (.int p5), .val (.int kk), .val (.int se), .val (.int yy), .val (.ref b11), .unset] [(.int yy)])
      refine own_go (fun t k => XS.iloadN X17.here hx rfl (hb hby at_134) rfl  k) ?_
      show own_R p e below _ T17 (mkF m 135 #[.val (.int p0), .val (.int p1), .val (.int p2), .val (.int p3), .val (.int p4), .val (.int p5), .val (.int kk), .val (.int se), .val (.int yy), .val (.ref b11), .unset] [(.int p0), (.int yy)])
      by_cases hc135_20 : yy = p0
      · -- pc 135: yes
        refine own_go (fun t k => XS.icmpYes X17.here hx rfl (pc0 := 135) (pc' := 167) rfl (hb hby at_135) rfl (teq hc135_20).1 (by decide) (by decide) k) ?_
        show own_R p e below _ T17 (mkF m 167 #[.val (.int p0), .val (.int p1), .val (.int p2), .val (.int p3), .val (.int p4), .val (.int p5), .val (.int kk), .val (.int se), .val (.int yy), .val (.ref b11), .unset] [])
        refine own_go (fun t k => XS.iconst X17.here hx rfl (hb hby at_167) k) ?_
        show own_R p e below _ T17 (mkF m 168 #[.val (.int p0), .val (.int p1), .val (.int p2), .val (.int p3), .val (.int p4), .val (.int p5), .val (.int kk), .val (.int se), .val (.int yy), .val (.ref b11), .unset] [(.int (1 : Int32))])
        refine own_go (fun t k => XS.goto X17.here hx rfl (pc0 := 168) (pc' := 172) rfl (hb hby at_168) (by decide) (by decide) k) ?_
        show own_R p e below _ T17 (mkF m 172 #[.val (.int p0), .val (.int p1), .val (.int p2), .val (.int p3), .val (.int p4), .val (.int p5), .val (.int kk), .val (.int se), .val (.int yy), .val (.ref b11), .unset] [(.int (1 : Int32))])
        have hv21 : (if yy = p0 ∨ yy = p1 ∨ (¬ (1 : Int32) < kk ∧ yy = p2) ∨ (kk = (0 : Int32) ∧ yy = p3) then (1 : Int32) else (0 : Int32)) = (1 : Int32) := by simp [hc135_20]
        rw [hv21]
        exact own_here X17 e17 N17
      · -- pc 135: no
        refine own_go (fun t k => XS.icmpNo X17.here hx rfl (hb hby at_135) rfl (feq hc135_20).1 k) ?_
        show own_R p e below _ T17 (mkF m 138 #[.val (.int p0), .val (.int p1), .val (.int p2), .val (.int p3), .val (.int p4), .val (.int p5), .val (.int kk), .val (.int se), .val (.int yy), .val (.ref b11), .unset] [])
        refine own_go (fun t k => XS.iload X17.here hx rfl (hb hby at_138) rfl  k) ?_
        show own_R p e below _ T17 (mkF m 140 #[.val (.int p0), .val (.int p1), .val (.int p2), .val (.int p3), .val (.int p4), .val (.int p5), .val (.int kk), .val (.int se), .val (.int yy), .val (.ref b11), .unset] [(.int yy)])
        refine own_go (fun t k => XS.iloadN X17.here hx rfl (hb hby at_140) rfl  k) ?_
        show own_R p e below _ T17 (mkF m 141 #[.val (.int p0), .val (.int p1), .val (.int p2), .val (.int p3), .val (.int p4), .val (.int p5), .val (.int kk), .val (.int se), .val (.int yy), .val (.ref b11), .unset] [(.int p1), (.int yy)])
        by_cases hc141_22 : yy = p1
        · -- pc 141: yes
          refine own_go (fun t k => XS.icmpYes X17.here hx rfl (pc0 := 141) (pc' := 167) rfl (hb hby at_141) rfl (teq hc141_22).1 (by decide) (by decide) k) ?_
          show own_R p e below _ T17 (mkF m 167 #[.val (.int p0), .val (.int p1), .val (.int p2), .val (.int p3), .val (.int p4), .val (.int p5), .val (.int kk), .val (.int se), .val (.int yy), .val (.ref b11), .unset] [])
          refine own_go (fun t k => XS.iconst X17.here hx rfl (hb hby at_167) k) ?_
          show own_R p e below _ T17 (mkF m 168 #[.val (.int p0), .val (.int p1), .val (.int p2), .val (.int p3), .val (.int p4), .val (.int p5), .val (.int kk), .val (.int se), .val (.int yy), .val (.ref b11), .unset] [(.int (1 : Int32))])
          refine own_go (fun t k => XS.goto X17.here hx rfl (pc0 := 168) (pc' := 172) rfl (hb hby at_168) (by decide) (by decide) k) ?_
          show own_R p e below _ T17 (mkF m 172 #[.val (.int p0), .val (.int p1), .val (.int p2), .val (.int p3), .val (.int p4), .val (.int p5), .val (.int kk), .val (.int se), .val (.int yy), .val (.ref b11), .unset] [(.int (1 : Int32))])
          have hv23 : (if yy = p0 ∨ yy = p1 ∨ (¬ (1 : Int32) < kk ∧ yy = p2) ∨ (kk = (0 : Int32) ∧ yy = p3) then (1 : Int32) else (0 : Int32)) = (1 : Int32) := by simp [hc135_20, hc141_22]
          rw [hv23]
          exact own_here X17 e17 N17
        · -- pc 141: no
          refine own_go (fun t k => XS.icmpNo X17.here hx rfl (hb hby at_141) rfl (feq hc141_22).1 k) ?_
          show own_R p e below _ T17 (mkF m 144 #[.val (.int p0), .val (.int p1), .val (.int p2), .val (.int p3), .val (.int p4), .val (.int p5), .val (.int kk), .val (.int se), .val (.int yy), .val (.ref b11), .unset] [])
          refine own_go (fun t k => XS.iload X17.here hx rfl (hb hby at_144) rfl  k) ?_
          show own_R p e below _ T17 (mkF m 146 #[.val (.int p0), .val (.int p1), .val (.int p2), .val (.int p3), .val (.int p4), .val (.int p5), .val (.int kk), .val (.int se), .val (.int yy), .val (.ref b11), .unset] [(.int kk)])
          refine own_go (fun t k => XS.iconst X17.here hx rfl (hb hby at_146) k) ?_
          show own_R p e below _ T17 (mkF m 147 #[.val (.int p0), .val (.int p1), .val (.int p2), .val (.int p3), .val (.int p4), .val (.int p5), .val (.int kk), .val (.int se), .val (.int yy), .val (.ref b11), .unset] [(.int (1 : Int32)), (.int kk)])
          by_cases hc147_24 : (1 : Int32) < kk
          · -- pc 147: yes
            refine own_go (fun t k => XS.icmpYes X17.here hx rfl (pc0 := 147) (pc' := 156) rfl (hb hby at_147) rfl (tlt hc147_24).2.2.1 (by decide) (by decide) k) ?_
            show own_R p e below _ T17 (mkF m 156 #[.val (.int p0), .val (.int p1), .val (.int p2), .val (.int p3), .val (.int p4), .val (.int p5), .val (.int kk), .val (.int se), .val (.int yy), .val (.ref b11), .unset] [])
            refine own_go (fun t k => XS.iload X17.here hx rfl (hb hby at_156) rfl  k) ?_
            show own_R p e below _ T17 (mkF m 158 #[.val (.int p0), .val (.int p1), .val (.int p2), .val (.int p3), .val (.int p4), .val (.int p5), .val (.int kk), .val (.int se), .val (.int yy), .val (.ref b11), .unset] [(.int kk)])
            refine own_go (fun t k => XS.ifYes X17.here hx rfl (pc0 := 158) (pc' := 171) rfl (hb hby at_158) rfl ((if0 _ _).trans (feq (own_n0 hc147_24)).2) (by decide) (by decide) k) ?_
            show own_R p e below _ T17 (mkF m 171 #[.val (.int p0), .val (.int p1), .val (.int p2), .val (.int p3), .val (.int p4), .val (.int p5), .val (.int kk), .val (.int se), .val (.int yy), .val (.ref b11), .unset] [])
            refine own_go (fun t k => XS.iconst X17.here hx rfl (hb hby at_171) k) ?_
            show own_R p e below _ T17 (mkF m 172 #[.val (.int p0), .val (.int p1), .val (.int p2), .val (.int p3), .val (.int p4), .val (.int p5), .val (.int kk), .val (.int se), .val (.int yy), .val (.ref b11), .unset] [(.int (0 : Int32))])
            have hv25 : (if yy = p0 ∨ yy = p1 ∨ (¬ (1 : Int32) < kk ∧ yy = p2) ∨ (kk = (0 : Int32) ∧ yy = p3) then (1 : Int32) else (0 : Int32)) = (0 : Int32) := by simp [hc135_20, hc141_22, hc147_24, own_n0 hc147_24]
            rw [hv25]
            exact own_here X17 e17 N17
          · -- pc 147: no
            refine own_go (fun t k => XS.icmpNo X17.here hx rfl (hb hby at_147) rfl (flt hc147_24).2.2.1 k) ?_
            show own_R p e below _ T17 (mkF m 150 #[.val (.int p0), .val (.int p1), .val (.int p2), .val (.int p3), .val (.int p4), .val (.int p5), .val (.int kk), .val (.int se), .val (.int yy), .val (.ref b11), .unset] [])
            refine own_go (fun t k => XS.iload X17.here hx rfl (hb hby at_150) rfl  k) ?_
            show own_R p e below _ T17 (mkF m 152 #[.val (.int p0), .val (.int p1), .val (.int p2), .val (.int p3), .val (.int p4), .val (.int p5), .val (.int kk), .val (.int se), .val (.int yy), .val (.ref b11), .unset] [(.int yy)])
            refine own_go (fun t k => XS.iloadN X17.here hx rfl (hb hby at_152) rfl  k) ?_
            show own_R p e below _ T17 (mkF m 153 #[.val (.int p0), .val (.int p1), .val (.int p2), .val (.int p3), .val (.int p4), .val (.int p5), .val (.int kk), .val (.int se), .val (.int yy), .val (.ref b11), .unset] [(.int p2), (.int yy)])
            by_cases hc153_26 : yy = p2
            · -- pc 153: yes
              refine own_go (fun t k => XS.icmpYes X17.here hx rfl (pc0 := 153) (pc' := 167) rfl (hb hby at_153) rfl (teq hc153_26).1 (by decide) (by decide) k) ?_
              show own_R p e below _ T17 (mkF m 167 #[.val (.int p0), .val (.int p1), .val (.int p2), .val (.int p3), .val (.int p4), .val (.int p5), .val (.int kk), .val (.int se), .val (.int yy), .val (.ref b11), .unset] [])
              refine own_go (fun t k => XS.iconst X17.here hx rfl (hb hby at_167) k) ?_
              show own_R p e below _ T17 (mkF m 168 #[.val (.int p0), .val (.int p1), .val (.int p2), .val (.int p3), .val (.int p4), .val (.int p5), .val (.int kk), .val (.int se), .val (.int yy), .val (.ref b11), .unset] [(.int (1 : Int32))])
              refine own_go (fun t k => XS.goto X17.here hx rfl (pc0 := 168) (pc' := 172) rfl (hb hby at_168) (by decide) (by decide) k) ?_
              show own_R p e below _ T17 (mkF m 172 #[.val (.int p0), .val (.int p1), .val (.int p2), .val (.int p3), .val (.int p4), .val (.int p5), .val (.int kk), .val (.int se), .val (.int yy), .val (.ref b11), .unset] [(.int (1 : Int32))])
              have hv27 : (if yy = p0 ∨ yy = p1 ∨ (¬ (1 : Int32) < kk ∧ yy = p2) ∨ (kk = (0 : Int32) ∧ yy = p3) then (1 : Int32) else (0 : Int32)) = (1 : Int32) := by simp [hc135_20, hc141_22, hc147_24, hc153_26]
              rw [hv27]
              exact own_here X17 e17 N17
            · -- pc 153: no
              refine own_go (fun t k => XS.icmpNo X17.here hx rfl (hb hby at_153) rfl (feq hc153_26).1 k) ?_
              show own_R p e below _ T17 (mkF m 156 #[.val (.int p0), .val (.int p1), .val (.int p2), .val (.int p3), .val (.int p4), .val (.int p5), .val (.int kk), .val (.int se), .val (.int yy), .val (.ref b11), .unset] [])
              refine own_go (fun t k => XS.iload X17.here hx rfl (hb hby at_156) rfl  k) ?_
              show own_R p e below _ T17 (mkF m 158 #[.val (.int p0), .val (.int p1), .val (.int p2), .val (.int p3), .val (.int p4), .val (.int p5), .val (.int kk), .val (.int se), .val (.int yy), .val (.ref b11), .unset] [(.int kk)])
              by_cases hc158_28 : kk = (0 : Int32)
              · -- pc 158: yes
                refine own_go (fun t k => XS.ifNo X17.here hx rfl (hb hby at_158) rfl ((if0 _ _).trans (teq hc158_28).2) k) ?_
                show own_R p e below _ T17 (mkF m 161 #[.val (.int p0), .val (.int p1), .val (.int p2), .val (.int p3), .val (.int p4), .val (.int p5), .val (.int kk), .val (.int se), .val (.int yy), .val (.ref b11), .unset] [])
                refine own_go (fun t k => XS.iload X17.here hx rfl (hb hby at_161) rfl  k) ?_
                show own_R p e below _ T17 (mkF m 163 #[.val (.int p0), .val (.int p1), .val (.int p2), .val (.int p3), .val (.int p4), .val (.int p5), .val (.int kk), .val (.int se), .val (.int yy), .val (.ref b11), .unset] [(.int yy)])
                refine own_go (fun t k => XS.iloadN X17.here hx rfl (hb hby at_163) rfl  k) ?_
                show own_R p e below _ T17 (mkF m 164 #[.val (.int p0), .val (.int p1), .val (.int p2), .val (.int p3), .val (.int p4), .val (.int p5), .val (.int kk), .val (.int se), .val (.int yy), .val (.ref b11), .unset] [(.int p3), (.int yy)])
                by_cases hc164_29 : yy = p3
                · -- pc 164: yes
                  refine own_go (fun t k => XS.icmpNo X17.here hx rfl (hb hby at_164) rfl (teq hc164_29).2 k) ?_
                  show own_R p e below _ T17 (mkF m 167 #[.val (.int p0), .val (.int p1), .val (.int p2), .val (.int p3), .val (.int p4), .val (.int p5), .val (.int kk), .val (.int se), .val (.int yy), .val (.ref b11), .unset] [])
                  refine own_go (fun t k => XS.iconst X17.here hx rfl (hb hby at_167) k) ?_
                  show own_R p e below _ T17 (mkF m 168 #[.val (.int p0), .val (.int p1), .val (.int p2), .val (.int p3), .val (.int p4), .val (.int p5), .val (.int kk), .val (.int se), .val (.int yy), .val (.ref b11), .unset] [(.int (1 : Int32))])
                  refine own_go (fun t k => XS.goto X17.here hx rfl (pc0 := 168) (pc' := 172) rfl (hb hby at_168) (by decide) (by decide) k) ?_
                  show own_R p e below _ T17 (mkF m 172 #[.val (.int p0), .val (.int p1), .val (.int p2), .val (.int p3), .val (.int p4), .val (.int p5), .val (.int kk), .val (.int se), .val (.int yy), .val (.ref b11), .unset] [(.int (1 : Int32))])
                  have hv30 : (if yy = p0 ∨ yy = p1 ∨ (¬ (1 : Int32) < kk ∧ yy = p2) ∨ (kk = (0 : Int32) ∧ yy = p3) then (1 : Int32) else (0 : Int32)) = (1 : Int32) := by simp [hc135_20, hc141_22, hc147_24, hc153_26, hc158_28, hc164_29]
                  rw [hv30]
                  exact own_here X17 e17 N17
                · -- pc 164: no
                  refine own_go (fun t k => XS.icmpYes X17.here hx rfl (pc0 := 164) (pc' := 171) rfl (hb hby at_164) rfl (feq hc164_29).2 (by decide) (by decide) k) ?_
                  show own_R p e below _ T17 (mkF m 171 #[.val (.int p0), .val (.int p1), .val (.int p2), .val (.int p3), .val (.int p4), .val (.int p5), .val (.int kk), .val (.int se), .val (.int yy), .val (.ref b11), .unset] [])
                  refine own_go (fun t k => XS.iconst X17.here hx rfl (hb hby at_171) k) ?_
                  show own_R p e below _ T17 (mkF m 172 #[.val (.int p0), .val (.int p1), .val (.int p2), .val (.int p3), .val (.int p4), .val (.int p5), .val (.int kk), .val (.int se), .val (.int yy), .val (.ref b11), .unset] [(.int (0 : Int32))])
                  have hv31 : (if yy = p0 ∨ yy = p1 ∨ (¬ (1 : Int32) < kk ∧ yy = p2) ∨ (kk = (0 : Int32) ∧ yy = p3) then (1 : Int32) else (0 : Int32)) = (0 : Int32) := by simp [hc135_20, hc141_22, hc147_24, hc153_26, hc158_28, hc164_29]
                  rw [hv31]
                  exact own_here X17 e17 N17
              · -- pc 158: no
                refine own_go (fun t k => XS.ifYes X17.here hx rfl (pc0 := 158) (pc' := 171) rfl (hb hby at_158) rfl ((if0 _ _).trans (feq hc158_28).2) (by decide) (by decide) k) ?_
                show own_R p e below _ T17 (mkF m 171 #[.val (.int p0), .val (.int p1), .val (.int p2), .val (.int p3), .val (.int p4), .val (.int p5), .val (.int kk), .val (.int se), .val (.int yy), .val (.ref b11), .unset] [])
                refine own_go (fun t k => XS.iconst X17.here hx rfl (hb hby at_171) k) ?_
                show own_R p e below _ T17 (mkF m 172 #[.val (.int p0), .val (.int p1), .val (.int p2), .val (.int p3), .val (.int p4), .val (.int p5), .val (.int kk), .val (.int se), .val (.int yy), .val (.ref b11), .unset] [(.int (0 : Int32))])
                have hv32 : (if yy = p0 ∨ yy = p1 ∨ (¬ (1 : Int32) < kk ∧ yy = p2) ∨ (kk = (0 : Int32) ∧ yy = p3) then (1 : Int32) else (0 : Int32)) = (0 : Int32) := by simp [hc135_20, hc141_22, hc147_24, hc153_26, hc158_28]
                rw [hv32]
                exact own_here X17 e17 N17
    refine own_go (fun t k => st19.trans k) ?_
    show own_R p e below _ T19 (mkF m 172 #[.val (.int p0), .val (.int p1), .val (.int p2), .val (.int p3), .val (.int p4), .val (.int p5), .val (.int kk), .val (.int se), .val (.int yy), .val (.ref b11), .unset] [(.int (if yy = p0 ∨ yy = p1 ∨ (¬ (1 : Int32) < kk ∧ yy = p2) ∨ (kk = (0 : Int32) ∧ yy = p3) then (1 : Int32) else (0 : Int32)))])
    refine own_go (fun t k => XS.istore X19.here hx rfl (hb hby at_172) rfl (l' := #[.val (.int p0), .val (.int p1), .val (.int p2), .val (.int p3), .val (.int p4), .val (.int p5), .val (.int kk), .val (.int se), .val (.int yy), .val (.ref b11), .val (.int (if yy = p0 ∨ yy = p1 ∨ (¬ (1 : Int32) < kk ∧ yy = p2) ∨ (kk = (0 : Int32) ∧ yy = p3) then (1 : Int32) else (0 : Int32)))]) rfl k) ?_
    show own_R p e below _ T19 (mkF m 174 #[.val (.int p0), .val (.int p1), .val (.int p2), .val (.int p3), .val (.int p4), .val (.int p5), .val (.int kk), .val (.int se), .val (.int yy), .val (.ref b11), .val (.int (if yy = p0 ∨ yy = p1 ∨ (¬ (1 : Int32) < kk ∧ yy = p2) ∨ (kk = (0 : Int32) ∧ yy = p3) then (1 : Int32) else (0 : Int32)))] [])
    refine own_go (fun t k => XS.aload X19.here hx rfl (hb hby at_174) rfl rfl  k) ?_
    show own_R p e below _ T19 (mkF m 176 #[.val (.int p0), .val (.int p1), .val (.int p2), .val (.int p3), .val (.int p4), .val (.int p5), .val (.int kk), .val (.int se), .val (.int yy), .val (.ref b11), .val (.int (if yy = p0 ∨ yy = p1 ∨ (¬ (1 : Int32) < kk ∧ yy = p2) ∨ (kk = (0 : Int32) ∧ yy = p3) then (1 : Int32) else (0 : Int32)))] [(.ref b11)])
    refine own_go (fun t k => XS.iload X19.here hx rfl (hb hby at_176) rfl  k) ?_
    show own_R p e below _ T19 (mkF m 178 #[.val (.int p0), .val (.int p1), .val (.int p2), .val (.int p3), .val (.int p4), .val (.int p5), .val (.int kk), .val (.int se), .val (.int yy), .val (.ref b11), .val (.int (if yy = p0 ∨ yy = p1 ∨ (¬ (1 : Int32) < kk ∧ yy = p2) ∨ (kk = (0 : Int32) ∧ yy = p3) then (1 : Int32) else (0 : Int32)))] [(.int yy), (.ref b11)])
    obtain ⟨cq33, kq33, q33a, q33b, q33c⟩ := isOf hZ e19 E17_a
    obtain ⟨_, _, ⟨T33, L33, k33, n33⟩, -, X33, ⟨Lc33, hQ33, l33, y33, z33⟩, st33⟩ := X19.virtualBack hx (y := (⟨"com/example/signetry/signetry/card/WordFrame", "holds", "(I)Z"⟩ : MethodName)) (z := (⟨"com/example/signetry/signetry/card/WordFrame", "holds", "(I)Z"⟩ : MethodName)) hown (mvT hZ (hw _ (List.mem_of_getElem? (i := 57) rfl))) (mvT hZ (hw _ (List.mem_of_getElem? (i := 58) rfl))) (notFace_of_selects (args := #[]) (mvT hZ (hw _ (List.mem_of_getElem? (i := 60) rfl)))) (mvT hZ (hw _ (List.mem_of_getElem? (i := 60) rfl))) (mvT hZ (hw _ (List.mem_of_getElem? (i := 59) rfl))) (by decide) (backOf (W := 0) (rmholds_4 l Z a0 hw [] b11 yy b13 kb13 p0 p1 p2 p3 h17 n0 (Nat.le_trans Z0 Kh.1) F17_a_words F17_a_localCount F17_a_maxStack F17_a_top F17_a_thisUninitialized F17_a_localsVersion E17_a V17_w) hZ (hw _ (List.mem_of_getElem? (i := 61) rfl)) (hw _ (List.mem_of_getElem? (i := 3) rfl)) (by decide) (by decide)) q33a q33c (g := (mkF m 178 #[.val (.int p0), .val (.int p1), .val (.int p2), .val (.int p3), .val (.int p4), .val (.int p5), .val (.int kk), .val (.int se), .val (.int yy), .val (.ref b11), .val (.int (if yy = p0 ∨ yy = p1 ∨ (¬ (1 : Int32) < kk ∧ yy = p2) ∨ (kk = (0 : Int32) ∧ yy = p3) then (1 : Int32) else (0 : Int32)))] [(.int yy), (.ref b11)])) rfl (by rw [hml]; rfl) (Steps.refl _) (argsL := [(.int yy)]) (rest := []) (lenOf pd_5 rfl) rfl (by show 2 * 0 + _ ≤ _; exact Nat.le_of_eq rfl) (hb hby at_178) (fun _ _ => ⟨rfl, e19, (by decide : 3 + 0 ≤ _), (by decide : 10 + 0 ≤ _)⟩)
    dsimp only [Pt.U, Pt.locs, Pt.cells, Pt.slots] at X33 l33 y33 z33 st33 hQ33
    subst l33 y33 z33
    obtain ⟨rfl, Nq33, e33⟩ := hQ33
    have N33 := Fr.app N19 Nq33
    refine own_go (fun t k => st33.trans k) ?_
    show own_R p e below _ T33 (mkF m 181 #[.val (.int p0), .val (.int p1), .val (.int p2), .val (.int p3), .val (.int p4), .val (.int p5), .val (.int kk), .val (.int se), .val (.int yy), .val (.ref b11), .val (.int (if yy = p0 ∨ yy = p1 ∨ (¬ (1 : Int32) < kk ∧ yy = p2) ∨ (kk = (0 : Int32) ∧ yy = p3) then (1 : Int32) else (0 : Int32)))] [(.int (if p0 = yy ∨ p1 = yy ∨ p2 = yy ∨ p3 = yy then (1 : Int32) else (0 : Int32)))])
    refine own_go (fun t k => XS.iload X33.here hx rfl (hb hby at_181) rfl  k) ?_
    show own_R p e below _ T33 (mkF m 183 #[.val (.int p0), .val (.int p1), .val (.int p2), .val (.int p3), .val (.int p4), .val (.int p5), .val (.int kk), .val (.int se), .val (.int yy), .val (.ref b11), .val (.int (if yy = p0 ∨ yy = p1 ∨ (¬ (1 : Int32) < kk ∧ yy = p2) ∨ (kk = (0 : Int32) ∧ yy = p3) then (1 : Int32) else (0 : Int32)))] [(.int (if yy = p0 ∨ yy = p1 ∨ (¬ (1 : Int32) < kk ∧ yy = p2) ∨ (kk = (0 : Int32) ∧ yy = p3) then (1 : Int32) else (0 : Int32))), (.int (if p0 = yy ∨ p1 = yy ∨ p2 = yy ∨ p3 = yy then (1 : Int32) else (0 : Int32)))])
    refine own_go (fun t k => XS.icmpNo X33.here hx rfl (hb hby at_183) rfl (teq (own_h4 _ _ _ _ _ _ hk0 hc111_18)).2 k) ?_
    show own_R p e below _ T33 (mkF m 186 #[.val (.int p0), .val (.int p1), .val (.int p2), .val (.int p3), .val (.int p4), .val (.int p5), .val (.int kk), .val (.int se), .val (.int yy), .val (.ref b11), .val (.int (if yy = p0 ∨ yy = p1 ∨ (¬ (1 : Int32) < kk ∧ yy = p2) ∨ (kk = (0 : Int32) ∧ yy = p3) then (1 : Int32) else (0 : Int32)))] [])
    refine own_go (fun t k => XS.iconst X33.here hx rfl (hb hby at_186) k) ?_
    show own_R p e below _ T33 (mkF m 187 #[.val (.int p0), .val (.int p1), .val (.int p2), .val (.int p3), .val (.int p4), .val (.int p5), .val (.int kk), .val (.int se), .val (.int yy), .val (.ref b11), .val (.int (if yy = p0 ∨ yy = p1 ∨ (¬ (1 : Int32) < kk ∧ yy = p2) ∨ (kk = (0 : Int32) ∧ yy = p3) then (1 : Int32) else (0 : Int32)))] [(.int (1 : Int32))])
    refine own_go (fun t k => XS.goto X33.here hx rfl (pc0 := 187) (pc' := 191) rfl (hb hby at_187) (by decide) (by decide) k) ?_
    show own_R p e below _ T33 (mkF m 191 #[.val (.int p0), .val (.int p1), .val (.int p2), .val (.int p3), .val (.int p4), .val (.int p5), .val (.int kk), .val (.int se), .val (.int yy), .val (.ref b11), .val (.int (if yy = p0 ∨ yy = p1 ∨ (¬ (1 : Int32) < kk ∧ yy = p2) ∨ (kk = (0 : Int32) ∧ yy = p3) then (1 : Int32) else (0 : Int32)))] [(.int (1 : Int32))])
    refine own_retN X33 hx Bd.returns (by simp) (BodyLoose.notSynchronized Bd) (hb hby at_191) (by decide) (by decide) ?_
    exact ⟨rfl, N33⟩
  · -- pc 111: no
    refine own_go (fun t k => XS.icmpNo X17.here hx rfl (hb hby at_111) rfl (flt hc111_18).1 k) ?_
    show own_R p e below _ T17 (mkF m 114 #[.val (.int p0), .val (.int p1), .val (.int p2), .val (.int p3), .val (.int p4), .val (.int p5), .val (.int kk), .val (.int se), .val (.int yy), .val (.ref b11), .unset] [])
    refine own_go (fun t k => XS.aload X17.here hx rfl (hb hby at_114) rfl rfl  k) ?_
    show own_R p e below _ T17 (mkF m 116 #[.val (.int p0), .val (.int p1), .val (.int p2), .val (.int p3), .val (.int p4), .val (.int p5), .val (.int kk), .val (.int se), .val (.int yy), .val (.ref b11), .unset] [(.ref b11)])
    obtain ⟨cq34, kq34, q34a, q34b, q34c⟩ := isOf hZ e17 E17_a
    obtain ⟨_, _, ⟨T34, L34, k34, n34⟩, -, X34, ⟨Lc34, hQ34, l34, y34, z34⟩, st34⟩ := X17.virtualBack hx (y := (⟨"com/example/signetry/signetry/card/WordFrame", "pop", "()I"⟩ : MethodName)) (z := (⟨"com/example/signetry/signetry/card/WordFrame", "pop", "()I"⟩ : MethodName)) hown (mvT hZ (hw _ (List.mem_of_getElem? (i := 62) rfl))) (mvT hZ (hw _ (List.mem_of_getElem? (i := 63) rfl))) (notFace_of_selects (args := #[]) (mvT hZ (hw _ (List.mem_of_getElem? (i := 65) rfl)))) (mvT hZ (hw _ (List.mem_of_getElem? (i := 65) rfl))) (mvT hZ (hw _ (List.mem_of_getElem? (i := 64) rfl))) (by decide) (backOf (W := 0) (rmpop_po4 l Z a0 hw [] b11 b13 kb13 p0 p1 p2 p3 h17 n0 (Nat.le_trans Z0 Kh.1) F17_a_words F17_a_localCount F17_a_maxStack F17_a_top F17_a_thisUninitialized F17_a_localsVersion E17_a V17_w g_b11 ne_b11_b13) hZ (hw _ (List.mem_of_getElem? (i := 66) rfl)) (hw _ (List.mem_of_getElem? (i := 3) rfl)) (by decide) (by decide)) q34a q34c (g := (mkF m 116 #[.val (.int p0), .val (.int p1), .val (.int p2), .val (.int p3), .val (.int p4), .val (.int p5), .val (.int kk), .val (.int se), .val (.int yy), .val (.ref b11), .unset] [(.ref b11)])) rfl (by rw [hml]; rfl) (Steps.refl _) (argsL := []) (rest := []) (lenOf pd_6 rfl) rfl (by show 2 * 0 + _ ≤ _; exact Nat.le_of_eq rfl) (hb hby at_116) (fun _ _ => ⟨rfl, e17, (by decide : 3 + 0 ≤ _), (by decide : 10 + 0 ≤ _)⟩)
    dsimp only [Pt.U, Pt.locs, Pt.cells, Pt.slots] at X34 l34 y34 z34 st34 hQ34
    subst l34 y34 z34
    obtain ⟨rfl, Nq34, K34, E34_a, F34_a_words, F34_a_localCount, F34_a_maxStack, F34_a_top, F34_a_thisUninitialized, F34_a_localsVersion⟩ := hQ34
    have N34 := Fr.app N17 Nq34
    obtain ⟨h34, e34⟩ : ∃ z, T34.heap = z := ⟨_, rfl⟩
    rw [e34] at K34 E34_a F34_a_words F34_a_localCount F34_a_maxStack F34_a_top F34_a_thisUninitialized F34_a_localsVersion
    replace V12_b := V12_b.keep K34 (ninS (Ne.symm ne_b11_b12) nin0)
    replace V17_w := V17_w.keep K34 (ninS (Ne.symm ne_b11_b13) nin0)
    replace Kh := Kh.trans K34 (allS (Or.inr sz_b11) all0)
    refine own_go (fun t k => st34.trans k) ?_
    show own_R p e below _ T34 (mkF m 119 #[.val (.int p0), .val (.int p1), .val (.int p2), .val (.int p3), .val (.int p4), .val (.int p5), .val (.int kk), .val (.int se), .val (.int yy), .val (.ref b11), .unset] [(.int p3)])
    refine own_go (fun t k => XS.pop X34.here hx rfl (hb hby at_119) rfl rfl k) ?_
    show own_R p e below _ T34 (mkF m 120 #[.val (.int p0), .val (.int p1), .val (.int p2), .val (.int p3), .val (.int p4), .val (.int p5), .val (.int kk), .val (.int se), .val (.int yy), .val (.ref b11), .unset] [])
    refine own_go (fun t k => XS.iload X34.here hx rfl (hb hby at_120) rfl  k) ?_
    show own_R p e below _ T34 (mkF m 122 #[.val (.int p0), .val (.int p1), .val (.int p2), .val (.int p3), .val (.int p4), .val (.int p5), .val (.int kk), .val (.int se), .val (.int yy), .val (.ref b11), .unset] [(.int kk)])
    refine own_go (fun t k => XS.iconst X34.here hx rfl (hb hby at_122) k) ?_
    show own_R p e below _ T34 (mkF m 123 #[.val (.int p0), .val (.int p1), .val (.int p2), .val (.int p3), .val (.int p4), .val (.int p5), .val (.int kk), .val (.int se), .val (.int yy), .val (.ref b11), .unset] [(.int (2 : Int32)), (.int kk)])
    by_cases hc123_35 : kk < (2 : Int32)
    · -- pc 123: yes
      refine own_go (fun t k => XS.icmpYes X34.here hx rfl (pc0 := 123) (pc' := 132) rfl (hb hby at_123) rfl (tlt hc123_35).1 (by decide) (by decide) k) ?_
      show own_R p e below _ T34 (mkF m 132 #[.val (.int p0), .val (.int p1), .val (.int p2), .val (.int p3), .val (.int p4), .val (.int p5), .val (.int kk), .val (.int se), .val (.int yy), .val (.ref b11), .unset] [])
      obtain ⟨_, st36, T36, L36, rfl, X36, e36, N36⟩ : own_R p e below (own_K p l e _ s m _ below meth c n0 3 10 (fun h => h = h34) (mkF m 172 #[.val (.int p0), .val (.int p1), .val (.int p2), .val (.int p3), .val (.int p4), .val (.int p5), .val (.int kk), .val (.int se), .val (.int yy), .val (.ref b11), .unset] [(.int (if yy = p0 ∨ yy = p1 ∨ (¬ (1 : Int32) < kk ∧ yy = p2) ∨ (kk = (0 : Int32) ∧ yy = p3) then (1 : Int32) else (0 : Int32)))])) T34 (mkF m 132 #[.val (.int p0), .val (.int p1), .val (.int p2), .val (.int p3), .val (.int p4), .val (.int p5), .val (.int kk), .val (.int se), .val (.int yy), .val (.ref b11), .unset] []) := by
        refine own_go (fun t k => XS.iload X34.here hx rfl (hb hby at_132) rfl  k) ?_
        show own_R p e below _ T34 (mkF m 134 #[.val (.int p0), .val (.int p1), .val (.int p2), .val (.int p3), .val (.int p4), .val (.int p5), .val (.int kk), .val (.int se), .val (.int yy), .val (.ref b11), .unset] [(.int yy)])
        refine own_go (fun t k => XS.iloadN X34.here hx rfl (hb hby at_134) rfl  k) ?_
        show own_R p e below _ T34 (mkF m 135 #[.val (.int p0), .val (.int p1), .val (.int p2), .val (.int p3), .val (.int p4), .val (.int p5), .val (.int kk), .val (.int se), .val (.int yy), .val (.ref b11), .unset] [(.int p0), (.int yy)])
        by_cases hc135_37 : yy = p0
        · -- pc 135: yes
          refine own_go (fun t k => XS.icmpYes X34.here hx rfl (pc0 := 135) (pc' := 167) rfl (hb hby at_135) rfl (teq hc135_37).1 (by decide) (by decide) k) ?_
          show own_R p e below _ T34 (mkF m 167 #[.val (.int p0), .val (.int p1), .val (.int p2), .val (.int p3), .val (.int p4), .val (.int p5), .val (.int kk), .val (.int se), .val (.int yy), .val (.ref b11), .unset] [])
          refine own_go (fun t k => XS.iconst X34.here hx rfl (hb hby at_167) k) ?_
          show own_R p e below _ T34 (mkF m 168 #[.val (.int p0), .val (.int p1), .val (.int p2), .val (.int p3), .val (.int p4), .val (.int p5), .val (.int kk), .val (.int se), .val (.int yy), .val (.ref b11), .unset] [(.int (1 : Int32))])
          refine own_go (fun t k => XS.goto X34.here hx rfl (pc0 := 168) (pc' := 172) rfl (hb hby at_168) (by decide) (by decide) k) ?_
          show own_R p e below _ T34 (mkF m 172 #[.val (.int p0), .val (.int p1), .val (.int p2), .val (.int p3), .val (.int p4), .val (.int p5), .val (.int kk), .val (.int se), .val (.int yy), .val (.ref b11), .unset] [(.int (1 : Int32))])
          have hv38 : (if yy = p0 ∨ yy = p1 ∨ (¬ (1 : Int32) < kk ∧ yy = p2) ∨ (kk = (0 : Int32) ∧ yy = p3) then (1 : Int32) else (0 : Int32)) = (1 : Int32) := by simp [hc135_37]
          rw [hv38]
          exact own_here X34 e34 N34
        · -- pc 135: no
          refine own_go (fun t k => XS.icmpNo X34.here hx rfl (hb hby at_135) rfl (feq hc135_37).1 k) ?_
          show own_R p e below _ T34 (mkF m 138 #[.val (.int p0), .val (.int p1), .val (.int p2), .val (.int p3), .val (.int p4), .val (.int p5), .val (.int kk), .val (.int se), .val (.int yy), .val (.ref b11), .unset] [])
          refine own_go (fun t k => XS.iload X34.here hx rfl (hb hby at_138) rfl  k) ?_
          show own_R p e below _ T34 (mkF m 140 #[.val (.int p0), .val (.int p1), .val (.int p2), .val (.int p3), .val (.int p4), .val (.int p5), .val (.int kk), .val (.int se), .val (.int yy), .val (.ref b11), .unset] [(.int yy)])
          refine own_go (fun t k => XS.iloadN X34.here hx rfl (hb hby at_140) rfl  k) ?_
          show own_R p e below _ T34 (mkF m 141 #[.val (.int p0), .val (.int p1), .val (.int p2), .val (.int p3), .val (.int p4), .val (.int p5), .val (.int kk), .val (.int se), .val (.int yy), .val (.ref b11), .unset] [(.int p1), (.int yy)])
          by_cases hc141_39 : yy = p1
          · -- pc 141: yes
            refine own_go (fun t k => XS.icmpYes X34.here hx rfl (pc0 := 141) (pc' := 167) rfl (hb hby at_141) rfl (teq hc141_39).1 (by decide) (by decide) k) ?_
            show own_R p e below _ T34 (mkF m 167 #[.val (.int p0), .val (.int p1), .val (.int p2), .val (.int p3), .val (.int p4), .val (.int p5), .val (.int kk), .val (.int se), .val (.int yy), .val (.ref b11), .unset] [])
            refine own_go (fun t k => XS.iconst X34.here hx rfl (hb hby at_167) k) ?_
            show own_R p e below _ T34 (mkF m 168 #[.val (.int p0), .val (.int p1), .val (.int p2), .val (.int p3), .val (.int p4), .val (.int p5), .val (.int kk), .val (.int se), .val (.int yy), .val (.ref b11), .unset] [(.int (1 : Int32))])
            refine own_go (fun t k => XS.goto X34.here hx rfl (pc0 := 168) (pc' := 172) rfl (hb hby at_168) (by decide) (by decide) k) ?_
            show own_R p e below _ T34 (mkF m 172 #[.val (.int p0), .val (.int p1), .val (.int p2), .val (.int p3), .val (.int p4), .val (.int p5), .val (.int kk), .val (.int se), .val (.int yy), .val (.ref b11), .unset] [(.int (1 : Int32))])
            have hv40 : (if yy = p0 ∨ yy = p1 ∨ (¬ (1 : Int32) < kk ∧ yy = p2) ∨ (kk = (0 : Int32) ∧ yy = p3) then (1 : Int32) else (0 : Int32)) = (1 : Int32) := by simp [hc135_37, hc141_39]
            rw [hv40]
            exact own_here X34 e34 N34
          · -- pc 141: no
            refine own_go (fun t k => XS.icmpNo X34.here hx rfl (hb hby at_141) rfl (feq hc141_39).1 k) ?_
            show own_R p e below _ T34 (mkF m 144 #[.val (.int p0), .val (.int p1), .val (.int p2), .val (.int p3), .val (.int p4), .val (.int p5), .val (.int kk), .val (.int se), .val (.int yy), .val (.ref b11), .unset] [])
            refine own_go (fun t k => XS.iload X34.here hx rfl (hb hby at_144) rfl  k) ?_
            show own_R p e below _ T34 (mkF m 146 #[.val (.int p0), .val (.int p1), .val (.int p2), .val (.int p3), .val (.int p4), .val (.int p5), .val (.int kk), .val (.int se), .val (.int yy), .val (.ref b11), .unset] [(.int kk)])
            refine own_go (fun t k => XS.iconst X34.here hx rfl (hb hby at_146) k) ?_
            show own_R p e below _ T34 (mkF m 147 #[.val (.int p0), .val (.int p1), .val (.int p2), .val (.int p3), .val (.int p4), .val (.int p5), .val (.int kk), .val (.int se), .val (.int yy), .val (.ref b11), .unset] [(.int (1 : Int32)), (.int kk)])
            by_cases hc147_41 : (1 : Int32) < kk
            · -- pc 147: yes
              refine own_go (fun t k => XS.icmpYes X34.here hx rfl (pc0 := 147) (pc' := 156) rfl (hb hby at_147) rfl (tlt hc147_41).2.2.1 (by decide) (by decide) k) ?_
              show own_R p e below _ T34 (mkF m 156 #[.val (.int p0), .val (.int p1), .val (.int p2), .val (.int p3), .val (.int p4), .val (.int p5), .val (.int kk), .val (.int se), .val (.int yy), .val (.ref b11), .unset] [])
              refine own_go (fun t k => XS.iload X34.here hx rfl (hb hby at_156) rfl  k) ?_
              show own_R p e below _ T34 (mkF m 158 #[.val (.int p0), .val (.int p1), .val (.int p2), .val (.int p3), .val (.int p4), .val (.int p5), .val (.int kk), .val (.int se), .val (.int yy), .val (.ref b11), .unset] [(.int kk)])
              refine own_go (fun t k => XS.ifYes X34.here hx rfl (pc0 := 158) (pc' := 171) rfl (hb hby at_158) rfl ((if0 _ _).trans (feq (own_n0 hc147_41)).2) (by decide) (by decide) k) ?_
              show own_R p e below _ T34 (mkF m 171 #[.val (.int p0), .val (.int p1), .val (.int p2), .val (.int p3), .val (.int p4), .val (.int p5), .val (.int kk), .val (.int se), .val (.int yy), .val (.ref b11), .unset] [])
              refine own_go (fun t k => XS.iconst X34.here hx rfl (hb hby at_171) k) ?_
              show own_R p e below _ T34 (mkF m 172 #[.val (.int p0), .val (.int p1), .val (.int p2), .val (.int p3), .val (.int p4), .val (.int p5), .val (.int kk), .val (.int se), .val (.int yy), .val (.ref b11), .unset] [(.int (0 : Int32))])
              have hv42 : (if yy = p0 ∨ yy = p1 ∨ (¬ (1 : Int32) < kk ∧ yy = p2) ∨ (kk = (0 : Int32) ∧ yy = p3) then (1 : Int32) else (0 : Int32)) = (0 : Int32) := by simp [hc135_37, hc141_39, hc147_41, own_n0 hc147_41]
              rw [hv42]
              exact own_here X34 e34 N34
            · -- pc 147: no
              refine own_go (fun t k => XS.icmpNo X34.here hx rfl (hb hby at_147) rfl (flt hc147_41).2.2.1 k) ?_
              show own_R p e below _ T34 (mkF m 150 #[.val (.int p0), .val (.int p1), .val (.int p2), .val (.int p3), .val (.int p4), .val (.int p5), .val (.int kk), .val (.int se), .val (.int yy), .val (.ref b11), .unset] [])
              refine own_go (fun t k => XS.iload X34.here hx rfl (hb hby at_150) rfl  k) ?_
              show own_R p e below _ T34 (mkF m 152 #[.val (.int p0), .val (.int p1), .val (.int p2), .val (.int p3), .val (.int p4), .val (.int p5), .val (.int kk), .val (.int se), .val (.int yy), .val (.ref b11), .unset] [(.int yy)])
              refine own_go (fun t k => XS.iloadN X34.here hx rfl (hb hby at_152) rfl  k) ?_
              show own_R p e below _ T34 (mkF m 153 #[.val (.int p0), .val (.int p1), .val (.int p2), .val (.int p3), .val (.int p4), .val (.int p5), .val (.int kk), .val (.int se), .val (.int yy), .val (.ref b11), .unset] [(.int p2), (.int yy)])
              by_cases hc153_43 : yy = p2
              · -- pc 153: yes
                refine own_go (fun t k => XS.icmpYes X34.here hx rfl (pc0 := 153) (pc' := 167) rfl (hb hby at_153) rfl (teq hc153_43).1 (by decide) (by decide) k) ?_
                show own_R p e below _ T34 (mkF m 167 #[.val (.int p0), .val (.int p1), .val (.int p2), .val (.int p3), .val (.int p4), .val (.int p5), .val (.int kk), .val (.int se), .val (.int yy), .val (.ref b11), .unset] [])
                refine own_go (fun t k => XS.iconst X34.here hx rfl (hb hby at_167) k) ?_
                show own_R p e below _ T34 (mkF m 168 #[.val (.int p0), .val (.int p1), .val (.int p2), .val (.int p3), .val (.int p4), .val (.int p5), .val (.int kk), .val (.int se), .val (.int yy), .val (.ref b11), .unset] [(.int (1 : Int32))])
                refine own_go (fun t k => XS.goto X34.here hx rfl (pc0 := 168) (pc' := 172) rfl (hb hby at_168) (by decide) (by decide) k) ?_
                show own_R p e below _ T34 (mkF m 172 #[.val (.int p0), .val (.int p1), .val (.int p2), .val (.int p3), .val (.int p4), .val (.int p5), .val (.int kk), .val (.int se), .val (.int yy), .val (.ref b11), .unset] [(.int (1 : Int32))])
                have hv44 : (if yy = p0 ∨ yy = p1 ∨ (¬ (1 : Int32) < kk ∧ yy = p2) ∨ (kk = (0 : Int32) ∧ yy = p3) then (1 : Int32) else (0 : Int32)) = (1 : Int32) := by simp [hc135_37, hc141_39, hc147_41, hc153_43]
                rw [hv44]
                exact own_here X34 e34 N34
              · -- pc 153: no
                refine own_go (fun t k => XS.icmpNo X34.here hx rfl (hb hby at_153) rfl (feq hc153_43).1 k) ?_
                show own_R p e below _ T34 (mkF m 156 #[.val (.int p0), .val (.int p1), .val (.int p2), .val (.int p3), .val (.int p4), .val (.int p5), .val (.int kk), .val (.int se), .val (.int yy), .val (.ref b11), .unset] [])
                refine own_go (fun t k => XS.iload X34.here hx rfl (hb hby at_156) rfl  k) ?_
                show own_R p e below _ T34 (mkF m 158 #[.val (.int p0), .val (.int p1), .val (.int p2), .val (.int p3), .val (.int p4), .val (.int p5), .val (.int kk), .val (.int se), .val (.int yy), .val (.ref b11), .unset] [(.int kk)])
                by_cases hc158_45 : kk = (0 : Int32)
                · -- pc 158: yes
                  refine own_go (fun t k => XS.ifNo X34.here hx rfl (hb hby at_158) rfl ((if0 _ _).trans (teq hc158_45).2) k) ?_
                  show own_R p e below _ T34 (mkF m 161 #[.val (.int p0), .val (.int p1), .val (.int p2), .val (.int p3), .val (.int p4), .val (.int p5), .val (.int kk), .val (.int se), .val (.int yy), .val (.ref b11), .unset] [])
                  refine own_go (fun t k => XS.iload X34.here hx rfl (hb hby at_161) rfl  k) ?_
                  show own_R p e below _ T34 (mkF m 163 #[.val (.int p0), .val (.int p1), .val (.int p2), .val (.int p3), .val (.int p4), .val (.int p5), .val (.int kk), .val (.int se), .val (.int yy), .val (.ref b11), .unset] [(.int yy)])
                  refine own_go (fun t k => XS.iloadN X34.here hx rfl (hb hby at_163) rfl  k) ?_
                  show own_R p e below _ T34 (mkF m 164 #[.val (.int p0), .val (.int p1), .val (.int p2), .val (.int p3), .val (.int p4), .val (.int p5), .val (.int kk), .val (.int se), .val (.int yy), .val (.ref b11), .unset] [(.int p3), (.int yy)])
                  by_cases hc164_46 : yy = p3
                  · -- pc 164: yes
                    refine own_go (fun t k => XS.icmpNo X34.here hx rfl (hb hby at_164) rfl (teq hc164_46).2 k) ?_
                    show own_R p e below _ T34 (mkF m 167 #[.val (.int p0), .val (.int p1), .val (.int p2), .val (.int p3), .val (.int p4), .val (.int p5), .val (.int kk), .val (.int se), .val (.int yy), .val (.ref b11), .unset] [])
                    refine own_go (fun t k => XS.iconst X34.here hx rfl (hb hby at_167) k) ?_
                    show own_R p e below _ T34 (mkF m 168 #[.val (.int p0), .val (.int p1), .val (.int p2), .val (.int p3), .val (.int p4), .val (.int p5), .val (.int kk), .val (.int se), .val (.int yy), .val (.ref b11), .unset] [(.int (1 : Int32))])
                    refine own_go (fun t k => XS.goto X34.here hx rfl (pc0 := 168) (pc' := 172) rfl (hb hby at_168) (by decide) (by decide) k) ?_
                    show own_R p e below _ T34 (mkF m 172 #[.val (.int p0), .val (.int p1), .val (.int p2), .val (.int p3), .val (.int p4), .val (.int p5), .val (.int kk), .val (.int se), .val (.int yy), .val (.ref b11), .unset] [(.int (1 : Int32))])
                    have hv47 : (if yy = p0 ∨ yy = p1 ∨ (¬ (1 : Int32) < kk ∧ yy = p2) ∨ (kk = (0 : Int32) ∧ yy = p3) then (1 : Int32) else (0 : Int32)) = (1 : Int32) := by simp [hc135_37, hc141_39, hc147_41, hc153_43, hc158_45, hc164_46]
                    rw [hv47]
                    exact own_here X34 e34 N34
                  · -- pc 164: no
                    refine own_go (fun t k => XS.icmpYes X34.here hx rfl (pc0 := 164) (pc' := 171) rfl (hb hby at_164) rfl (feq hc164_46).2 (by decide) (by decide) k) ?_
                    show own_R p e below _ T34 (mkF m 171 #[.val (.int p0), .val (.int p1), .val (.int p2), .val (.int p3), .val (.int p4), .val (.int p5), .val (.int kk), .val (.int se), .val (.int yy), .val (.ref b11), .unset] [])
                    refine own_go (fun t k => XS.iconst X34.here hx rfl (hb hby at_171) k) ?_
                    show own_R p e below _ T34 (mkF m 172 #[.val (.int p0), .val (.int p1), .val (.int p2), .val (.int p3), .val (.int p4), .val (.int p5), .val (.int kk), .val (.int se), .val (.int yy), .val (.ref b11), .unset] [(.int (0 : Int32))])
                    have hv48 : (if yy = p0 ∨ yy = p1 ∨ (¬ (1 : Int32) < kk ∧ yy = p2) ∨ (kk = (0 : Int32) ∧ yy = p3) then (1 : Int32) else (0 : Int32)) = (0 : Int32) := by simp [hc135_37, hc141_39, hc147_41, hc153_43, hc158_45, hc164_46]
                    rw [hv48]
                    exact own_here X34 e34 N34
                · -- pc 158: no
                  refine own_go (fun t k => XS.ifYes X34.here hx rfl (pc0 := 158) (pc' := 171) rfl (hb hby at_158) rfl ((if0 _ _).trans (feq hc158_45).2) (by decide) (by decide) k) ?_
                  show own_R p e below _ T34 (mkF m 171 #[.val (.int p0), .val (.int p1), .val (.int p2), .val (.int p3), .val (.int p4), .val (.int p5), .val (.int kk), .val (.int se), .val (.int yy), .val (.ref b11), .unset] [])
                  refine own_go (fun t k => XS.iconst X34.here hx rfl (hb hby at_171) k) ?_
                  show own_R p e below _ T34 (mkF m 172 #[.val (.int p0), .val (.int p1), .val (.int p2), .val (.int p3), .val (.int p4), .val (.int p5), .val (.int kk), .val (.int se), .val (.int yy), .val (.ref b11), .unset] [(.int (0 : Int32))])
                  have hv49 : (if yy = p0 ∨ yy = p1 ∨ (¬ (1 : Int32) < kk ∧ yy = p2) ∨ (kk = (0 : Int32) ∧ yy = p3) then (1 : Int32) else (0 : Int32)) = (0 : Int32) := by simp [hc135_37, hc141_39, hc147_41, hc153_43, hc158_45]
                  rw [hv49]
                  exact own_here X34 e34 N34
      refine own_go (fun t k => st36.trans k) ?_
      show own_R p e below _ T36 (mkF m 172 #[.val (.int p0), .val (.int p1), .val (.int p2), .val (.int p3), .val (.int p4), .val (.int p5), .val (.int kk), .val (.int se), .val (.int yy), .val (.ref b11), .unset] [(.int (if yy = p0 ∨ yy = p1 ∨ (¬ (1 : Int32) < kk ∧ yy = p2) ∨ (kk = (0 : Int32) ∧ yy = p3) then (1 : Int32) else (0 : Int32)))])
      refine own_go (fun t k => XS.istore X36.here hx rfl (hb hby at_172) rfl (l' := #[.val (.int p0), .val (.int p1), .val (.int p2), .val (.int p3), .val (.int p4), .val (.int p5), .val (.int kk), .val (.int se), .val (.int yy), .val (.ref b11), .val (.int (if yy = p0 ∨ yy = p1 ∨ (¬ (1 : Int32) < kk ∧ yy = p2) ∨ (kk = (0 : Int32) ∧ yy = p3) then (1 : Int32) else (0 : Int32)))]) rfl k) ?_
      show own_R p e below _ T36 (mkF m 174 #[.val (.int p0), .val (.int p1), .val (.int p2), .val (.int p3), .val (.int p4), .val (.int p5), .val (.int kk), .val (.int se), .val (.int yy), .val (.ref b11), .val (.int (if yy = p0 ∨ yy = p1 ∨ (¬ (1 : Int32) < kk ∧ yy = p2) ∨ (kk = (0 : Int32) ∧ yy = p3) then (1 : Int32) else (0 : Int32)))] [])
      refine own_go (fun t k => XS.aload X36.here hx rfl (hb hby at_174) rfl rfl  k) ?_
      show own_R p e below _ T36 (mkF m 176 #[.val (.int p0), .val (.int p1), .val (.int p2), .val (.int p3), .val (.int p4), .val (.int p5), .val (.int kk), .val (.int se), .val (.int yy), .val (.ref b11), .val (.int (if yy = p0 ∨ yy = p1 ∨ (¬ (1 : Int32) < kk ∧ yy = p2) ∨ (kk = (0 : Int32) ∧ yy = p3) then (1 : Int32) else (0 : Int32)))] [(.ref b11)])
      refine own_go (fun t k => XS.iload X36.here hx rfl (hb hby at_176) rfl  k) ?_
      show own_R p e below _ T36 (mkF m 178 #[.val (.int p0), .val (.int p1), .val (.int p2), .val (.int p3), .val (.int p4), .val (.int p5), .val (.int kk), .val (.int se), .val (.int yy), .val (.ref b11), .val (.int (if yy = p0 ∨ yy = p1 ∨ (¬ (1 : Int32) < kk ∧ yy = p2) ∨ (kk = (0 : Int32) ∧ yy = p3) then (1 : Int32) else (0 : Int32)))] [(.int yy), (.ref b11)])
      obtain ⟨cq50, kq50, q50a, q50b, q50c⟩ := isOf hZ e36 E34_a
      obtain ⟨_, _, ⟨T50, L50, k50, n50⟩, -, X50, ⟨Lc50, hQ50, l50, y50, z50⟩, st50⟩ := X36.virtualBack hx (y := (⟨"com/example/signetry/signetry/card/WordFrame", "holds", "(I)Z"⟩ : MethodName)) (z := (⟨"com/example/signetry/signetry/card/WordFrame", "holds", "(I)Z"⟩ : MethodName)) hown (mvT hZ (hw _ (List.mem_of_getElem? (i := 57) rfl))) (mvT hZ (hw _ (List.mem_of_getElem? (i := 58) rfl))) (notFace_of_selects (args := #[]) (mvT hZ (hw _ (List.mem_of_getElem? (i := 60) rfl)))) (mvT hZ (hw _ (List.mem_of_getElem? (i := 60) rfl))) (mvT hZ (hw _ (List.mem_of_getElem? (i := 59) rfl))) (by decide) (backOf (W := 0) (rmholds_3 l Z a0 hw [] b11 yy b13 kb13 p0 p1 p2 p3 h34 n0 (Nat.le_trans Z0 Kh.1) F34_a_words F34_a_localCount F34_a_maxStack F34_a_top F34_a_thisUninitialized F34_a_localsVersion E34_a V17_w) hZ (hw _ (List.mem_of_getElem? (i := 61) rfl)) (hw _ (List.mem_of_getElem? (i := 3) rfl)) (by decide) (by decide)) q50a q50c (g := (mkF m 178 #[.val (.int p0), .val (.int p1), .val (.int p2), .val (.int p3), .val (.int p4), .val (.int p5), .val (.int kk), .val (.int se), .val (.int yy), .val (.ref b11), .val (.int (if yy = p0 ∨ yy = p1 ∨ (¬ (1 : Int32) < kk ∧ yy = p2) ∨ (kk = (0 : Int32) ∧ yy = p3) then (1 : Int32) else (0 : Int32)))] [(.int yy), (.ref b11)])) rfl (by rw [hml]; rfl) (Steps.refl _) (argsL := [(.int yy)]) (rest := []) (lenOf pd_5 rfl) rfl (by show 2 * 0 + _ ≤ _; exact Nat.le_of_eq rfl) (hb hby at_178) (fun _ _ => ⟨rfl, e36, (by decide : 3 + 0 ≤ _), (by decide : 10 + 0 ≤ _)⟩)
      dsimp only [Pt.U, Pt.locs, Pt.cells, Pt.slots] at X50 l50 y50 z50 st50 hQ50
      subst l50 y50 z50
      obtain ⟨rfl, Nq50, e50⟩ := hQ50
      have N50 := Fr.app N36 Nq50
      refine own_go (fun t k => st50.trans k) ?_
      show own_R p e below _ T50 (mkF m 181 #[.val (.int p0), .val (.int p1), .val (.int p2), .val (.int p3), .val (.int p4), .val (.int p5), .val (.int kk), .val (.int se), .val (.int yy), .val (.ref b11), .val (.int (if yy = p0 ∨ yy = p1 ∨ (¬ (1 : Int32) < kk ∧ yy = p2) ∨ (kk = (0 : Int32) ∧ yy = p3) then (1 : Int32) else (0 : Int32)))] [(.int (if p0 = yy ∨ p1 = yy ∨ p2 = yy then (1 : Int32) else (0 : Int32)))])
      refine own_go (fun t k => XS.iload X50.here hx rfl (hb hby at_181) rfl  k) ?_
      show own_R p e below _ T50 (mkF m 183 #[.val (.int p0), .val (.int p1), .val (.int p2), .val (.int p3), .val (.int p4), .val (.int p5), .val (.int kk), .val (.int se), .val (.int yy), .val (.ref b11), .val (.int (if yy = p0 ∨ yy = p1 ∨ (¬ (1 : Int32) < kk ∧ yy = p2) ∨ (kk = (0 : Int32) ∧ yy = p3) then (1 : Int32) else (0 : Int32)))] [(.int (if yy = p0 ∨ yy = p1 ∨ (¬ (1 : Int32) < kk ∧ yy = p2) ∨ (kk = (0 : Int32) ∧ yy = p3) then (1 : Int32) else (0 : Int32))), (.int (if p0 = yy ∨ p1 = yy ∨ p2 = yy then (1 : Int32) else (0 : Int32)))])
      refine own_go (fun t k => XS.icmpNo X50.here hx rfl (hb hby at_183) rfl (teq (own_h3 _ _ _ _ _ _ hc111_18 hc123_35)).2 k) ?_
      show own_R p e below _ T50 (mkF m 186 #[.val (.int p0), .val (.int p1), .val (.int p2), .val (.int p3), .val (.int p4), .val (.int p5), .val (.int kk), .val (.int se), .val (.int yy), .val (.ref b11), .val (.int (if yy = p0 ∨ yy = p1 ∨ (¬ (1 : Int32) < kk ∧ yy = p2) ∨ (kk = (0 : Int32) ∧ yy = p3) then (1 : Int32) else (0 : Int32)))] [])
      refine own_go (fun t k => XS.iconst X50.here hx rfl (hb hby at_186) k) ?_
      show own_R p e below _ T50 (mkF m 187 #[.val (.int p0), .val (.int p1), .val (.int p2), .val (.int p3), .val (.int p4), .val (.int p5), .val (.int kk), .val (.int se), .val (.int yy), .val (.ref b11), .val (.int (if yy = p0 ∨ yy = p1 ∨ (¬ (1 : Int32) < kk ∧ yy = p2) ∨ (kk = (0 : Int32) ∧ yy = p3) then (1 : Int32) else (0 : Int32)))] [(.int (1 : Int32))])
      refine own_go (fun t k => XS.goto X50.here hx rfl (pc0 := 187) (pc' := 191) rfl (hb hby at_187) (by decide) (by decide) k) ?_
      show own_R p e below _ T50 (mkF m 191 #[.val (.int p0), .val (.int p1), .val (.int p2), .val (.int p3), .val (.int p4), .val (.int p5), .val (.int kk), .val (.int se), .val (.int yy), .val (.ref b11), .val (.int (if yy = p0 ∨ yy = p1 ∨ (¬ (1 : Int32) < kk ∧ yy = p2) ∨ (kk = (0 : Int32) ∧ yy = p3) then (1 : Int32) else (0 : Int32)))] [(.int (1 : Int32))])
      refine own_retN X50 hx Bd.returns (by simp) (BodyLoose.notSynchronized Bd) (hb hby at_191) (by decide) (by decide) ?_
      exact ⟨rfl, N50⟩
    · -- pc 123: no
      refine own_go (fun t k => XS.icmpNo X34.here hx rfl (hb hby at_123) rfl (flt hc123_35).1 k) ?_
      show own_R p e below _ T34 (mkF m 126 #[.val (.int p0), .val (.int p1), .val (.int p2), .val (.int p3), .val (.int p4), .val (.int p5), .val (.int kk), .val (.int se), .val (.int yy), .val (.ref b11), .unset] [])
      refine own_go (fun t k => XS.aload X34.here hx rfl (hb hby at_126) rfl rfl  k) ?_
      show own_R p e below _ T34 (mkF m 128 #[.val (.int p0), .val (.int p1), .val (.int p2), .val (.int p3), .val (.int p4), .val (.int p5), .val (.int kk), .val (.int se), .val (.int yy), .val (.ref b11), .unset] [(.ref b11)])
      obtain ⟨cq51, kq51, q51a, q51b, q51c⟩ := isOf hZ e34 E34_a
      obtain ⟨_, _, ⟨T51, L51, k51, n51⟩, -, X51, ⟨Lc51, hQ51, l51, y51, z51⟩, st51⟩ := X34.virtualBack hx (y := (⟨"com/example/signetry/signetry/card/WordFrame", "pop", "()I"⟩ : MethodName)) (z := (⟨"com/example/signetry/signetry/card/WordFrame", "pop", "()I"⟩ : MethodName)) hown (mvT hZ (hw _ (List.mem_of_getElem? (i := 62) rfl))) (mvT hZ (hw _ (List.mem_of_getElem? (i := 63) rfl))) (notFace_of_selects (args := #[]) (mvT hZ (hw _ (List.mem_of_getElem? (i := 65) rfl)))) (mvT hZ (hw _ (List.mem_of_getElem? (i := 65) rfl))) (mvT hZ (hw _ (List.mem_of_getElem? (i := 64) rfl))) (by decide) (backOf (W := 0) (rmpop_po3 l Z a0 hw [] b11 b13 kb13 p0 p1 p2 p3 h34 n0 (Nat.le_trans Z0 Kh.1) F34_a_words F34_a_localCount F34_a_maxStack F34_a_top F34_a_thisUninitialized F34_a_localsVersion E34_a V17_w g_b11 ne_b11_b13) hZ (hw _ (List.mem_of_getElem? (i := 66) rfl)) (hw _ (List.mem_of_getElem? (i := 3) rfl)) (by decide) (by decide)) q51a q51c (g := (mkF m 128 #[.val (.int p0), .val (.int p1), .val (.int p2), .val (.int p3), .val (.int p4), .val (.int p5), .val (.int kk), .val (.int se), .val (.int yy), .val (.ref b11), .unset] [(.ref b11)])) rfl (by rw [hml]; rfl) (Steps.refl _) (argsL := []) (rest := []) (lenOf pd_6 rfl) rfl (by show 2 * 0 + _ ≤ _; exact Nat.le_of_eq rfl) (hb hby at_128) (fun _ _ => ⟨rfl, e34, (by decide : 3 + 0 ≤ _), (by decide : 10 + 0 ≤ _)⟩)
      dsimp only [Pt.U, Pt.locs, Pt.cells, Pt.slots] at X51 l51 y51 z51 st51 hQ51
      subst l51 y51 z51
      obtain ⟨rfl, Nq51, K51, E51_a, F51_a_words, F51_a_localCount, F51_a_maxStack, F51_a_top, F51_a_thisUninitialized, F51_a_localsVersion⟩ := hQ51
      have N51 := Fr.app N34 Nq51
      obtain ⟨h51, e51⟩ : ∃ z, T51.heap = z := ⟨_, rfl⟩
      rw [e51] at K51 E51_a F51_a_words F51_a_localCount F51_a_maxStack F51_a_top F51_a_thisUninitialized F51_a_localsVersion
      replace V12_b := V12_b.keep K51 (ninS (Ne.symm ne_b11_b12) nin0)
      replace V17_w := V17_w.keep K51 (ninS (Ne.symm ne_b11_b13) nin0)
      replace Kh := Kh.trans K51 (allS (Or.inr sz_b11) all0)
      refine own_go (fun t k => st51.trans k) ?_
      show own_R p e below _ T51 (mkF m 131 #[.val (.int p0), .val (.int p1), .val (.int p2), .val (.int p3), .val (.int p4), .val (.int p5), .val (.int kk), .val (.int se), .val (.int yy), .val (.ref b11), .unset] [(.int p2)])
      refine own_go (fun t k => XS.pop X51.here hx rfl (hb hby at_131) rfl rfl k) ?_
      show own_R p e below _ T51 (mkF m 132 #[.val (.int p0), .val (.int p1), .val (.int p2), .val (.int p3), .val (.int p4), .val (.int p5), .val (.int kk), .val (.int se), .val (.int yy), .val (.ref b11), .unset] [])
      obtain ⟨_, st52, T52, L52, rfl, X52, e52, N52⟩ : own_R p e below (own_K p l e _ s m _ below meth c n0 3 10 (fun h => h = h51) (mkF m 172 #[.val (.int p0), .val (.int p1), .val (.int p2), .val (.int p3), .val (.int p4), .val (.int p5), .val (.int kk), .val (.int se), .val (.int yy), .val (.ref b11), .unset] [(.int (if yy = p0 ∨ yy = p1 ∨ (¬ (1 : Int32) < kk ∧ yy = p2) ∨ (kk = (0 : Int32) ∧ yy = p3) then (1 : Int32) else (0 : Int32)))])) T51 (mkF m 132 #[.val (.int p0), .val (.int p1), .val (.int p2), .val (.int p3), .val (.int p4), .val (.int p5), .val (.int kk), .val (.int se), .val (.int yy), .val (.ref b11), .unset] []) := by
        refine own_go (fun t k => XS.iload X51.here hx rfl (hb hby at_132) rfl  k) ?_
        show own_R p e below _ T51 (mkF m 134 #[.val (.int p0), .val (.int p1), .val (.int p2), .val (.int p3), .val (.int p4), .val (.int p5), .val (.int kk), .val (.int se), .val (.int yy), .val (.ref b11), .unset] [(.int yy)])
        refine own_go (fun t k => XS.iloadN X51.here hx rfl (hb hby at_134) rfl  k) ?_
        show own_R p e below _ T51 (mkF m 135 #[.val (.int p0), .val (.int p1), .val (.int p2), .val (.int p3), .val (.int p4), .val (.int p5), .val (.int kk), .val (.int se), .val (.int yy), .val (.ref b11), .unset] [(.int p0), (.int yy)])
        by_cases hc135_53 : yy = p0
        · -- pc 135: yes
          refine own_go (fun t k => XS.icmpYes X51.here hx rfl (pc0 := 135) (pc' := 167) rfl (hb hby at_135) rfl (teq hc135_53).1 (by decide) (by decide) k) ?_
          show own_R p e below _ T51 (mkF m 167 #[.val (.int p0), .val (.int p1), .val (.int p2), .val (.int p3), .val (.int p4), .val (.int p5), .val (.int kk), .val (.int se), .val (.int yy), .val (.ref b11), .unset] [])
          refine own_go (fun t k => XS.iconst X51.here hx rfl (hb hby at_167) k) ?_
          show own_R p e below _ T51 (mkF m 168 #[.val (.int p0), .val (.int p1), .val (.int p2), .val (.int p3), .val (.int p4), .val (.int p5), .val (.int kk), .val (.int se), .val (.int yy), .val (.ref b11), .unset] [(.int (1 : Int32))])
          refine own_go (fun t k => XS.goto X51.here hx rfl (pc0 := 168) (pc' := 172) rfl (hb hby at_168) (by decide) (by decide) k) ?_
          show own_R p e below _ T51 (mkF m 172 #[.val (.int p0), .val (.int p1), .val (.int p2), .val (.int p3), .val (.int p4), .val (.int p5), .val (.int kk), .val (.int se), .val (.int yy), .val (.ref b11), .unset] [(.int (1 : Int32))])
          have hv54 : (if yy = p0 ∨ yy = p1 ∨ (¬ (1 : Int32) < kk ∧ yy = p2) ∨ (kk = (0 : Int32) ∧ yy = p3) then (1 : Int32) else (0 : Int32)) = (1 : Int32) := by simp [hc135_53]
          rw [hv54]
          exact own_here X51 e51 N51
        · -- pc 135: no
          refine own_go (fun t k => XS.icmpNo X51.here hx rfl (hb hby at_135) rfl (feq hc135_53).1 k) ?_
          show own_R p e below _ T51 (mkF m 138 #[.val (.int p0), .val (.int p1), .val (.int p2), .val (.int p3), .val (.int p4), .val (.int p5), .val (.int kk), .val (.int se), .val (.int yy), .val (.ref b11), .unset] [])
          refine own_go (fun t k => XS.iload X51.here hx rfl (hb hby at_138) rfl  k) ?_
          show own_R p e below _ T51 (mkF m 140 #[.val (.int p0), .val (.int p1), .val (.int p2), .val (.int p3), .val (.int p4), .val (.int p5), .val (.int kk), .val (.int se), .val (.int yy), .val (.ref b11), .unset] [(.int yy)])
          refine own_go (fun t k => XS.iloadN X51.here hx rfl (hb hby at_140) rfl  k) ?_
          show own_R p e below _ T51 (mkF m 141 #[.val (.int p0), .val (.int p1), .val (.int p2), .val (.int p3), .val (.int p4), .val (.int p5), .val (.int kk), .val (.int se), .val (.int yy), .val (.ref b11), .unset] [(.int p1), (.int yy)])
          by_cases hc141_55 : yy = p1
          · -- pc 141: yes
            refine own_go (fun t k => XS.icmpYes X51.here hx rfl (pc0 := 141) (pc' := 167) rfl (hb hby at_141) rfl (teq hc141_55).1 (by decide) (by decide) k) ?_
            show own_R p e below _ T51 (mkF m 167 #[.val (.int p0), .val (.int p1), .val (.int p2), .val (.int p3), .val (.int p4), .val (.int p5), .val (.int kk), .val (.int se), .val (.int yy), .val (.ref b11), .unset] [])
            refine own_go (fun t k => XS.iconst X51.here hx rfl (hb hby at_167) k) ?_
            show own_R p e below _ T51 (mkF m 168 #[.val (.int p0), .val (.int p1), .val (.int p2), .val (.int p3), .val (.int p4), .val (.int p5), .val (.int kk), .val (.int se), .val (.int yy), .val (.ref b11), .unset] [(.int (1 : Int32))])
            refine own_go (fun t k => XS.goto X51.here hx rfl (pc0 := 168) (pc' := 172) rfl (hb hby at_168) (by decide) (by decide) k) ?_
            show own_R p e below _ T51 (mkF m 172 #[.val (.int p0), .val (.int p1), .val (.int p2), .val (.int p3), .val (.int p4), .val (.int p5), .val (.int kk), .val (.int se), .val (.int yy), .val (.ref b11), .unset] [(.int (1 : Int32))])
            have hv56 : (if yy = p0 ∨ yy = p1 ∨ (¬ (1 : Int32) < kk ∧ yy = p2) ∨ (kk = (0 : Int32) ∧ yy = p3) then (1 : Int32) else (0 : Int32)) = (1 : Int32) := by simp [hc135_53, hc141_55]
            rw [hv56]
            exact own_here X51 e51 N51
          · -- pc 141: no
            refine own_go (fun t k => XS.icmpNo X51.here hx rfl (hb hby at_141) rfl (feq hc141_55).1 k) ?_
            show own_R p e below _ T51 (mkF m 144 #[.val (.int p0), .val (.int p1), .val (.int p2), .val (.int p3), .val (.int p4), .val (.int p5), .val (.int kk), .val (.int se), .val (.int yy), .val (.ref b11), .unset] [])
            refine own_go (fun t k => XS.iload X51.here hx rfl (hb hby at_144) rfl  k) ?_
            show own_R p e below _ T51 (mkF m 146 #[.val (.int p0), .val (.int p1), .val (.int p2), .val (.int p3), .val (.int p4), .val (.int p5), .val (.int kk), .val (.int se), .val (.int yy), .val (.ref b11), .unset] [(.int kk)])
            refine own_go (fun t k => XS.iconst X51.here hx rfl (hb hby at_146) k) ?_
            show own_R p e below _ T51 (mkF m 147 #[.val (.int p0), .val (.int p1), .val (.int p2), .val (.int p3), .val (.int p4), .val (.int p5), .val (.int kk), .val (.int se), .val (.int yy), .val (.ref b11), .unset] [(.int (1 : Int32)), (.int kk)])
            by_cases hc147_57 : (1 : Int32) < kk
            · -- pc 147: yes
              refine own_go (fun t k => XS.icmpYes X51.here hx rfl (pc0 := 147) (pc' := 156) rfl (hb hby at_147) rfl (tlt hc147_57).2.2.1 (by decide) (by decide) k) ?_
              show own_R p e below _ T51 (mkF m 156 #[.val (.int p0), .val (.int p1), .val (.int p2), .val (.int p3), .val (.int p4), .val (.int p5), .val (.int kk), .val (.int se), .val (.int yy), .val (.ref b11), .unset] [])
              refine own_go (fun t k => XS.iload X51.here hx rfl (hb hby at_156) rfl  k) ?_
              show own_R p e below _ T51 (mkF m 158 #[.val (.int p0), .val (.int p1), .val (.int p2), .val (.int p3), .val (.int p4), .val (.int p5), .val (.int kk), .val (.int se), .val (.int yy), .val (.ref b11), .unset] [(.int kk)])
              refine own_go (fun t k => XS.ifYes X51.here hx rfl (pc0 := 158) (pc' := 171) rfl (hb hby at_158) rfl ((if0 _ _).trans (feq (own_n0 hc147_57)).2) (by decide) (by decide) k) ?_
              show own_R p e below _ T51 (mkF m 171 #[.val (.int p0), .val (.int p1), .val (.int p2), .val (.int p3), .val (.int p4), .val (.int p5), .val (.int kk), .val (.int se), .val (.int yy), .val (.ref b11), .unset] [])
              refine own_go (fun t k => XS.iconst X51.here hx rfl (hb hby at_171) k) ?_
              show own_R p e below _ T51 (mkF m 172 #[.val (.int p0), .val (.int p1), .val (.int p2), .val (.int p3), .val (.int p4), .val (.int p5), .val (.int kk), .val (.int se), .val (.int yy), .val (.ref b11), .unset] [(.int (0 : Int32))])
              have hv58 : (if yy = p0 ∨ yy = p1 ∨ (¬ (1 : Int32) < kk ∧ yy = p2) ∨ (kk = (0 : Int32) ∧ yy = p3) then (1 : Int32) else (0 : Int32)) = (0 : Int32) := by simp [hc135_53, hc141_55, hc147_57, own_n0 hc147_57]
              rw [hv58]
              exact own_here X51 e51 N51
            · -- pc 147: no
              refine own_go (fun t k => XS.icmpNo X51.here hx rfl (hb hby at_147) rfl (flt hc147_57).2.2.1 k) ?_
              show own_R p e below _ T51 (mkF m 150 #[.val (.int p0), .val (.int p1), .val (.int p2), .val (.int p3), .val (.int p4), .val (.int p5), .val (.int kk), .val (.int se), .val (.int yy), .val (.ref b11), .unset] [])
              refine own_go (fun t k => XS.iload X51.here hx rfl (hb hby at_150) rfl  k) ?_
              show own_R p e below _ T51 (mkF m 152 #[.val (.int p0), .val (.int p1), .val (.int p2), .val (.int p3), .val (.int p4), .val (.int p5), .val (.int kk), .val (.int se), .val (.int yy), .val (.ref b11), .unset] [(.int yy)])
              refine own_go (fun t k => XS.iloadN X51.here hx rfl (hb hby at_152) rfl  k) ?_
              show own_R p e below _ T51 (mkF m 153 #[.val (.int p0), .val (.int p1), .val (.int p2), .val (.int p3), .val (.int p4), .val (.int p5), .val (.int kk), .val (.int se), .val (.int yy), .val (.ref b11), .unset] [(.int p2), (.int yy)])
              by_cases hc153_59 : yy = p2
              · -- pc 153: yes
                refine own_go (fun t k => XS.icmpYes X51.here hx rfl (pc0 := 153) (pc' := 167) rfl (hb hby at_153) rfl (teq hc153_59).1 (by decide) (by decide) k) ?_
                show own_R p e below _ T51 (mkF m 167 #[.val (.int p0), .val (.int p1), .val (.int p2), .val (.int p3), .val (.int p4), .val (.int p5), .val (.int kk), .val (.int se), .val (.int yy), .val (.ref b11), .unset] [])
                refine own_go (fun t k => XS.iconst X51.here hx rfl (hb hby at_167) k) ?_
                show own_R p e below _ T51 (mkF m 168 #[.val (.int p0), .val (.int p1), .val (.int p2), .val (.int p3), .val (.int p4), .val (.int p5), .val (.int kk), .val (.int se), .val (.int yy), .val (.ref b11), .unset] [(.int (1 : Int32))])
                refine own_go (fun t k => XS.goto X51.here hx rfl (pc0 := 168) (pc' := 172) rfl (hb hby at_168) (by decide) (by decide) k) ?_
                show own_R p e below _ T51 (mkF m 172 #[.val (.int p0), .val (.int p1), .val (.int p2), .val (.int p3), .val (.int p4), .val (.int p5), .val (.int kk), .val (.int se), .val (.int yy), .val (.ref b11), .unset] [(.int (1 : Int32))])
                have hv60 : (if yy = p0 ∨ yy = p1 ∨ (¬ (1 : Int32) < kk ∧ yy = p2) ∨ (kk = (0 : Int32) ∧ yy = p3) then (1 : Int32) else (0 : Int32)) = (1 : Int32) := by simp [hc135_53, hc141_55, hc147_57, hc153_59]
                rw [hv60]
                exact own_here X51 e51 N51
              · -- pc 153: no
                refine own_go (fun t k => XS.icmpNo X51.here hx rfl (hb hby at_153) rfl (feq hc153_59).1 k) ?_
                show own_R p e below _ T51 (mkF m 156 #[.val (.int p0), .val (.int p1), .val (.int p2), .val (.int p3), .val (.int p4), .val (.int p5), .val (.int kk), .val (.int se), .val (.int yy), .val (.ref b11), .unset] [])
                refine own_go (fun t k => XS.iload X51.here hx rfl (hb hby at_156) rfl  k) ?_
                show own_R p e below _ T51 (mkF m 158 #[.val (.int p0), .val (.int p1), .val (.int p2), .val (.int p3), .val (.int p4), .val (.int p5), .val (.int kk), .val (.int se), .val (.int yy), .val (.ref b11), .unset] [(.int kk)])
                by_cases hc158_61 : kk = (0 : Int32)
                · -- pc 158: yes
                  refine own_go (fun t k => XS.ifNo X51.here hx rfl (hb hby at_158) rfl ((if0 _ _).trans (teq hc158_61).2) k) ?_
                  show own_R p e below _ T51 (mkF m 161 #[.val (.int p0), .val (.int p1), .val (.int p2), .val (.int p3), .val (.int p4), .val (.int p5), .val (.int kk), .val (.int se), .val (.int yy), .val (.ref b11), .unset] [])
                  refine own_go (fun t k => XS.iload X51.here hx rfl (hb hby at_161) rfl  k) ?_
                  show own_R p e below _ T51 (mkF m 163 #[.val (.int p0), .val (.int p1), .val (.int p2), .val (.int p3), .val (.int p4), .val (.int p5), .val (.int kk), .val (.int se), .val (.int yy), .val (.ref b11), .unset] [(.int yy)])
                  refine own_go (fun t k => XS.iloadN X51.here hx rfl (hb hby at_163) rfl  k) ?_
                  show own_R p e below _ T51 (mkF m 164 #[.val (.int p0), .val (.int p1), .val (.int p2), .val (.int p3), .val (.int p4), .val (.int p5), .val (.int kk), .val (.int se), .val (.int yy), .val (.ref b11), .unset] [(.int p3), (.int yy)])
                  by_cases hc164_62 : yy = p3
                  · -- pc 164: yes
                    refine own_go (fun t k => XS.icmpNo X51.here hx rfl (hb hby at_164) rfl (teq hc164_62).2 k) ?_
                    show own_R p e below _ T51 (mkF m 167 #[.val (.int p0), .val (.int p1), .val (.int p2), .val (.int p3), .val (.int p4), .val (.int p5), .val (.int kk), .val (.int se), .val (.int yy), .val (.ref b11), .unset] [])
                    refine own_go (fun t k => XS.iconst X51.here hx rfl (hb hby at_167) k) ?_
                    show own_R p e below _ T51 (mkF m 168 #[.val (.int p0), .val (.int p1), .val (.int p2), .val (.int p3), .val (.int p4), .val (.int p5), .val (.int kk), .val (.int se), .val (.int yy), .val (.ref b11), .unset] [(.int (1 : Int32))])
                    refine own_go (fun t k => XS.goto X51.here hx rfl (pc0 := 168) (pc' := 172) rfl (hb hby at_168) (by decide) (by decide) k) ?_
                    show own_R p e below _ T51 (mkF m 172 #[.val (.int p0), .val (.int p1), .val (.int p2), .val (.int p3), .val (.int p4), .val (.int p5), .val (.int kk), .val (.int se), .val (.int yy), .val (.ref b11), .unset] [(.int (1 : Int32))])
                    have hv63 : (if yy = p0 ∨ yy = p1 ∨ (¬ (1 : Int32) < kk ∧ yy = p2) ∨ (kk = (0 : Int32) ∧ yy = p3) then (1 : Int32) else (0 : Int32)) = (1 : Int32) := by simp [hc135_53, hc141_55, hc147_57, hc153_59, hc158_61, hc164_62]
                    rw [hv63]
                    exact own_here X51 e51 N51
                  · -- pc 164: no
                    refine own_go (fun t k => XS.icmpYes X51.here hx rfl (pc0 := 164) (pc' := 171) rfl (hb hby at_164) rfl (feq hc164_62).2 (by decide) (by decide) k) ?_
                    show own_R p e below _ T51 (mkF m 171 #[.val (.int p0), .val (.int p1), .val (.int p2), .val (.int p3), .val (.int p4), .val (.int p5), .val (.int kk), .val (.int se), .val (.int yy), .val (.ref b11), .unset] [])
                    refine own_go (fun t k => XS.iconst X51.here hx rfl (hb hby at_171) k) ?_
                    show own_R p e below _ T51 (mkF m 172 #[.val (.int p0), .val (.int p1), .val (.int p2), .val (.int p3), .val (.int p4), .val (.int p5), .val (.int kk), .val (.int se), .val (.int yy), .val (.ref b11), .unset] [(.int (0 : Int32))])
                    have hv64 : (if yy = p0 ∨ yy = p1 ∨ (¬ (1 : Int32) < kk ∧ yy = p2) ∨ (kk = (0 : Int32) ∧ yy = p3) then (1 : Int32) else (0 : Int32)) = (0 : Int32) := by simp [hc135_53, hc141_55, hc147_57, hc153_59, hc158_61, hc164_62]
                    rw [hv64]
                    exact own_here X51 e51 N51
                · -- pc 158: no
                  refine own_go (fun t k => XS.ifYes X51.here hx rfl (pc0 := 158) (pc' := 171) rfl (hb hby at_158) rfl ((if0 _ _).trans (feq hc158_61).2) (by decide) (by decide) k) ?_
                  show own_R p e below _ T51 (mkF m 171 #[.val (.int p0), .val (.int p1), .val (.int p2), .val (.int p3), .val (.int p4), .val (.int p5), .val (.int kk), .val (.int se), .val (.int yy), .val (.ref b11), .unset] [])
                  refine own_go (fun t k => XS.iconst X51.here hx rfl (hb hby at_171) k) ?_
                  show own_R p e below _ T51 (mkF m 172 #[.val (.int p0), .val (.int p1), .val (.int p2), .val (.int p3), .val (.int p4), .val (.int p5), .val (.int kk), .val (.int se), .val (.int yy), .val (.ref b11), .unset] [(.int (0 : Int32))])
                  have hv65 : (if yy = p0 ∨ yy = p1 ∨ (¬ (1 : Int32) < kk ∧ yy = p2) ∨ (kk = (0 : Int32) ∧ yy = p3) then (1 : Int32) else (0 : Int32)) = (0 : Int32) := by simp [hc135_53, hc141_55, hc147_57, hc153_59, hc158_61]
                  rw [hv65]
                  exact own_here X51 e51 N51
      refine own_go (fun t k => st52.trans k) ?_
      show own_R p e below _ T52 (mkF m 172 #[.val (.int p0), .val (.int p1), .val (.int p2), .val (.int p3), .val (.int p4), .val (.int p5), .val (.int kk), .val (.int se), .val (.int yy), .val (.ref b11), .unset] [(.int (if yy = p0 ∨ yy = p1 ∨ (¬ (1 : Int32) < kk ∧ yy = p2) ∨ (kk = (0 : Int32) ∧ yy = p3) then (1 : Int32) else (0 : Int32)))])
      refine own_go (fun t k => XS.istore X52.here hx rfl (hb hby at_172) rfl (l' := #[.val (.int p0), .val (.int p1), .val (.int p2), .val (.int p3), .val (.int p4), .val (.int p5), .val (.int kk), .val (.int se), .val (.int yy), .val (.ref b11), .val (.int (if yy = p0 ∨ yy = p1 ∨ (¬ (1 : Int32) < kk ∧ yy = p2) ∨ (kk = (0 : Int32) ∧ yy = p3) then (1 : Int32) else (0 : Int32)))]) rfl k) ?_
      show own_R p e below _ T52 (mkF m 174 #[.val (.int p0), .val (.int p1), .val (.int p2), .val (.int p3), .val (.int p4), .val (.int p5), .val (.int kk), .val (.int se), .val (.int yy), .val (.ref b11), .val (.int (if yy = p0 ∨ yy = p1 ∨ (¬ (1 : Int32) < kk ∧ yy = p2) ∨ (kk = (0 : Int32) ∧ yy = p3) then (1 : Int32) else (0 : Int32)))] [])
      refine own_go (fun t k => XS.aload X52.here hx rfl (hb hby at_174) rfl rfl  k) ?_
      show own_R p e below _ T52 (mkF m 176 #[.val (.int p0), .val (.int p1), .val (.int p2), .val (.int p3), .val (.int p4), .val (.int p5), .val (.int kk), .val (.int se), .val (.int yy), .val (.ref b11), .val (.int (if yy = p0 ∨ yy = p1 ∨ (¬ (1 : Int32) < kk ∧ yy = p2) ∨ (kk = (0 : Int32) ∧ yy = p3) then (1 : Int32) else (0 : Int32)))] [(.ref b11)])
      refine own_go (fun t k => XS.iload X52.here hx rfl (hb hby at_176) rfl  k) ?_
      show own_R p e below _ T52 (mkF m 178 #[.val (.int p0), .val (.int p1), .val (.int p2), .val (.int p3), .val (.int p4), .val (.int p5), .val (.int kk), .val (.int se), .val (.int yy), .val (.ref b11), .val (.int (if yy = p0 ∨ yy = p1 ∨ (¬ (1 : Int32) < kk ∧ yy = p2) ∨ (kk = (0 : Int32) ∧ yy = p3) then (1 : Int32) else (0 : Int32)))] [(.int yy), (.ref b11)])
      obtain ⟨cq66, kq66, q66a, q66b, q66c⟩ := isOf hZ e52 E51_a
      obtain ⟨_, _, ⟨T66, L66, k66, n66⟩, -, X66, ⟨Lc66, hQ66, l66, y66, z66⟩, st66⟩ := X52.virtualBack hx (y := (⟨"com/example/signetry/signetry/card/WordFrame", "holds", "(I)Z"⟩ : MethodName)) (z := (⟨"com/example/signetry/signetry/card/WordFrame", "holds", "(I)Z"⟩ : MethodName)) hown (mvT hZ (hw _ (List.mem_of_getElem? (i := 57) rfl))) (mvT hZ (hw _ (List.mem_of_getElem? (i := 58) rfl))) (notFace_of_selects (args := #[]) (mvT hZ (hw _ (List.mem_of_getElem? (i := 60) rfl)))) (mvT hZ (hw _ (List.mem_of_getElem? (i := 60) rfl))) (mvT hZ (hw _ (List.mem_of_getElem? (i := 59) rfl))) (by decide) (backOf (W := 0) (rmholds_2 l Z a0 hw [] b11 yy b13 kb13 p0 p1 p2 p3 h51 n0 (Nat.le_trans Z0 Kh.1) F51_a_words F51_a_localCount F51_a_maxStack F51_a_top F51_a_thisUninitialized F51_a_localsVersion E51_a V17_w) hZ (hw _ (List.mem_of_getElem? (i := 61) rfl)) (hw _ (List.mem_of_getElem? (i := 3) rfl)) (by decide) (by decide)) q66a q66c (g := (mkF m 178 #[.val (.int p0), .val (.int p1), .val (.int p2), .val (.int p3), .val (.int p4), .val (.int p5), .val (.int kk), .val (.int se), .val (.int yy), .val (.ref b11), .val (.int (if yy = p0 ∨ yy = p1 ∨ (¬ (1 : Int32) < kk ∧ yy = p2) ∨ (kk = (0 : Int32) ∧ yy = p3) then (1 : Int32) else (0 : Int32)))] [(.int yy), (.ref b11)])) rfl (by rw [hml]; rfl) (Steps.refl _) (argsL := [(.int yy)]) (rest := []) (lenOf pd_5 rfl) rfl (by show 2 * 0 + _ ≤ _; exact Nat.le_of_eq rfl) (hb hby at_178) (fun _ _ => ⟨rfl, e52, (by decide : 3 + 0 ≤ _), (by decide : 10 + 0 ≤ _)⟩)
      dsimp only [Pt.U, Pt.locs, Pt.cells, Pt.slots] at X66 l66 y66 z66 st66 hQ66
      subst l66 y66 z66
      obtain ⟨rfl, Nq66, e66⟩ := hQ66
      have N66 := Fr.app N52 Nq66
      refine own_go (fun t k => st66.trans k) ?_
      show own_R p e below _ T66 (mkF m 181 #[.val (.int p0), .val (.int p1), .val (.int p2), .val (.int p3), .val (.int p4), .val (.int p5), .val (.int kk), .val (.int se), .val (.int yy), .val (.ref b11), .val (.int (if yy = p0 ∨ yy = p1 ∨ (¬ (1 : Int32) < kk ∧ yy = p2) ∨ (kk = (0 : Int32) ∧ yy = p3) then (1 : Int32) else (0 : Int32)))] [(.int (if p0 = yy ∨ p1 = yy then (1 : Int32) else (0 : Int32)))])
      refine own_go (fun t k => XS.iload X66.here hx rfl (hb hby at_181) rfl  k) ?_
      show own_R p e below _ T66 (mkF m 183 #[.val (.int p0), .val (.int p1), .val (.int p2), .val (.int p3), .val (.int p4), .val (.int p5), .val (.int kk), .val (.int se), .val (.int yy), .val (.ref b11), .val (.int (if yy = p0 ∨ yy = p1 ∨ (¬ (1 : Int32) < kk ∧ yy = p2) ∨ (kk = (0 : Int32) ∧ yy = p3) then (1 : Int32) else (0 : Int32)))] [(.int (if yy = p0 ∨ yy = p1 ∨ (¬ (1 : Int32) < kk ∧ yy = p2) ∨ (kk = (0 : Int32) ∧ yy = p3) then (1 : Int32) else (0 : Int32))), (.int (if p0 = yy ∨ p1 = yy then (1 : Int32) else (0 : Int32)))])
      refine own_go (fun t k => XS.icmpNo X66.here hx rfl (hb hby at_183) rfl (teq (own_h2 _ _ _ _ _ _ hc123_35)).2 k) ?_
      show own_R p e below _ T66 (mkF m 186 #[.val (.int p0), .val (.int p1), .val (.int p2), .val (.int p3), .val (.int p4), .val (.int p5), .val (.int kk), .val (.int se), .val (.int yy), .val (.ref b11), .val (.int (if yy = p0 ∨ yy = p1 ∨ (¬ (1 : Int32) < kk ∧ yy = p2) ∨ (kk = (0 : Int32) ∧ yy = p3) then (1 : Int32) else (0 : Int32)))] [])
      refine own_go (fun t k => XS.iconst X66.here hx rfl (hb hby at_186) k) ?_
      show own_R p e below _ T66 (mkF m 187 #[.val (.int p0), .val (.int p1), .val (.int p2), .val (.int p3), .val (.int p4), .val (.int p5), .val (.int kk), .val (.int se), .val (.int yy), .val (.ref b11), .val (.int (if yy = p0 ∨ yy = p1 ∨ (¬ (1 : Int32) < kk ∧ yy = p2) ∨ (kk = (0 : Int32) ∧ yy = p3) then (1 : Int32) else (0 : Int32)))] [(.int (1 : Int32))])
      refine own_go (fun t k => XS.goto X66.here hx rfl (pc0 := 187) (pc' := 191) rfl (hb hby at_187) (by decide) (by decide) k) ?_
      show own_R p e below _ T66 (mkF m 191 #[.val (.int p0), .val (.int p1), .val (.int p2), .val (.int p3), .val (.int p4), .val (.int p5), .val (.int kk), .val (.int se), .val (.int yy), .val (.ref b11), .val (.int (if yy = p0 ∨ yy = p1 ∨ (¬ (1 : Int32) < kk ∧ yy = p2) ∨ (kk = (0 : Int32) ∧ yy = p3) then (1 : Int32) else (0 : Int32)))] [(.int (1 : Int32))])
      refine own_retN X66 hx Bd.returns (by simp) (BodyLoose.notSynchronized Bd) (hb hby at_191) (by decide) (by decide) ?_
      exact ⟨rfl, N66⟩
set_option maxRecDepth 65536 in
set_option maxHeartbeats 40000000 in
theorem comes_1 {Post : Tables → Env → Array Value → State → Outcome → State → Prop} (hpost : ∀ tb e args s v u, (limb_1_1.after args s (.returned v) u = true ∧ limb_1_2.after args s (.returned v) u = true ∧ True) → FrameEnd s (.returned v) u (Jvm.fieldLocs frame_1_writes args s ++ Jvm.arrayLocs frame_1_arrays args s ++ Jvm.staticLocs frame_1_statics s) 16 128 → Post tb e args s (.returned v) u) :
    ArmFor flags0 classFile x code maxLocals ret World_1 tables_1 room_1 Calls_1 rest_1 Pre_1 Post := by
  intro l hfl _ _ p e ha hc hk s m args below hf hA hF happ hP
  obtain ⟨hcalls, hrest, hpre⟩ := hP
  obtain ⟨-, -, -, hnamed, -, -, -, hat⟩ := (Spec.applies_iff hf).mp happ
  obtain ⟨hg, hn⟩ := and_e (Cond.before_iff.mp (show (Jvm.Cond.and given_1 narrow_1).before args s = true from hpre))
  obtain ⟨g0, gr0⟩ := and_e hg
  obtain ⟨ga0, gr1⟩ := and_e gr0
  obtain ⟨ga1, gr2⟩ := and_e gr1
  obtain ⟨ga2, gr3⟩ := and_e gr2
  obtain ⟨ga3, gr4⟩ := and_e gr3
  obtain ⟨ga4, gr5⟩ := and_e gr4
  have ga5 := gr5
  obtain ⟨w0, w1, w2, w3, w4, w5, rfl⟩ : ∃ w0 w1 w2 w3 w4 w5 : Value, args = #[w0, w1, w2, w3, w4, w5] := by
    have hs : args.size = 6 := by simpa [Cond.value, given_1] using g0
    obtain ⟨L⟩ := args
    match L, hs with
    | [w0, w1, w2, w3, w4, w5], _ => exact ⟨w0, w1, w2, w3, w4, w5, rfl⟩
  have hw := fun d (hd : d ∈ tables_1) => atoms_spec (ws := Jvm.Cond.code x code maxLocals ret :: tables_1) hat d (List.mem_cons_of_mem _ hd)
  have hfit : Fit s := fun {y c} hc i hi => by
    obtain ⟨ha, rfl⟩ := Array.getElem?_eq_some_iff.mp hc
    have q := List.all_eq_true.mp ((Array.all_eq_true_iff_forall_mem.mp hF) _ (Array.getElem_mem ha)) i (List.mem_range.mpr hi)
    simpa [Array.getElem?_eq_getElem hi] using q
  obtain ⟨i0, ei0⟩ := is_v ga0
  obtain rfl : w0 = (.int i0) := Option.some.inj ei0
  obtain ⟨i1, ei1⟩ := is_v ga1
  obtain rfl : w1 = (.int i1) := Option.some.inj ei1
  obtain ⟨i2, ei2⟩ := is_v ga2
  obtain rfl : w2 = (.int i2) := Option.some.inj ei2
  obtain ⟨i3, ei3⟩ := is_v ga3
  obtain rfl : w3 = (.int i3) := Option.some.inj ei3
  obtain ⟨i4, ei4⟩ := is_v ga4
  obtain rfl : w4 = (.int i4) := Option.some.inj ei4
  obtain ⟨i5, ei5⟩ := is_v ga5
  obtain rfl : w5 = (.int i5) := Option.some.inj ei5
  obtain ⟨n, o, h1, h2, h3, _, L, rfl, ⟨rfl, N⟩, hq⟩ := rm0 l s _ hw tables_1 i0 i1 i2 i3 i4 i5  s.heap s.heap.size (Nat.le_refl _) p e ha hc hk s m _ below hf ((Spec.applies_iff_loose hf).mp happ).1 ⟨rfl, State.Warmed39.refl s, rfl⟩ trivial
  refine ⟨n, _, h1, h2, h3, hpost _ _ _ _ _ _ ⟨Cond.after_iff.mpr rfl, Cond.after_iff.mpr (eq_i res_at (Term.int_eval (1)) rfl), trivial⟩ ⟨hq.1, hq.2.1, (hq.2.2.sift fun y hy => Or.inr (N y hy)).mono (by decide) (by decide)⟩⟩
theorem main_1_1 : Claimed_1_1 := comes_1 fun _ _ _ _ _ _ h hF => ⟨h.1, hF⟩
theorem main_1_2 : Claimed_1_2 := comes_1 fun _ _ _ _ _ _ h hF => ⟨h.2.1, hF⟩
end Jvm.Pilot.@@N@@
namespace Jvm.Pilot.@@N@@
open Jvm Jvm.ClassFile Sem Op Lib Jvm.Free Jvm.Stand Jvm.Pilot.@@N@@.Jvm.D
/-! MADE BY PROGRAM (witnessworld.py) out of the Statement's table words and the real class files: 10 classes; the members and pool entries that the words name. The judged class is class 1, her method 1. -/
namespace start1
open Jvm.ClassFile
def u (s : String) : CpInfo := .utf8 (stringToUtf16 s)
/-- a pool by its gaps: so many unusable entries, then the entry; so many at the end -/
def gap : Nat → List CpInfo → List CpInfo
  | 0, r => r
  | n + 1, r => .unusable :: gap n r
def poolList (es : List (Nat × CpInfo)) (last : Nat) : List CpInfo := es.foldr (fun e r => gap e.1 (e.2 :: r)) (gap last [])
def pool (es : List (Nat × CpInfo)) (last : Nat) : Array CpInfo := ⟨poolList es last⟩
def fileOf (pool : Array CpInfo) (this : Nat) (attrs : Array Attribute := #[]) (ms : Array MethodInfo := #[]) (fl : Nat := 33) (sup : Nat := 0) (ifs : Array Nat := #[]) (fds : Array FieldInfo := #[]) : ClassFile where
  minorVersion := 0
  majorVersion := 65
  constantPool := pool
  accessFlags := fl
  thisClass := this
  superClass := sup
  interfaces := ifs
  fields := fds
  methods := ms
  attributes := attrs
def plain (name : String) (sup : Option ClassId) : Class where
  name := name
  kind := .ordinary
  loader := none
  accessFlags := 33
  super := sup
  interfaces := #[]
  cf := none
  fields := #[]
  methods := #[]
  instanceTypes := #[]
  staticTypes := #[]
  resolved := #[]
  callSites := []
  init := .initialized
  statics := none
  mirror := none

def pool0 : Array CpInfo := pool [(5, u "<init>"), (0, u "()V"), (1, .class_ 10), (1, u "java/lang/Object")] 113

def k0c0 : Code := { maxStack := 0, maxLocals := 1, code := object_method_1_code, exceptionTable := #[], attributes := #[] }
def k0m0 : Method := { name := "<init>", desc := "()V", sig := { parameters := [], returnType := none }, accessFlags := 1, code := some k0c0 }
/-- java/lang/Object -/
def k0 : Class := { plain "java/lang/Object" none with
  accessFlags := 33
  interfaces := #[]
  cf := some (fileOf pool0 8 #[] #[{ accessFlags := 1, nameIndex := 5, descriptorIndex := 6, attributes := #[] }] 33 0 #[] #[])
  fields := #[]
  methods := #[k0m0]
  instanceTypes := #[]
  staticTypes := #[]
  resolved := Array.replicate 124 none
  statics := none }

def pool1 : Array CpInfo := pool [(2, .class_ 4), (0, .nameAndType 5 6), (0, u "java/lang/Object"), (0, u "<init>"), (0, u "()V"), (0, .integer 2147483647), (0, .class_ 9), (0, u "com/example/signetry/signetry/card/WordFrame"), (0, .methodref 8 3), (0, .methodref 8 12), (0, .nameAndType 13 14), (0, u "reset"), (0, u "(II)V"), (0, .methodref 8 16), (0, .nameAndType 17 14), (0, u "store"), (0, .methodref 8 19), (0, .nameAndType 20 21), (0, u "push"), (0, u "(I)V"), (0, .methodref 8 23), (0, .nameAndType 24 25), (0, u "pop"), (0, u "()I"), (0, .methodref 8 27), (0, .nameAndType 28 29), (0, u "holds"), (0, u "(I)Z"), (0, .class_ 31), (0, u "com/example/signetry/signetry/card/WordFrameHoldsPinLaw"), (2, u "law"), (0, u "(IIIIII)Z")] 6

def k1m0 : Method := { name := "<init>", desc := "()V", sig := { parameters := [], returnType := none }, accessFlags := 1, code := none }
def k1c1 : Code := { maxStack := 3, maxLocals := 11, code := code, exceptionTable := #[], attributes := #[] }
def k1m1 : Method := { name := "law", desc := "(IIIIII)Z", sig := { parameters := [.int, .int, .int, .int, .int, .int], returnType := some .boolean }, accessFlags := 9, code := some k1c1 }
/-- com/example/signetry/signetry/card/WordFrameHoldsPinLaw -/
def k1 : Class := { plain "com/example/signetry/signetry/card/WordFrameHoldsPinLaw" (some 0) with
  accessFlags := 49
  interfaces := #[]
  cf := some (fileOf pool1 30 #[] #[{ accessFlags := 1, nameIndex := 5, descriptorIndex := 6, attributes := #[] }, { accessFlags := 9, nameIndex := 34, descriptorIndex := 35, attributes := #[] }] 49 2 #[] #[])
  fields := #[]
  methods := #[k1m0, k1m1]
  instanceTypes := #[]
  staticTypes := #[]
  resolved := Array.replicate 42 none
  statics := none }

def pool2 : Array CpInfo := pool [(1, .methodref 2 3), (0, .class_ 4), (0, .nameAndType 5 6), (0, u "java/lang/Object"), (0, u "<init>"), (0, u "()V"), (0, .fieldref 8 9), (0, .class_ 10), (0, .nameAndType 11 12), (0, u "com/example/signetry/signetry/card/WordFrame"), (0, u "words"), (0, u "[I"), (2, .methodref 16 17), (0, .class_ 18), (0, .nameAndType 19 20), (0, u "java/util/Arrays"), (0, u "fill"), (0, u "([IIII)V"), (0, .fieldref 8 22), (0, .nameAndType 23 24), (0, u "localCount"), (0, u "I"), (0, .fieldref 8 26), (0, .nameAndType 27 24), (0, u "maxStack"), (0, .fieldref 8 29), (0, .nameAndType 30 24), (0, u "top"), (0, .fieldref 8 32), (0, .nameAndType 33 34), (0, u "thisUninitialized"), (0, u "Z"), (0, .fieldref 8 36), (0, .nameAndType 37 24), (0, u "localsVersion"), (0, .methodref 8 39), (0, .nameAndType 40 41), (0, u "requireLocal"), (0, u "(I)V"), (0, .methodref 8 43), (0, .nameAndType 44 41), (0, u "invalidateIntAround"), (6, .methodref 8 52), (0, .nameAndType 53 41), (0, u "requireRoom"), (0, .methodref 8 55), (0, .nameAndType 56 41), (0, u "requireWords"), (18, u "(I)Z"), (5, u "()I"), (23, u "reset"), (0, u "(II)V"), (6, u "store"), (1, u "push"), (0, u "pop"), (5, u "holds")] 12

def k2c0 : Code := { maxStack := 2, maxLocals := 1, code := prog_110_method_1_code, exceptionTable := #[], attributes := #[] }
def k2m0 : Method := { name := "<init>", desc := "()V", sig := { parameters := [], returnType := none }, accessFlags := 0, code := some k2c0 }
def k2c1 : Code := { maxStack := 4, maxLocals := 3, code := prog_110_method_2_code, exceptionTable := #[], attributes := #[] }
def k2m1 : Method := { name := "reset", desc := "(II)V", sig := { parameters := [.int, .int], returnType := none }, accessFlags := 0, code := some k2c1 }
def k2c2 : Code := { maxStack := 3, maxLocals := 3, code := prog_110_method_10_code, exceptionTable := #[], attributes := #[] }
def k2m2 : Method := { name := "store", desc := "(II)V", sig := { parameters := [.int, .int], returnType := none }, accessFlags := 0, code := some k2c2 }
def k2c3 : Code := { maxStack := 3, maxLocals := 2, code := prog_110_method_12_code, exceptionTable := #[], attributes := #[] }
def k2m3 : Method := { name := "invalidateIntAround", desc := "(I)V", sig := { parameters := [.int], returnType := none }, accessFlags := 2, code := some k2c3 }
def k2c4 : Code := { maxStack := 2, maxLocals := 2, code := prog_110_method_13_code, exceptionTable := #[], attributes := #[] }
def k2m4 : Method := { name := "requireLocal", desc := "(I)V", sig := { parameters := [.int], returnType := none }, accessFlags := 2, code := some k2c4 }
def k2c5 : Code := { maxStack := 3, maxLocals := 2, code := prog_110_method_14_code, exceptionTable := #[], attributes := #[] }
def k2m5 : Method := { name := "push", desc := "(I)V", sig := { parameters := [.int], returnType := none }, accessFlags := 0, code := some k2c5 }
def k2c6 : Code := { maxStack := 3, maxLocals := 1, code := prog_110_method_15_code, exceptionTable := #[], attributes := #[] }
def k2m6 : Method := { name := "pop", desc := "()I", sig := { parameters := [], returnType := some .int }, accessFlags := 0, code := some k2c6 }
def k2c7 : Code := { maxStack := 3, maxLocals := 2, code := prog_110_method_20_code, exceptionTable := #[], attributes := #[] }
def k2m7 : Method := { name := "requireRoom", desc := "(I)V", sig := { parameters := [.int], returnType := none }, accessFlags := 2, code := some k2c7 }
def k2c8 : Code := { maxStack := 2, maxLocals := 2, code := prog_110_method_21_code, exceptionTable := #[], attributes := #[] }
def k2m8 : Method := { name := "requireWords", desc := "(I)V", sig := { parameters := [.int], returnType := none }, accessFlags := 2, code := some k2c8 }
def k2c9 : Code := { maxStack := 2, maxLocals := 3, code := prog_110_method_24_code, exceptionTable := #[], attributes := #[] }
def k2m9 : Method := { name := "holds", desc := "(I)Z", sig := { parameters := [.int], returnType := some .boolean }, accessFlags := 0, code := some k2c9 }
/-- com/example/signetry/signetry/card/WordFrame -/
def k2 : Class := { plain "com/example/signetry/signetry/card/WordFrame" (some 0) with
  accessFlags := 48
  interfaces := #[]
  cf := some (fileOf pool2 8 #[] #[{ accessFlags := 0, nameIndex := 5, descriptorIndex := 6, attributes := #[] }, { accessFlags := 0, nameIndex := 105, descriptorIndex := 106, attributes := #[] }, { accessFlags := 0, nameIndex := 113, descriptorIndex := 106, attributes := #[] }, { accessFlags := 2, nameIndex := 44, descriptorIndex := 41, attributes := #[] }, { accessFlags := 2, nameIndex := 40, descriptorIndex := 41, attributes := #[] }, { accessFlags := 0, nameIndex := 115, descriptorIndex := 41, attributes := #[] }, { accessFlags := 0, nameIndex := 116, descriptorIndex := 81, attributes := #[] }, { accessFlags := 2, nameIndex := 53, descriptorIndex := 41, attributes := #[] }, { accessFlags := 2, nameIndex := 56, descriptorIndex := 41, attributes := #[] }, { accessFlags := 0, nameIndex := 122, descriptorIndex := 75, attributes := #[] }] 48 2 #[] #[{ accessFlags := 2, nameIndex := 11, descriptorIndex := 12, attributes := #[] }, { accessFlags := 2, nameIndex := 23, descriptorIndex := 24, attributes := #[] }, { accessFlags := 2, nameIndex := 27, descriptorIndex := 24, attributes := #[] }, { accessFlags := 2, nameIndex := 30, descriptorIndex := 24, attributes := #[] }, { accessFlags := 2, nameIndex := 33, descriptorIndex := 34, attributes := #[] }, { accessFlags := 2, nameIndex := 37, descriptorIndex := 24, attributes := #[] }])
  fields := #[{ name := "words", type := (.array .int), accessFlags := 2, slot := 0, constantValue := 0 }, { name := "localCount", type := .int, accessFlags := 2, slot := 1, constantValue := 0 }, { name := "maxStack", type := .int, accessFlags := 2, slot := 2, constantValue := 0 }, { name := "top", type := .int, accessFlags := 2, slot := 3, constantValue := 0 }, { name := "thisUninitialized", type := .boolean, accessFlags := 2, slot := 4, constantValue := 0 }, { name := "localsVersion", type := .int, accessFlags := 2, slot := 5, constantValue := 0 }]
  methods := #[k2m0, k2m1, k2m2, k2m3, k2m4, k2m5, k2m6, k2m7, k2m8, k2m9]
  instanceTypes := #[(.array .int), .int, .int, .int, .boolean, .int]
  staticTypes := #[]
  resolved := Array.replicate 135 none
  statics := none }

def pool3 : Array CpInfo := pool [(2, .class_ 4), (1, u "java/lang/Object"), (0, u "<init>"), (0, u "()V"), (5, u "([IIII)V"), (0, .methodref 14 15), (0, .class_ 16), (0, .nameAndType 17 18), (0, u "java/util/Arrays"), (0, u "rangeCheck"), (0, u "(III)V"), (55, .class_ 76), (1, u "java/util/Arrays$NaturalOrder"), (36, .class_ 115), (1, u "java/util/Arrays$LegacyMergeSort"), (1, u "Z"), (257, .class_ 376), (0, u "java/util/Arrays$ArrayList"), (68, u "$assertionsDisabled"), (269, u "MIN_ARRAY_SORT_GRAN"), (0, u "I"), (2, u "INSERTIONSORT_THRESHOLD"), (120, u "fill"), (134, .class_ 976), (0, u "java/util/Arrays$ArrayItr")] 52

def k3m0 : Method := { name := "<init>", desc := "()V", sig := { parameters := [], returnType := none }, accessFlags := 2, code := none }
def k3c1 : Code := { maxStack := 4, maxLocals := 3, code := jdk_65_method_30_code, exceptionTable := #[], attributes := #[] }
def k3m1 : Method := { name := "rangeCheck", desc := "(III)V", sig := { parameters := [.int, .int, .int], returnType := none }, accessFlags := 8, code := some k3c1 }
def k3c2 : Code := { maxStack := 3, maxLocals := 5, code := jdk_65_method_104_code, exceptionTable := #[], attributes := #[] }
def k3m2 : Method := { name := "fill", desc := "([IIII)V", sig := { parameters := [(.array .int), .int, .int, .int], returnType := none }, accessFlags := 9, code := some k3c2 }
/-- java/util/Arrays -/
def k3 : Class := { plain "java/util/Arrays" (some 0) with
  accessFlags := 49
  interfaces := #[]
  cf := some (fileOf pool3 14 #[.nestMembers #[975, 375, 113, 74]] #[{ accessFlags := 2, nameIndex := 5, descriptorIndex := 6, attributes := #[] }, { accessFlags := 8, nameIndex := 17, descriptorIndex := 18, attributes := #[] }, { accessFlags := 9, nameIndex := 840, descriptorIndex := 12, attributes := #[] }] 49 2 #[] #[{ accessFlags := 26, nameIndex := 715, descriptorIndex := 716, attributes := #[] }, { accessFlags := 26, nameIndex := 719, descriptorIndex := 716, attributes := #[] }, { accessFlags := 4120, nameIndex := 445, descriptorIndex := 117, attributes := #[] }])
  fields := #[{ name := "MIN_ARRAY_SORT_GRAN", type := .int, accessFlags := 26, slot := 0, constantValue := 0 }, { name := "INSERTIONSORT_THRESHOLD", type := .int, accessFlags := 26, slot := 1, constantValue := 0 }, { name := "$assertionsDisabled", type := .boolean, accessFlags := 4120, slot := 2, constantValue := 0 }]
  methods := #[k3m0, k3m1, k3m2]
  instanceTypes := #[]
  staticTypes := #[.int, .int, .boolean]
  resolved := Array.replicate 1029 none
  statics := none }

def pool4 : Array CpInfo := pool [(1, u "java/lang/Cloneable"), (0, .class_ 1), (0, u "java/lang/Object"), (0, .class_ 3)] 3

/-- java/lang/Cloneable -/
def k4 : Class := { plain "java/lang/Cloneable" (some 0) with
  accessFlags := 1537
  interfaces := #[]
  cf := some (fileOf pool4 2 #[] #[] 1537 4 #[] #[])
  fields := #[]
  methods := #[]
  instanceTypes := #[]
  staticTypes := #[]
  resolved := Array.replicate 8 none
  statics := none }

def pool5 : Array CpInfo := pool [(1, u "java/io/Serializable"), (0, .class_ 1), (0, u "java/lang/Object"), (0, .class_ 3)] 3

/-- java/io/Serializable -/
def k5 : Class := { plain "java/io/Serializable" (some 0) with
  accessFlags := 1537
  interfaces := #[]
  cf := some (fileOf pool5 2 #[] #[] 1537 4 #[] #[])
  fields := #[]
  methods := #[]
  instanceTypes := #[]
  staticTypes := #[]
  resolved := Array.replicate 8 none
  statics := none }

/-- the primitive byte -/
def k6 : Class := { plain "byte" none with kind := .primitive 'B', accessFlags := 0x411 }
/-- [B -/
def k7 : Class := { plain "[B" (some 0) with kind := .array 6 .byte, interfaces := #[4, 5], accessFlags := 1041 }

/-- the primitive int -/
def k8 : Class := { plain "int" none with kind := .primitive 'I', accessFlags := 0x411 }
/-- [I -/
def k9 : Class := { plain "[I" (some 0) with kind := .array 8 .int, interfaces := #[4, 5], accessFlags := 1041 }

def heap : Heap := #[]
def classes : Array Class := #[k0, k1, k2, k3, k4, k5, k6, k7, k8, k9]
def interned : List (Array UInt16 × Addr) := []
def slotsUsed : Nat := 0
def theMethod : MethodId := ⟨1, 1⟩
def args0 : Array Value := #[.int 10, .int 20, .int 30, .int 40, .int 50, .int 5]
def aboutOver (below : List Frame) : State where
  vm := { classes := classes, interned := interned.toArray }
  heap := heap
  slotsUsed := slotsUsed
  threads := #[{ frames := .invoking theMethod args0 :: below }]
def below0 : List Frame := [.native { method := ⟨0, 0⟩, args := #[] }]
def about1 : State := aboutOver below0
def p0 : Program := .bare "" "" ""
def e0 : Env := launch0.env 0 0 0
theorem w_frames : about1.frames = Frame.invoking theMethod args0 :: below0 := rfl
set_option maxRecDepth 65536 in
theorem w_args : argsFit about1.vm theMethod args0 = true := by decide +kernel
set_option maxRecDepth 65536 in
theorem w_heap : heapFits about1 = true := by decide +kernel
set_option maxRecDepth 65536 in
theorem w_runnable : about1.curStatus? = some .runnable := by decide +kernel
set_option maxRecDepth 65536 in
theorem w_alone : about1.alone = true := by decide +kernel
set_option maxRecDepth 65536 in
theorem w_named : about1.methodNamed? x = some theMethod := by decide +kernel
set_option maxRecDepth 65536 in
theorem w_hears : about1.hears theMethod below0 = true := by decide +kernel
set_option maxRecDepth 65536 in
theorem w_ripe : about1.ripe theMethod args0 below0 = true := by decide +kernel
theorem w_running : about1.status = .running := rfl
set_option maxRecDepth 65536 in
theorem w_room : about1.hasRoom e0.platform room_1 = true :=
  launch0.hasRoom_least _ room_1 (by decide +kernel) (by decide +kernel) (by decide +kernel) (by decide +kernel) (by decide +kernel) (by decide +kernel)
theorem allAtoms_all (ts : List Jvm.Cond) (a : Array Jvm.Value) (st : Jvm.State) : (allAtoms ts).before a st = ts.all (fun c => c.before a st) := by
  induction ts with
  | nil => rfl
  | cons c t ih =>
    show (Jvm.Cond.and c (allAtoms t)).before a st = _
    rw [Jvm.Cond.before_and, ih, List.all_cons]
def words1 : List Jvm.Cond := Jvm.Cond.code x code maxLocals ret :: tables_1
/-- a 'code' word, met by the world's own term for the bytes: nothing is compared byte by byte -/
theorem code_word {y : MethodName} {bytes : ByteArray} {mx : Nat} {rt : Option FieldType} {a : Array Value} {s : State} {m : MethodId} {meth : Method} {c : Code} (h1 : s.methodNamed? y = some m) (h2 : s.vm.method? m = some meth) (h3 : meth.code = some c) (h4 : c.code = bytes)
    (h5 : (c.maxLocals == mx && c.exceptionTable.isEmpty && decide (c.maxStack ≤ mostOperands) && decide (meth.sig.returnType = rt) && !meth.locks && decide (parseMethodDescriptor y.desc = some meth.sig)) = true) : (Jvm.Cond.code y bytes mx rt).before a s = true := by
  simp only [Bool.and_eq_true, beq_iff_eq, Bool.not_eq_true', decide_eq_true_eq] at h5
  obtain ⟨⟨⟨⟨⟨g1, g2⟩, g3⟩, g4⟩, g5⟩, g6⟩ := h5
  simp [Cond.before, Cond.holds, Cond.value, h1, h2, h3, h4, g1, g2, g3, g4, g5, g6]
def isCode : Jvm.Cond → Bool
  | .code _ _ _ _ => true
  | _ => false
theorem all_split {L : List Jvm.Cond} {P : Jvm.Cond → Bool} (h1 : L.all (fun c => isCode c || P c) = true) (h2 : ∀ c ∈ L.filter isCode, P c = true) : L.all P = true := by
  refine List.all_eq_true.mpr fun c hc => ?_
  have h := List.all_eq_true.mp h1 c hc
  rcases Bool.eq_false_or_eq_true (isCode c) with hi | hi
  · exact h2 c (List.mem_filter.mpr ⟨hc, hi⟩)
  · simpa [hi] using h
set_option maxRecDepth 65536 in
theorem w_c0 : (Jvm.Cond.code x code maxLocals ret).before args0 about1 = true := code_word (m := ⟨1, 1⟩) (meth := k1m1) (c := k1c1) (by decide +kernel) rfl rfl rfl (by decide +kernel)
set_option maxRecDepth 65536 in
theorem w_c1 : (Jvm.Cond.code ({ cls := "com/example/signetry/signetry/card/WordFrame", name := "<init>", desc := "()V" } : Jvm.MethodName) prog_110_method_1_code (1 : Nat) (Option.none : Option Jvm.ClassFile.FieldType)).before args0 about1 = true := code_word (m := ⟨2, 0⟩) (meth := k2m0) (c := k2c0) (by decide +kernel) rfl rfl rfl (by decide +kernel)
set_option maxRecDepth 65536 in
theorem w_c2 : (Jvm.Cond.code ({ cls := "java/lang/Object", name := "<init>", desc := "()V" } : Jvm.MethodName) object_method_1_code (1 : Nat) (Option.none : Option Jvm.ClassFile.FieldType)).before args0 about1 = true := code_word (m := ⟨0, 0⟩) (meth := k0m0) (c := k0c0) (by decide +kernel) rfl rfl rfl (by decide +kernel)
set_option maxRecDepth 65536 in
theorem w_c3 : (Jvm.Cond.code ({ cls := "com/example/signetry/signetry/card/WordFrame", name := "reset", desc := "(II)V" } : Jvm.MethodName) prog_110_method_2_code (3 : Nat) (Option.none : Option Jvm.ClassFile.FieldType)).before args0 about1 = true := code_word (m := ⟨2, 1⟩) (meth := k2m1) (c := k2c1) (by decide +kernel) rfl rfl rfl (by decide +kernel)
set_option maxRecDepth 65536 in
theorem w_c4 : (Jvm.Cond.code ({ cls := "java/util/Arrays", name := "fill", desc := "([IIII)V" } : Jvm.MethodName) jdk_65_method_104_code (5 : Nat) (Option.none : Option Jvm.ClassFile.FieldType)).before args0 about1 = true := code_word (m := ⟨3, 2⟩) (meth := k3m2) (c := k3c2) (by decide +kernel) rfl rfl rfl (by decide +kernel)
set_option maxRecDepth 65536 in
theorem w_c5 : (Jvm.Cond.code ({ cls := "java/util/Arrays", name := "rangeCheck", desc := "(III)V" } : Jvm.MethodName) jdk_65_method_30_code (3 : Nat) (Option.none : Option Jvm.ClassFile.FieldType)).before args0 about1 = true := code_word (m := ⟨3, 1⟩) (meth := k3m1) (c := k3c1) (by decide +kernel) rfl rfl rfl (by decide +kernel)
set_option maxRecDepth 65536 in
theorem w_c6 : (Jvm.Cond.code ({ cls := "com/example/signetry/signetry/card/WordFrame", name := "store", desc := "(II)V" } : Jvm.MethodName) prog_110_method_10_code (3 : Nat) (Option.none : Option Jvm.ClassFile.FieldType)).before args0 about1 = true := code_word (m := ⟨2, 2⟩) (meth := k2m2) (c := k2c2) (by decide +kernel) rfl rfl rfl (by decide +kernel)
set_option maxRecDepth 65536 in
theorem w_c7 : (Jvm.Cond.code ({ cls := "com/example/signetry/signetry/card/WordFrame", name := "requireLocal", desc := "(I)V" } : Jvm.MethodName) prog_110_method_13_code (2 : Nat) (Option.none : Option Jvm.ClassFile.FieldType)).before args0 about1 = true := code_word (m := ⟨2, 4⟩) (meth := k2m4) (c := k2c4) (by decide +kernel) rfl rfl rfl (by decide +kernel)
set_option maxRecDepth 65536 in
theorem w_c8 : (Jvm.Cond.code ({ cls := "com/example/signetry/signetry/card/WordFrame", name := "invalidateIntAround", desc := "(I)V" } : Jvm.MethodName) prog_110_method_12_code (2 : Nat) (Option.none : Option Jvm.ClassFile.FieldType)).before args0 about1 = true := code_word (m := ⟨2, 3⟩) (meth := k2m3) (c := k2c3) (by decide +kernel) rfl rfl rfl (by decide +kernel)
set_option maxRecDepth 65536 in
theorem w_c9 : (Jvm.Cond.code ({ cls := "com/example/signetry/signetry/card/WordFrame", name := "push", desc := "(I)V" } : Jvm.MethodName) prog_110_method_14_code (2 : Nat) (Option.none : Option Jvm.ClassFile.FieldType)).before args0 about1 = true := code_word (m := ⟨2, 5⟩) (meth := k2m5) (c := k2c5) (by decide +kernel) rfl rfl rfl (by decide +kernel)
set_option maxRecDepth 65536 in
theorem w_c10 : (Jvm.Cond.code ({ cls := "com/example/signetry/signetry/card/WordFrame", name := "requireRoom", desc := "(I)V" } : Jvm.MethodName) prog_110_method_20_code (2 : Nat) (Option.none : Option Jvm.ClassFile.FieldType)).before args0 about1 = true := code_word (m := ⟨2, 7⟩) (meth := k2m7) (c := k2c7) (by decide +kernel) rfl rfl rfl (by decide +kernel)
set_option maxRecDepth 65536 in
theorem w_c11 : (Jvm.Cond.code ({ cls := "com/example/signetry/signetry/card/WordFrame", name := "holds", desc := "(I)Z" } : Jvm.MethodName) prog_110_method_24_code (3 : Nat) (Option.some Jvm.ClassFile.FieldType.boolean)).before args0 about1 = true := code_word (m := ⟨2, 9⟩) (meth := k2m9) (c := k2c9) (by decide +kernel) rfl rfl rfl (by decide +kernel)
set_option maxRecDepth 65536 in
theorem w_c12 : (Jvm.Cond.code ({ cls := "com/example/signetry/signetry/card/WordFrame", name := "pop", desc := "()I" } : Jvm.MethodName) prog_110_method_15_code (1 : Nat) (Option.some Jvm.ClassFile.FieldType.int)).before args0 about1 = true := code_word (m := ⟨2, 6⟩) (meth := k2m6) (c := k2c6) (by decide +kernel) rfl rfl rfl (by decide +kernel)
set_option maxRecDepth 65536 in
theorem w_c13 : (Jvm.Cond.code ({ cls := "com/example/signetry/signetry/card/WordFrame", name := "requireWords", desc := "(I)V" } : Jvm.MethodName) prog_110_method_21_code (2 : Nat) (Option.none : Option Jvm.ClassFile.FieldType)).before args0 about1 = true := code_word (m := ⟨2, 8⟩) (meth := k2m8) (c := k2c8) (by decide +kernel) rfl rfl rfl (by decide +kernel)
def codes1 : List Jvm.Cond := [Jvm.Cond.code x code maxLocals ret, Jvm.Cond.code ({ cls := "com/example/signetry/signetry/card/WordFrame", name := "<init>", desc := "()V" } : Jvm.MethodName) prog_110_method_1_code (1 : Nat) (Option.none : Option Jvm.ClassFile.FieldType), Jvm.Cond.code ({ cls := "java/lang/Object", name := "<init>", desc := "()V" } : Jvm.MethodName) object_method_1_code (1 : Nat) (Option.none : Option Jvm.ClassFile.FieldType), Jvm.Cond.code ({ cls := "com/example/signetry/signetry/card/WordFrame", name := "reset", desc := "(II)V" } : Jvm.MethodName) prog_110_method_2_code (3 : Nat) (Option.none : Option Jvm.ClassFile.FieldType), Jvm.Cond.code ({ cls := "java/util/Arrays", name := "fill", desc := "([IIII)V" } : Jvm.MethodName) jdk_65_method_104_code (5 : Nat) (Option.none : Option Jvm.ClassFile.FieldType), Jvm.Cond.code ({ cls := "java/util/Arrays", name := "rangeCheck", desc := "(III)V" } : Jvm.MethodName) jdk_65_method_30_code (3 : Nat) (Option.none : Option Jvm.ClassFile.FieldType), Jvm.Cond.code ({ cls := "com/example/signetry/signetry/card/WordFrame", name := "store", desc := "(II)V" } : Jvm.MethodName) prog_110_method_10_code (3 : Nat) (Option.none : Option Jvm.ClassFile.FieldType), Jvm.Cond.code ({ cls := "com/example/signetry/signetry/card/WordFrame", name := "requireLocal", desc := "(I)V" } : Jvm.MethodName) prog_110_method_13_code (2 : Nat) (Option.none : Option Jvm.ClassFile.FieldType), Jvm.Cond.code ({ cls := "com/example/signetry/signetry/card/WordFrame", name := "invalidateIntAround", desc := "(I)V" } : Jvm.MethodName) prog_110_method_12_code (2 : Nat) (Option.none : Option Jvm.ClassFile.FieldType), Jvm.Cond.code ({ cls := "com/example/signetry/signetry/card/WordFrame", name := "push", desc := "(I)V" } : Jvm.MethodName) prog_110_method_14_code (2 : Nat) (Option.none : Option Jvm.ClassFile.FieldType), Jvm.Cond.code ({ cls := "com/example/signetry/signetry/card/WordFrame", name := "requireRoom", desc := "(I)V" } : Jvm.MethodName) prog_110_method_20_code (2 : Nat) (Option.none : Option Jvm.ClassFile.FieldType), Jvm.Cond.code ({ cls := "com/example/signetry/signetry/card/WordFrame", name := "holds", desc := "(I)Z" } : Jvm.MethodName) prog_110_method_24_code (3 : Nat) (Option.some Jvm.ClassFile.FieldType.boolean), Jvm.Cond.code ({ cls := "com/example/signetry/signetry/card/WordFrame", name := "pop", desc := "()I" } : Jvm.MethodName) prog_110_method_15_code (1 : Nat) (Option.some Jvm.ClassFile.FieldType.int), Jvm.Cond.code ({ cls := "com/example/signetry/signetry/card/WordFrame", name := "requireWords", desc := "(I)V" } : Jvm.MethodName) prog_110_method_21_code (2 : Nat) (Option.none : Option Jvm.ClassFile.FieldType)]
set_option maxRecDepth 65536 in
theorem codes_eq : words1.filter isCode = codes1 := rfl
theorem w_codes : ∀ c ∈ words1.filter isCode, c.before args0 about1 = true := by
  rw [codes_eq]
  intro c hc
  simp only [codes1, List.mem_cons, List.not_mem_nil, or_false] at hc
  rcases hc with rfl | rfl | rfl | rfl | rfl | rfl | rfl | rfl | rfl | rfl | rfl | rfl | rfl | rfl
  · exact w_c0
  · exact w_c1
  · exact w_c2
  · exact w_c3
  · exact w_c4
  · exact w_c5
  · exact w_c6
  · exact w_c7
  · exact w_c8
  · exact w_c9
  · exact w_c10
  · exact w_c11
  · exact w_c12
  · exact w_c13
set_option maxRecDepth 65536 in
theorem w_t1 : (words1.take 24).all (fun c => isCode c || c.before args0 about1) = true := by decide +kernel
set_option maxRecDepth 65536 in
theorem w_t2 : ((words1.drop 24).take 24).all (fun c => isCode c || c.before args0 about1) = true := by decide +kernel
set_option maxRecDepth 65536 in
theorem w_t3 : ((words1.drop 24).drop 24).all (fun c => isCode c || c.before args0 about1) = true := by decide +kernel
theorem w_tables : (allAtoms (Jvm.Cond.code x code maxLocals ret :: tables_1)).before args0 about1 = true := by
  rw [allAtoms_all]
  show words1.all (fun c => c.before args0 about1) = true
  refine all_split ?_ w_codes
  rw [← List.take_append_drop 24 words1, List.all_append, w_t1, ← List.take_append_drop 24 (words1.drop 24), List.all_append, w_t2, w_t3]
  rfl
set_option maxRecDepth 65536 in
theorem w_case : (Jvm.Cond.and given_1 narrow_1).before args0 about1 = true := by decide +kernel
theorem w_applies : (headSpec (Jvm.Cond.code x code maxLocals ret :: tables_1) room_1).applies x e0.platform about1 = true :=
  (Spec.applies_iff w_frames).mpr ⟨w_running, w_runnable, w_alone, w_named, w_hears, w_ripe, w_room, w_tables⟩
theorem atStart : AtStart classFile x code maxLocals ret World_1 tables_1 room_1 Calls_1 rest_1 Pre_1 launch0 p0 e0 about1 theMethod args0 below0 :=
  ⟨lists_1, trivial, launch0.admits_env _ _ _, launch0.least_env, fairChoices_fair.cas, fairChoices_fair.clock, w_frames, w_args, w_heap, w_applies, trivial, trivial, w_case⟩
end start1
theorem witness_1 : WitnessClaimed_1 := ⟨start1.p0, start1.e0, start1.about1, start1.theMethod, start1.args0, start1.below0, start1.atStart⟩
end Jvm.Pilot.@@N@@
