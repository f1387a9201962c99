import JvmDerived
import JvmDerived.Pilot.@@N@@Statement
import JvmDerived.Pilot.@@N@@Code
set_option linter.unusedVariables false
set_option linter.unusedSimpArgs false
namespace Jvm.Pilot.@@N@@
open Jvm Jvm.ClassFile Sem Op Lib Jvm.Free Jvm.Stand Jvm.LawKit Jvm.RoadKit Bundle Jvm.Pilot.@@N@@.Jvm.D
section OwnKit
variable {p : Program} {l : Launch} {e : Env} {R : Room} {s : State} {m : MethodId} {args : Array Value} {below : List Frame} {meth : Method} {c : Code} {T T' : State} {locs : List Loc} {cells slots : Nat} {F F' : JFrame} {K : State → Prop}
/-- from the frame F the run comes to a state that K takes -/
def own_R (p : Program) (e : Env) (below : List Frame) (K : State → Prop) (T : State) (F : JFrame) : Prop := ∃ t, Steps p.tables e below (T.setTop F) t ∧ K t
theorem own_go (h : ∀ t, Steps p.tables e below (T'.setTop F') t → Steps p.tables e below (T.setTop F) t) (r : own_R p e below K T' F') : own_R p e below K T F := by
  obtain ⟨t, h1, h2⟩ := r
  exact ⟨t, h t h1, h2⟩
/-- the end of the body: it returned, and Q holds -/
def own_E (s : State) (below : List Frame) (Q : Option Value → Heap → List Loc → Prop) (k n : Nat) (t : State) : Prop :=
  t.status = .running ∧ ∃ v L, Ended t below (.returned v) ∧ Q v t.heap L ∧ FrameEnd s (.returned v) t L k n
/-- a join: the run stands at F', the heap as I says -/
def own_K (p : Program) (l : Launch) (e : Env) (R : Room) (s : State) (m : MethodId) (args : Array Value) (below : List Frame) (meth : Method) (c : Code) (n0 cells slots : Nat) (I : Heap → Prop) (F' : JFrame) (t : State) : Prop :=
  ∃ (T' : State) (L' : List Loc), t = T'.setTop F' ∧ Stand p l e R s m args below meth c T' L' cells slots ∧ I T'.heap ∧ Fr n0 L'
theorem own_here {n0 : Nat} {I : Heap → Prop} (X : Stand p l e R s m args below meth c T locs cells slots) (i : I T.heap) (N : Fr n0 locs) : own_R p e below (own_K p l e R s m args below meth c n0 cells slots I F) T F :=
  ⟨_, Steps.refl _, T, locs, rfl, X, i, N⟩
theorem own_retN {Q : Option Value → Heap → List Loc → Prop} {k n : Nat} (X : Stand p l e R s m args below meth c T locs cells slots) (hx : p.tables.exec = Jvm.exec) {pc : Nat} {Ls : Array Slot} {z : Int32} {t : FieldType} {rest : List Value} (hret : meth.sig.returnType = some t) (ht : t = .boolean ∨ t = .byte ∨ t = .char ∨ t = .short) (hlk : meth.locks = false)
    (hd : decode c.code pc = .ok (.ireturn, 1)) (hk : cells ≤ k) (hn : slots ≤ n) (hQ : Q (some (.int (nar t z))) T.heap locs) : own_R p e below (own_E s below Q k n) T (mkF m pc Ls (.int z :: rest)) := by
  obtain ⟨fs, hr, hrun, hended, hW, hsame⟩ := X.leave (v := some (.int (nar t z))) (fun h => by rw [hret] at h; cases h) hlk
  exact ⟨_, retN X hx hret ht hd hr, hrun, _, _, hended, hQ, ⟨_, rfl⟩, hW, hsame.mono hk hn⟩
theorem own_retW {Q : Option Value → Heap → List Loc → Prop} {k n : Nat} (X : Stand p l e R s m args below meth c T locs cells slots) (hx : p.tables.exec = Jvm.exec) {pc : Nat} {Ls : Array Slot} {w : Value} {t : FieldType} {i : Instr} {rest : List Value} (hret : meth.sig.returnType = some t) (hnw : narrow t w = w)
    (hi : (i = .ireturn ∧ (t = .int ∨ t = .boolean ∨ t = .byte ∨ t = .char ∨ t = .short) ∧ ∃ z, w = .int z) ∨ (i = .lreturn ∧ t = .long ∧ ∃ z, w = .long z) ∨ (i = .dreturn ∧ t = .double ∧ ∃ z, w = .double z) ∨ (i = .freturn ∧ t = .float ∧ ∃ z, w = .float z) ∨ (i = .areturn ∧ t.isReference = true ∧ w.isRef = true)) (hlk : meth.locks = false)
    (hd : decode c.code pc = .ok (i, 1)) (hk : cells ≤ k) (hn : slots ≤ n) (hQ : Q (some w) T.heap locs) : own_R p e below (own_E s below Q k n) T (mkF m pc Ls (w :: rest)) := by
  obtain ⟨fs, hr, hrun, hended, hW, hsame⟩ := X.leave (v := some w) (fun h => by rw [hret] at h; cases h) hlk
  exact ⟨_, retOut X hx hret hnw hi hd hr, hrun, _, _, hended, hQ, ⟨_, rfl⟩, hW, hsame.mono hk hn⟩
theorem own_retV {Q : Option Value → Heap → List Loc → Prop} {k n : Nat} (X : Stand p l e R s m args below meth c T locs cells slots) (hx : p.tables.exec = Jvm.exec) {pc : Nat} {Ls : Array Slot} (hret : meth.sig.returnType = none) (hlk : meth.locks = false)
    (hd : decode c.code pc = .ok (.return_, 1)) (hk : cells ≤ k) (hn : slots ≤ n) (hQ : Q none T.heap locs) : own_R p e below (own_E s below Q k n) T (mkF m pc Ls []) := by
  obtain ⟨fs, hr, hrun, hended, hW, hsame⟩ := X.leave (v := none) (fun _ => rfl) hlk
  exact ⟨_, X.returnOut hx hret hd hr, hrun, _, _, hended, hQ, ⟨_, rfl⟩, hW, hsame.mono hk hn⟩
theorem own_lti {x y : Int32} {a b : Int} (h : x < y) (ha : x.toInt = a) (hb : y.toInt = b) : a < b := by rw [← ha, ← hb]; exact Int32.lt_iff_toInt_lt.mp h
theorem own_nlti {x y : Int32} {a b : Int} (h : ¬ x < y) (ha : x.toInt = a) (hb : y.toInt = b) : b ≤ a := by rw [← ha, ← hb]; rw [Int32.lt_iff_toInt_lt] at h; omega
theorem own_eqi {x y : Int32} {a b : Int} (h : x = y) (ha : x.toInt = a) (hb : y.toInt = b) : a = b := by rw [← ha, ← hb, h]
theorem own_nei {x y : Int32} {a b : Int} (h : ¬ x = y) (ha : x.toInt = a) (hb : y.toInt = b) : a ≠ b := by rw [← ha, ← hb]; exact fun q => h (Int32.toInt_inj.mp q)
theorem own_if0 {P : Prop} [Decidable P] (h : (if P then (1 : Int32) else (0 : Int32)) = (0 : Int32)) : ¬ P := fun q => by rw [if_pos q] at h; exact absurd h (by decide)
theorem own_if1 {P : Prop} [Decidable P] (h : ¬ (if P then (1 : Int32) else (0 : Int32)) = (0 : Int32)) : P := by
  by_cases q : P
  · exact q
  · exact absurd (if_neg q) h
theorem own_b01 {P : Prop} [Decidable P] : nar .boolean (if P then (1 : Int32) else (0 : Int32)) = (if P then (1 : Int32) else (0 : Int32)) := by split <;> rfl
/-- the end of the body, where a String constant may have been interned -/
def own_EW (s : State) (below : List Frame) (Q : Option Value → Heap → List Loc → Prop) (k n : Nat) (t : State) : Prop :=
  t.status = .running ∧ ∃ v L, Ended t below (.returned v) ∧ Q v t.heap L ∧ ReturnedEndW s (.returned v) t L k n
theorem own_retNW {Q : Option Value → Heap → List Loc → Prop} {k n j : Nat} {vm₁ : Vm} (X : Stand p l e R (s.setVm vm₁) m args below meth c T locs cells slots) (hx : p.tables.exec = Jvm.exec) {pc : Nat} {Ls : Array Slot} {z : Int32} {t : FieldType} {rest : List Value} (hret : meth.sig.returnType = some t) (ht : t = .boolean ∨ t = .byte ∨ t = .char ∨ t = .short) (hlk : meth.locks = false)
    (hd : decode c.code pc = .ok (.ireturn, 1)) (hS : s.Since vm₁ j) (hj : j ≤ T.heap.size) (hk : cells ≤ k) (hn : slots ≤ n) (hQ : Q (some (.int (nar t z))) T.heap locs) : own_R p e below (own_EW s below Q k n) T (mkF m pc Ls (.int z :: rest)) := by
  obtain ⟨fs, hr, hrun, hended, h1, h2, h3, h4⟩ := X.leaveW hS hj (v := some (.int (nar t z))) (fun h => by rw [hret] at h; cases h) hlk
  exact ⟨_, retN X hx hret ht hd hr, hrun, _, _, hended, hQ, h1, h2, h3, h4.mono hk hn⟩
end OwnKit
theorem own_arv {s : State} {args : Array Value} {t : Term} {a : Addr} {cl : Cell} {n : Nat} {vs : List Int32} (hf : Fit s) (ev : t.eval args s none [] s = some (.ref a)) (A : Arr s s.heap a cl .int) (hn : n < 2147483648) (hlen : (Term.length t).eval args s none [] s = some (.int (Int32.ofNat n)))
    (hl : vs.length = n) (hel : ∀ i, i < n → (Term.elem t (.int (Int32.ofNat i))).eval args s none [] s = some (.int (vs.getD i 0))) : Arv s s.heap a cl.cls .int (Int32.ofNat n) (vs.map Value.int) (.int (0 : Int32)) := by
  obtain ⟨sd, SA, hev, harrAt, -⟩ := Term.length_spec hlen
  have h31 := Jvm.Free.SBG.length_lt hev harrAt hlen
  cases Option.some.inj (hev.symm.trans ev)
  cases Option.some.inj (harrAt.symm.trans (Arr.fin (State.Warmed39.refl s).alike A))
  have hsz : cl.slots.size = n := by
    have e := len_f ev harrAt h31
    have h2 : cl.slots.size.toInt32 = Int32.ofNat n := by simpa using Option.some.inj (e.symm.trans hlen)
    have := congrArg Int32.toInt h2
    rw [len_toInt h31, Int32.toInt_ofNat_small hn] at this; omega
  have hz : (Int32.ofNat n).toNatClampNeg = n := by simp only [Int32.toNatClampNeg, Int32.toInt_ofNat_small hn]; rfl
  have hat : ∀ i, i < n → cl.slots[i]? = some (.int (vs.getD i 0)) := fun i hi => by
    have hi' : i < 2147483648 := by omega
    have e := (elem_in (hel i hi) ev rfl A.1).2
    have ei : (Int32.ofNat i).toNatClampNeg = i := by simp only [Int32.toNatClampNeg, Int32.toInt_ofNat_small hi']; rfl
    rw [ei] at e; exact e
  have hg : ∀ i, (vs.map Value.int).getD i (.int (0 : Int32)) = .int (vs.getD i 0) := fun i => by
    simp only [List.getD_eq_getElem?_getD, List.getElem?_map]
    cases vs[i]? <;> rfl
  refine ⟨cl, A, rfl, by rw [hz, hsz], ?_, fun i hi => by rw [hg]; exact hat i (by omega), fun i hi => by rw [hg]; rfl⟩
  rw [Int32.lt_iff_toInt_lt, Int32.toInt_ofNat_small hn]
  have : (0 : Int32).toInt = 0 := rfl
  omega
theorem pd_0 : parseMethodDescriptor "(I)Z" = some ⟨[.int], some .boolean⟩ := by decide +kernel
theorem pd_1 : parseMethodDescriptor "(III)Z" = some ⟨[.int, .int, .int], some .boolean⟩ := by decide +kernel
abbrev own_l (c : Int) : Prop := (65 ≤ c ∧ c ≤ 90) ∨ (97 ≤ c ∧ c ≤ 122) ∨ (192 ≤ c ∧ c ≤ 214) ∨ (216 ≤ c ∧ c ≤ 246) ∨ (248 ≤ c ∧ c ≤ 767) ∨ (880 ≤ c ∧ c ≤ 893) ∨ (895 ≤ c ∧ c ≤ 8191) ∨ (8204 ≤ c ∧ c ≤ 8205) ∨ (8304 ≤ c ∧ c ≤ 8591) ∨ (11264 ≤ c ∧ c ≤ 12271) ∨ (12289 ≤ c ∧ c ≤ 55295) ∨ (63744 ≤ c ∧ c ≤ 64975) ∨ (65008 ≤ c ∧ c ≤ 65533) ∨ (65536 ≤ c ∧ c ≤ 983039)
theorem d1_0 : decode prog_37_method_8_code 0 = .ok (.iload_n 0, 1) := by decide +kernel
theorem d1_1 : decode prog_37_method_8_code 1 = .ok (.sipush 128, 3) := by decide +kernel
theorem d1_4 : decode prog_37_method_8_code 4 = .ok (.if_icmp .ge 33, 3) := by decide +kernel
theorem d1_7 : decode prog_37_method_8_code 7 = .ok (.iload_n 0, 1) := by decide +kernel
theorem d1_8 : decode prog_37_method_8_code 8 = .ok (.bipush 97, 2) := by decide +kernel
theorem d1_10 : decode prog_37_method_8_code 10 = .ok (.if_icmp .lt 9, 3) := by decide +kernel
theorem d1_13 : decode prog_37_method_8_code 13 = .ok (.iload_n 0, 1) := by decide +kernel
theorem d1_14 : decode prog_37_method_8_code 14 = .ok (.bipush 122, 2) := by decide +kernel
theorem d1_16 : decode prog_37_method_8_code 16 = .ok (.if_icmp .le 15, 3) := by decide +kernel
theorem d1_19 : decode prog_37_method_8_code 19 = .ok (.iload_n 0, 1) := by decide +kernel
theorem d1_20 : decode prog_37_method_8_code 20 = .ok (.bipush 65, 2) := by decide +kernel
theorem d1_22 : decode prog_37_method_8_code 22 = .ok (.if_icmp .lt 13, 3) := by decide +kernel
theorem d1_25 : decode prog_37_method_8_code 25 = .ok (.iload_n 0, 1) := by decide +kernel
theorem d1_26 : decode prog_37_method_8_code 26 = .ok (.bipush 90, 2) := by decide +kernel
theorem d1_28 : decode prog_37_method_8_code 28 = .ok (.if_icmp .gt 7, 3) := by decide +kernel
theorem d1_31 : decode prog_37_method_8_code 31 = .ok (.iconst 1, 1) := by decide +kernel
theorem d1_32 : decode prog_37_method_8_code 32 = .ok (.goto 4, 3) := by decide +kernel
theorem d1_35 : decode prog_37_method_8_code 35 = .ok (.iconst 0, 1) := by decide +kernel
theorem d1_36 : decode prog_37_method_8_code 36 = .ok (.ireturn, 1) := by decide +kernel
theorem d1_37 : decode prog_37_method_8_code 37 = .ok (.iconst 0, 1) := by decide +kernel
theorem d1_38 : decode prog_37_method_8_code 38 = .ok (.istore_n 1, 1) := by decide +kernel
theorem d1_39 : decode prog_37_method_8_code 39 = .ok (.iload_n 1, 1) := by decide +kernel
theorem d1_40 : decode prog_37_method_8_code 40 = .ok (.getstatic 109, 3) := by decide +kernel
theorem d1_43 : decode prog_37_method_8_code 43 = .ok (.arraylength, 1) := by decide +kernel
theorem d1_44 : decode prog_37_method_8_code 44 = .ok (.if_icmp .ge 33, 3) := by decide +kernel
theorem d1_47 : decode prog_37_method_8_code 47 = .ok (.iload_n 0, 1) := by decide +kernel
theorem d1_48 : decode prog_37_method_8_code 48 = .ok (.getstatic 109, 3) := by decide +kernel
theorem d1_51 : decode prog_37_method_8_code 51 = .ok (.iload_n 1, 1) := by decide +kernel
theorem d1_52 : decode prog_37_method_8_code 52 = .ok (.iaload, 1) := by decide +kernel
theorem d1_53 : decode prog_37_method_8_code 53 = .ok (.if_icmp .ge 5, 3) := by decide +kernel
theorem d1_56 : decode prog_37_method_8_code 56 = .ok (.iconst 0, 1) := by decide +kernel
theorem d1_57 : decode prog_37_method_8_code 57 = .ok (.ireturn, 1) := by decide +kernel
theorem d1_58 : decode prog_37_method_8_code 58 = .ok (.iload_n 0, 1) := by decide +kernel
theorem d1_59 : decode prog_37_method_8_code 59 = .ok (.getstatic 109, 3) := by decide +kernel
theorem d1_62 : decode prog_37_method_8_code 62 = .ok (.iload_n 1, 1) := by decide +kernel
theorem d1_63 : decode prog_37_method_8_code 63 = .ok (.iconst 1, 1) := by decide +kernel
theorem d1_64 : decode prog_37_method_8_code 64 = .ok (.iadd, 1) := by decide +kernel
theorem d1_65 : decode prog_37_method_8_code 65 = .ok (.iaload, 1) := by decide +kernel
theorem d1_66 : decode prog_37_method_8_code 66 = .ok (.if_icmp .gt 5, 3) := by decide +kernel
theorem d1_69 : decode prog_37_method_8_code 69 = .ok (.iconst 1, 1) := by decide +kernel
theorem d1_70 : decode prog_37_method_8_code 70 = .ok (.ireturn, 1) := by decide +kernel
theorem d1_71 : decode prog_37_method_8_code 71 = .ok (.iinc 1 2, 3) := by decide +kernel
theorem d1_74 : decode prog_37_method_8_code 74 = .ok (.goto (-35), 3) := by decide +kernel
theorem d1_77 : decode prog_37_method_8_code 77 = .ok (.iconst 0, 1) := by decide +kernel
theorem d1_78 : decode prog_37_method_8_code 78 = .ok (.ireturn, 1) := by decide +kernel
theorem pn_0 : plainName "com/example/interpretant/interpretant/model/BlankNode" = true := by first | (simp [plainName, overriddenIn]; done) | decide +kernel
theorem ef_isl (m : MethodId) (x0 : Int32) : entryFrame m #[(.int x0)] 2 = mkF m 0 #[.val (.int x0), .unset] [] := by first | (simp [entryFrame, mkF, argsToLocals, Value.category]; done) | rfl
def Qisl (Z : State) (p1 : Int32) (w : Addr) (kw : ClassId) (h0 : Heap) (n0 : Nat) (v : Option Value) (h : Heap) (L : List Loc) : Prop := v = some (.int (if own_l (Int32.toInt p1) then (1 : Int32) else (0 : Int32))) ∧ Fr n0 L ∧ h = h0
set_option maxRecDepth 65536 in
set_option maxHeartbeats 40000000 in
theorem rmisl (l : Launch) (Z : State) (a0 : Array Value) (hw : ∀ d ∈ tables_1, d.before a0 Z = true) (ws : List Jvm.Cond) (p1 : Int32) (w : Addr) (kw : ClassId) (h0 : Heap) (n0 : Nat) (Z0 : n0 ≤ h0.size) (V_w : Arv Z h0 w kw .int (28 : Int32) [(.int (65 : Int32)), (.int (90 : Int32)), (.int (97 : Int32)), (.int (122 : Int32)), (.int (192 : Int32)), (.int (214 : Int32)), (.int (216 : Int32)), (.int (246 : Int32)), (.int (248 : Int32)), (.int (767 : Int32)), (.int (880 : Int32)), (.int (893 : Int32)), (.int (895 : Int32)), (.int (8191 : Int32)), (.int (8204 : Int32)), (.int (8205 : Int32)), (.int (8304 : Int32)), (.int (8591 : Int32)), (.int (11264 : Int32)), (.int (12271 : Int32)), (.int (12289 : Int32)), (.int (55295 : Int32)), (.int (63744 : Int32)), (.int (64975 : Int32)), (.int (65008 : Int32)), (.int (65533 : Int32)), (.int (65536 : Int32)), (.int (983039 : Int32))] (.int (0 : Int32))) (S_LETTERS : Sta Z h0 "com/example/interpretant/interpretant/model/BlankNode" "LETTERS" "[I" (.ref w)) :
    MetFree l (⟨"com/example/interpretant/interpretant/model/BlankNode", "isLetter", "(I)Z"⟩ : MethodName) (head1 (Jvm.Cond.code (⟨"com/example/interpretant/interpretant/model/BlankNode", "isLetter", "(I)Z"⟩ : MethodName) prog_37_method_8_code 2 (some .boolean) :: ws) ({ frames := 0, cells := 0, slots := 0, locals := 0 } : Room)) (fun aS U => aS = #[(.int p1)] ∧ Z.Warmed39 U.vm ∧ U.heap = h0) (fun _ _ _ _ _ => True) (fun _ U o U' => ∃ v L, o = .returned v ∧ Qisl Z p1 w kw h0 n0 v U'.heap L ∧ FrameEnd U o U' L ({ frames := 0, cells := 0, slots := 0, locals := 0 } : Room).cells ({ frames := 0, cells := 0, slots := 0, locals := 0 } : Room).slots) := by
  refine MetFree.of_bodySF (plainFor_of_name pn_0) hisR ?_
  intro p e s m args below meth c s₁ Bd hml0 hP hK
  obtain ⟨rfl, hZ, hh⟩ := hP
  have hx := Bd.exec
  have hby := Bd.bytes
  have hml : c.maxLocals = 2 := hml0
  have hown : s.vm.findClass "com/example/interpretant/interpretant/model/BlankNode" = some m.cls := findClass_of_methodNamed Bd.named
  have hnm := (name_of_methodNamed Bd.named Bd.method).1
  have X0 : Stand p l e ({ frames := 0, cells := 0, slots := 0, locals := 0 } : Room) s m #[(.int p1)] below meth c s₁ [] 0 0 := Stand.of_body Bd
  have e0 : s₁.heap = h0 := by rw [← hh, Bd.state]; rfl
  have N0 := Fr.nil n0
  have Kh : Keep h0 h0 [] := Keep.refl _ _
  suffices H : own_R p e below (own_E s below (Qisl Z p1 w kw h0 n0) ({ frames := 0, cells := 0, slots := 0, locals := 0 } : Room).cells ({ frames := 0, cells := 0, slots := 0, locals := 0 } : Room).slots) s₁ (mkF m 0 #[.val (.int p1), .unset] []) by
    obtain ⟨t, hst, hrun, v, L, hend, hQ, hF⟩ := H
    exact ⟨t, _, castTop (ef_isl m p1) hst, hrun, hend, v, L, rfl, hQ, hF⟩
  show own_R p e below _ s₁ (mkF m 0 #[.val (.int p1), .unset] [])
  refine own_go (fun t k => XS.iloadN X0.here hx rfl (hb hby d1_0) rfl  k) ?_
  show own_R p e below _ s₁ (mkF m 1 #[.val (.int p1), .unset] [(.int p1)])
  refine own_go (fun t k => XS.sipush X0.here hx rfl (hb hby d1_1) k) ?_
  show own_R p e below _ s₁ (mkF m 4 #[.val (.int p1), .unset] [(.int (128 : Int32)), (.int p1)])
  by_cases hc4_1 : p1 < (128 : Int32)
  · -- pc 4: yes
    refine own_go (fun t k => XS.icmpNo X0.here hx rfl (hb hby d1_4) rfl (tlt hc4_1).2.1 k) ?_
    show own_R p e below _ s₁ (mkF m 7 #[.val (.int p1), .unset] [])
    refine own_go (fun t k => XS.iloadN X0.here hx rfl (hb hby d1_7) rfl  k) ?_
    show own_R p e below _ s₁ (mkF m 8 #[.val (.int p1), .unset] [(.int p1)])
    refine own_go (fun t k => XS.bipush X0.here hx rfl (hb hby d1_8) k) ?_
    show own_R p e below _ s₁ (mkF m 10 #[.val (.int p1), .unset] [(.int (97 : Int32)), (.int p1)])
    by_cases hc10_2 : p1 < (97 : Int32)
    · -- pc 10: yes
      refine own_go (fun t k => XS.icmpYes X0.here hx rfl (pc0 := 10) (pc' := 19) rfl (hb hby d1_10) rfl (tlt hc10_2).1 (by decide) (by decide) k) ?_
      show own_R p e below _ s₁ (mkF m 19 #[.val (.int p1), .unset] [])
      refine own_go (fun t k => XS.iloadN X0.here hx rfl (hb hby d1_19) rfl  k) ?_
      show own_R p e below _ s₁ (mkF m 20 #[.val (.int p1), .unset] [(.int p1)])
      refine own_go (fun t k => XS.bipush X0.here hx rfl (hb hby d1_20) k) ?_
      show own_R p e below _ s₁ (mkF m 22 #[.val (.int p1), .unset] [(.int (65 : Int32)), (.int p1)])
      by_cases hc22_3 : p1 < (65 : Int32)
      · -- pc 22: yes
        refine own_go (fun t k => XS.icmpYes X0.here hx rfl (pc0 := 22) (pc' := 35) rfl (hb hby d1_22) rfl (tlt hc22_3).1 (by decide) (by decide) k) ?_
        show own_R p e below _ s₁ (mkF m 35 #[.val (.int p1), .unset] [])
        refine own_go (fun t k => XS.iconst X0.here hx rfl (hb hby d1_35) k) ?_
        show own_R p e below _ s₁ (mkF m 36 #[.val (.int p1), .unset] [(.int (0 : Int32))])
        refine own_retN X0 hx Bd.returns (by simp) (BodyLoose.notSynchronized Bd) (hb hby d1_36) (by decide) (by decide) ?_
        have z4 : p1.toInt < 128 := own_lti hc4_1 rfl rfl
        have z5 : p1.toInt < 97 := own_lti hc10_2 rfl rfl
        have z6 : p1.toInt < 65 := own_lti hc22_3 rfl rfl
        exact ⟨by rw [if_neg (by unfold own_l; omega)]; rfl, N0, e0⟩
      · -- pc 22: no
        refine own_go (fun t k => XS.icmpNo X0.here hx rfl (hb hby d1_22) rfl (flt hc22_3).1 k) ?_
        show own_R p e below _ s₁ (mkF m 25 #[.val (.int p1), .unset] [])
        refine own_go (fun t k => XS.iloadN X0.here hx rfl (hb hby d1_25) rfl  k) ?_
        show own_R p e below _ s₁ (mkF m 26 #[.val (.int p1), .unset] [(.int p1)])
        refine own_go (fun t k => XS.bipush X0.here hx rfl (hb hby d1_26) k) ?_
        show own_R p e below _ s₁ (mkF m 28 #[.val (.int p1), .unset] [(.int (90 : Int32)), (.int p1)])
        by_cases hc28_7 : (90 : Int32) < p1
        · -- pc 28: yes
          refine own_go (fun t k => XS.icmpYes X0.here hx rfl (pc0 := 28) (pc' := 35) rfl (hb hby d1_28) rfl (tlt hc28_7).2.2.1 (by decide) (by decide) k) ?_
          show own_R p e below _ s₁ (mkF m 35 #[.val (.int p1), .unset] [])
          refine own_go (fun t k => XS.iconst X0.here hx rfl (hb hby d1_35) k) ?_
          show own_R p e below _ s₁ (mkF m 36 #[.val (.int p1), .unset] [(.int (0 : Int32))])
          refine own_retN X0 hx Bd.returns (by simp) (BodyLoose.notSynchronized Bd) (hb hby d1_36) (by decide) (by decide) ?_
          have z8 : p1.toInt < 128 := own_lti hc4_1 rfl rfl
          have z9 : p1.toInt < 97 := own_lti hc10_2 rfl rfl
          have z10 : 65 ≤ p1.toInt := own_nlti hc22_3 rfl rfl
          have z11 : 90 < p1.toInt := own_lti hc28_7 rfl rfl
          exact ⟨by rw [if_neg (by unfold own_l; omega)]; rfl, N0, e0⟩
        · -- pc 28: no
          refine own_go (fun t k => XS.icmpNo X0.here hx rfl (hb hby d1_28) rfl (flt hc28_7).2.2.1 k) ?_
          show own_R p e below _ s₁ (mkF m 31 #[.val (.int p1), .unset] [])
          refine own_go (fun t k => XS.iconst X0.here hx rfl (hb hby d1_31) k) ?_
          show own_R p e below _ s₁ (mkF m 32 #[.val (.int p1), .unset] [(.int (1 : Int32))])
          refine own_go (fun t k => XS.goto X0.here hx rfl (pc0 := 32) (pc' := 36) rfl (hb hby d1_32) (by decide) (by decide) k) ?_
          show own_R p e below _ s₁ (mkF m 36 #[.val (.int p1), .unset] [(.int (1 : Int32))])
          refine own_retN X0 hx Bd.returns (by simp) (BodyLoose.notSynchronized Bd) (hb hby d1_36) (by decide) (by decide) ?_
          have z12 : p1.toInt < 128 := own_lti hc4_1 rfl rfl
          have z13 : p1.toInt < 97 := own_lti hc10_2 rfl rfl
          have z14 : 65 ≤ p1.toInt := own_nlti hc22_3 rfl rfl
          have z15 : p1.toInt ≤ 90 := own_nlti hc28_7 rfl rfl
          exact ⟨by rw [if_pos (by unfold own_l; omega)]; rfl, N0, e0⟩
    · -- pc 10: no
      refine own_go (fun t k => XS.icmpNo X0.here hx rfl (hb hby d1_10) rfl (flt hc10_2).1 k) ?_
      show own_R p e below _ s₁ (mkF m 13 #[.val (.int p1), .unset] [])
      refine own_go (fun t k => XS.iloadN X0.here hx rfl (hb hby d1_13) rfl  k) ?_
      show own_R p e below _ s₁ (mkF m 14 #[.val (.int p1), .unset] [(.int p1)])
      refine own_go (fun t k => XS.bipush X0.here hx rfl (hb hby d1_14) k) ?_
      show own_R p e below _ s₁ (mkF m 16 #[.val (.int p1), .unset] [(.int (122 : Int32)), (.int p1)])
      by_cases hc16_16 : (122 : Int32) < p1
      · -- pc 16: yes
        refine own_go (fun t k => XS.icmpNo X0.here hx rfl (hb hby d1_16) rfl (tlt hc16_16).2.2.2 k) ?_
        show own_R p e below _ s₁ (mkF m 19 #[.val (.int p1), .unset] [])
        refine own_go (fun t k => XS.iloadN X0.here hx rfl (hb hby d1_19) rfl  k) ?_
        show own_R p e below _ s₁ (mkF m 20 #[.val (.int p1), .unset] [(.int p1)])
        refine own_go (fun t k => XS.bipush X0.here hx rfl (hb hby d1_20) k) ?_
        show own_R p e below _ s₁ (mkF m 22 #[.val (.int p1), .unset] [(.int (65 : Int32)), (.int p1)])
        by_cases hc22_17 : p1 < (65 : Int32)
        · -- pc 22: yes
          refine own_go (fun t k => XS.icmpYes X0.here hx rfl (pc0 := 22) (pc' := 35) rfl (hb hby d1_22) rfl (tlt hc22_17).1 (by decide) (by decide) k) ?_
          show own_R p e below _ s₁ (mkF m 35 #[.val (.int p1), .unset] [])
          refine own_go (fun t k => XS.iconst X0.here hx rfl (hb hby d1_35) k) ?_
          show own_R p e below _ s₁ (mkF m 36 #[.val (.int p1), .unset] [(.int (0 : Int32))])
          refine own_retN X0 hx Bd.returns (by simp) (BodyLoose.notSynchronized Bd) (hb hby d1_36) (by decide) (by decide) ?_
          have z18 : p1.toInt < 128 := own_lti hc4_1 rfl rfl
          have z19 : 97 ≤ p1.toInt := own_nlti hc10_2 rfl rfl
          have z20 : 122 < p1.toInt := own_lti hc16_16 rfl rfl
          have z21 : p1.toInt < 65 := own_lti hc22_17 rfl rfl
          exact ⟨by rw [if_neg (by unfold own_l; omega)]; rfl, N0, e0⟩
        · -- pc 22: no
          refine own_go (fun t k => XS.icmpNo X0.here hx rfl (hb hby d1_22) rfl (flt hc22_17).1 k) ?_
          show own_R p e below _ s₁ (mkF m 25 #[.val (.int p1), .unset] [])
          refine own_go (fun t k => XS.iloadN X0.here hx rfl (hb hby d1_25) rfl  k) ?_
          show own_R p e below _ s₁ (mkF m 26 #[.val (.int p1), .unset] [(.int p1)])
          refine own_go (fun t k => XS.bipush X0.here hx rfl (hb hby d1_26) k) ?_
          show own_R p e below _ s₁ (mkF m 28 #[.val (.int p1), .unset] [(.int (90 : Int32)), (.int p1)])
          by_cases hc28_22 : (90 : Int32) < p1
          · -- pc 28: yes
            refine own_go (fun t k => XS.icmpYes X0.here hx rfl (pc0 := 28) (pc' := 35) rfl (hb hby d1_28) rfl (tlt hc28_22).2.2.1 (by decide) (by decide) k) ?_
            show own_R p e below _ s₁ (mkF m 35 #[.val (.int p1), .unset] [])
            refine own_go (fun t k => XS.iconst X0.here hx rfl (hb hby d1_35) k) ?_
            show own_R p e below _ s₁ (mkF m 36 #[.val (.int p1), .unset] [(.int (0 : Int32))])
            refine own_retN X0 hx Bd.returns (by simp) (BodyLoose.notSynchronized Bd) (hb hby d1_36) (by decide) (by decide) ?_
            have z23 : p1.toInt < 128 := own_lti hc4_1 rfl rfl
            have z24 : 97 ≤ p1.toInt := own_nlti hc10_2 rfl rfl
            have z25 : 122 < p1.toInt := own_lti hc16_16 rfl rfl
            have z26 : 65 ≤ p1.toInt := own_nlti hc22_17 rfl rfl
            have z27 : 90 < p1.toInt := own_lti hc28_22 rfl rfl
            exact ⟨by rw [if_neg (by unfold own_l; omega)]; rfl, N0, e0⟩
          · -- pc 28: no
            refine own_go (fun t k => XS.icmpNo X0.here hx rfl (hb hby d1_28) rfl (flt hc28_22).2.2.1 k) ?_
            show own_R p e below _ s₁ (mkF m 31 #[.val (.int p1), .unset] [])
            refine own_go (fun t k => XS.iconst X0.here hx rfl (hb hby d1_31) k) ?_
            show own_R p e below _ s₁ (mkF m 32 #[.val (.int p1), .unset] [(.int (1 : Int32))])
            refine own_go (fun t k => XS.goto X0.here hx rfl (pc0 := 32) (pc' := 36) rfl (hb hby d1_32) (by decide) (by decide) k) ?_
            show own_R p e below _ s₁ (mkF m 36 #[.val (.int p1), .unset] [(.int (1 : Int32))])
            refine own_retN X0 hx Bd.returns (by simp) (BodyLoose.notSynchronized Bd) (hb hby d1_36) (by decide) (by decide) ?_
            have z28 : p1.toInt < 128 := own_lti hc4_1 rfl rfl
            have z29 : 97 ≤ p1.toInt := own_nlti hc10_2 rfl rfl
            have z30 : 122 < p1.toInt := own_lti hc16_16 rfl rfl
            have z31 : 65 ≤ p1.toInt := own_nlti hc22_17 rfl rfl
            have z32 : p1.toInt ≤ 90 := own_nlti hc28_22 rfl rfl
            exact ⟨by rw [if_pos (by unfold own_l; omega)]; rfl, N0, e0⟩
      · -- pc 16: no
        refine own_go (fun t k => XS.icmpYes X0.here hx rfl (pc0 := 16) (pc' := 31) rfl (hb hby d1_16) rfl (flt hc16_16).2.2.2 (by decide) (by decide) k) ?_
        show own_R p e below _ s₁ (mkF m 31 #[.val (.int p1), .unset] [])
        refine own_go (fun t k => XS.iconst X0.here hx rfl (hb hby d1_31) k) ?_
        show own_R p e below _ s₁ (mkF m 32 #[.val (.int p1), .unset] [(.int (1 : Int32))])
        refine own_go (fun t k => XS.goto X0.here hx rfl (pc0 := 32) (pc' := 36) rfl (hb hby d1_32) (by decide) (by decide) k) ?_
        show own_R p e below _ s₁ (mkF m 36 #[.val (.int p1), .unset] [(.int (1 : Int32))])
        refine own_retN X0 hx Bd.returns (by simp) (BodyLoose.notSynchronized Bd) (hb hby d1_36) (by decide) (by decide) ?_
        have z33 : p1.toInt < 128 := own_lti hc4_1 rfl rfl
        have z34 : 97 ≤ p1.toInt := own_nlti hc10_2 rfl rfl
        have z35 : p1.toInt ≤ 122 := own_nlti hc16_16 rfl rfl
        exact ⟨by rw [if_pos (by unfold own_l; omega)]; rfl, N0, e0⟩
  · -- pc 4: no
    refine own_go (fun t k => XS.icmpYes X0.here hx rfl (pc0 := 4) (pc' := 37) rfl (hb hby d1_4) rfl (flt hc4_1).2.1 (by decide) (by decide) k) ?_
    show own_R p e below _ s₁ (mkF m 37 #[.val (.int p1), .unset] [])
    refine own_go (fun t k => XS.iconst X0.here hx rfl (hb hby d1_37) k) ?_
    show own_R p e below _ s₁ (mkF m 38 #[.val (.int p1), .unset] [(.int (0 : Int32))])
    refine own_go (fun t k => XS.istoreN X0.here hx rfl (hb hby d1_38) rfl (l' := #[.val (.int p1), .val (.int (0 : Int32))]) rfl k) ?_
    show own_R p e below _ s₁ (mkF m 39 #[.val (.int p1), .val (.int (0 : Int32))] [])
    refine own_go (fun t k => XS.iloadN X0.here hx rfl (hb hby d1_39) rfl  k) ?_
    show own_R p e below _ s₁ (mkF m 40 #[.val (.int p1), .val (.int (0 : Int32))] [(.int (0 : Int32))])
    obtain ⟨T36, X36, e36, st36⟩ := getS2 X0 hx hZ hown (host := "") (Or.inl (hw _ (List.mem_of_getElem? (i := 18) rfl))) Via.refl e0 S_LETTERS (g := (mkF m 40 #[.val (.int p1), .val (.int (0 : Int32))] [(.int (0 : Int32))])) rfl (hb hby d1_40)
    refine own_go (st36) ?_
    show own_R p e below _ T36 (mkF m 43 #[.val (.int p1), .val (.int (0 : Int32))] [(.ref w), (.int (0 : Int32))])
    obtain ⟨cl37, Ar37, q37, S37, Nn37, Hh37, G37⟩ := id V_w
    refine own_go (X36.arraylength hx (by rw [e36]; exact Ar37.1) (State.isArrayOf_alike hZ.alike Ar37.2.1) (g := (mkF m 43 #[.val (.int p1), .val (.int (0 : Int32))] [(.ref w), (.int (0 : Int32))])) rfl rfl (hb hby d1_43)) ?_
    rw [len_of S37 Nn37]
    show own_R p e below _ T36 (mkF m 44 #[.val (.int p1), .val (.int (0 : Int32))] [(.int (28 : Int32)), (.int (0 : Int32))])
    refine own_go (fun t k => XS.icmpNo X36.here hx rfl (hb hby d1_44) rfl (tlt (by decide : (0 : Int32) < (28 : Int32))).2.1 k) ?_
    show own_R p e below _ T36 (mkF m 47 #[.val (.int p1), .val (.int (0 : Int32))] [])
    refine own_go (fun t k => XS.iloadN X36.here hx rfl (hb hby d1_47) rfl  k) ?_
    show own_R p e below _ T36 (mkF m 48 #[.val (.int p1), .val (.int (0 : Int32))] [(.int p1)])
    obtain ⟨T38, X38, e38, st38⟩ := getS2 X36 hx hZ hown (host := "") (Or.inl (hw _ (List.mem_of_getElem? (i := 18) rfl))) Via.refl e36 S_LETTERS (g := (mkF m 48 #[.val (.int p1), .val (.int (0 : Int32))] [(.int p1)])) rfl (hb hby d1_48)
    refine own_go (st38) ?_
    show own_R p e below _ T38 (mkF m 51 #[.val (.int p1), .val (.int (0 : Int32))] [(.ref w), (.int p1)])
    refine own_go (fun t k => XS.iloadN X38.here hx rfl (hb hby d1_51) rfl  k) ?_
    show own_R p e below _ T38 (mkF m 52 #[.val (.int p1), .val (.int (0 : Int32))] [(.int (0 : Int32)), (.ref w), (.int p1)])
    obtain ⟨cl39, Ar39, q39, S39, Nn39, Hh39, G39⟩ := id V_w
    have hin39 : ¬ ((0 : Int32) < 0 ∨ cl39.slots.size ≤ ((0 : Int32)).toNatClampNeg) := inb_of S39 ⟨by decide, by decide⟩
    have hat39 : cl39.slots[((0 : Int32)).toNatClampNeg]? = some (.int (65 : Int32)) := Has.at Hh39 hin39 rfl
    refine own_go (X38.iaload hx (j := (0 : Int32)) (v := (.int (65 : Int32))) (by rw [e38]; exact Ar39.1) (State.isArrayOf_alike hZ.alike Ar39.2.1) Ar39.2.2 hin39 hat39 (g := (mkF m 52 #[.val (.int p1), .val (.int (0 : Int32))] [(.int (0 : Int32)), (.ref w), (.int p1)])) rfl rfl (hb hby d1_52)) ?_
    show own_R p e below _ T38 (mkF m 53 #[.val (.int p1), .val (.int (0 : Int32))] [(.int (65 : Int32)), (.int p1)])
    by_cases hc53_40 : p1 < (65 : Int32)
    · -- pc 53: yes
      refine own_go (fun t k => XS.icmpNo X38.here hx rfl (hb hby d1_53) rfl (tlt hc53_40).2.1 k) ?_
      show own_R p e below _ T38 (mkF m 56 #[.val (.int p1), .val (.int (0 : Int32))] [])
      refine own_go (fun t k => XS.iconst X38.here hx rfl (hb hby d1_56) k) ?_
      show own_R p e below _ T38 (mkF m 57 #[.val (.int p1), .val (.int (0 : Int32))] [(.int (0 : Int32))])
      refine own_retN X38 hx Bd.returns (by simp) (BodyLoose.notSynchronized Bd) (hb hby d1_57) (by decide) (by decide) ?_
      have z41 : 128 ≤ p1.toInt := own_nlti hc4_1 rfl rfl
      have z42 : p1.toInt < 65 := own_lti hc53_40 rfl rfl
      exact ⟨by rw [if_neg (by unfold own_l; omega)]; rfl, N0, e38⟩
    · -- pc 53: no
      refine own_go (fun t k => XS.icmpYes X38.here hx rfl (pc0 := 53) (pc' := 58) rfl (hb hby d1_53) rfl (flt hc53_40).2.1 (by decide) (by decide) k) ?_
      show own_R p e below _ T38 (mkF m 58 #[.val (.int p1), .val (.int (0 : Int32))] [])
      refine own_go (fun t k => XS.iloadN X38.here hx rfl (hb hby d1_58) rfl  k) ?_
      show own_R p e below _ T38 (mkF m 59 #[.val (.int p1), .val (.int (0 : Int32))] [(.int p1)])
      obtain ⟨T43, X43, e43, st43⟩ := getS2 X38 hx hZ hown (host := "") (Or.inl (hw _ (List.mem_of_getElem? (i := 18) rfl))) Via.refl e38 S_LETTERS (g := (mkF m 59 #[.val (.int p1), .val (.int (0 : Int32))] [(.int p1)])) rfl (hb hby d1_59)
      refine own_go (st43) ?_
      show own_R p e below _ T43 (mkF m 62 #[.val (.int p1), .val (.int (0 : Int32))] [(.ref w), (.int p1)])
      refine own_go (fun t k => XS.iloadN X43.here hx rfl (hb hby d1_62) rfl  k) ?_
      show own_R p e below _ T43 (mkF m 63 #[.val (.int p1), .val (.int (0 : Int32))] [(.int (0 : Int32)), (.ref w), (.int p1)])
      refine own_go (fun t k => XS.iconst X43.here hx rfl (hb hby d1_63) k) ?_
      show own_R p e below _ T43 (mkF m 64 #[.val (.int p1), .val (.int (0 : Int32))] [(.int (1 : Int32)), (.int (0 : Int32)), (.ref w), (.int p1)])
      refine own_go (fun t k => XS.iadd X43.here hx rfl (hb hby d1_64) rfl k) ?_
      show own_R p e below _ T43 (mkF m 65 #[.val (.int p1), .val (.int (0 : Int32))] [(.int (1 : Int32)), (.ref w), (.int p1)])
      obtain ⟨cl44, Ar44, q44, S44, Nn44, Hh44, G44⟩ := id V_w
      have hin44 : ¬ ((1 : Int32) < 0 ∨ cl44.slots.size ≤ ((1 : Int32)).toNatClampNeg) := inb_of S44 ⟨by decide, by decide⟩
      have hat44 : cl44.slots[((1 : Int32)).toNatClampNeg]? = some (.int (90 : Int32)) := Has.at Hh44 hin44 rfl
      refine own_go (X43.iaload hx (j := (1 : Int32)) (v := (.int (90 : Int32))) (by rw [e43]; exact Ar44.1) (State.isArrayOf_alike hZ.alike Ar44.2.1) Ar44.2.2 hin44 hat44 (g := (mkF m 65 #[.val (.int p1), .val (.int (0 : Int32))] [(.int (1 : Int32)), (.ref w), (.int p1)])) rfl rfl (hb hby d1_65)) ?_
      show own_R p e below _ T43 (mkF m 66 #[.val (.int p1), .val (.int (0 : Int32))] [(.int (90 : Int32)), (.int p1)])
      by_cases hc66_45 : (90 : Int32) < p1
      · -- pc 66: yes
        refine own_go (fun t k => XS.icmpYes X43.here hx rfl (pc0 := 66) (pc' := 71) rfl (hb hby d1_66) rfl (tlt hc66_45).2.2.1 (by decide) (by decide) k) ?_
        show own_R p e below _ T43 (mkF m 71 #[.val (.int p1), .val (.int (0 : Int32))] [])
        refine own_go (fun t k => XS.iinc X43.here hx rfl (hb hby d1_71) rfl (l' := #[.val (.int p1), .val (.int (2 : Int32))]) rfl k) ?_
        show own_R p e below _ T43 (mkF m 74 #[.val (.int p1), .val (.int (2 : Int32))] [])
        refine own_go (fun t k => XS.goto X43.here hx rfl (pc0 := 74) (pc' := 39) rfl (hb hby d1_74) (by decide) (by decide) k) ?_
        show own_R p e below _ T43 (mkF m 39 #[.val (.int p1), .val (.int (2 : Int32))] [])
        refine own_go (fun t k => XS.iloadN X43.here hx rfl (hb hby d1_39) rfl  k) ?_
        show own_R p e below _ T43 (mkF m 40 #[.val (.int p1), .val (.int (2 : Int32))] [(.int (2 : Int32))])
        obtain ⟨T46, X46, e46, st46⟩ := getS2 X43 hx hZ hown (host := "") (Or.inl (hw _ (List.mem_of_getElem? (i := 18) rfl))) Via.refl e43 S_LETTERS (g := (mkF m 40 #[.val (.int p1), .val (.int (2 : Int32))] [(.int (2 : Int32))])) rfl (hb hby d1_40)
        refine own_go (st46) ?_
        show own_R p e below _ T46 (mkF m 43 #[.val (.int p1), .val (.int (2 : Int32))] [(.ref w), (.int (2 : Int32))])
        obtain ⟨cl47, Ar47, q47, S47, Nn47, Hh47, G47⟩ := id V_w
        refine own_go (X46.arraylength hx (by rw [e46]; exact Ar47.1) (State.isArrayOf_alike hZ.alike Ar47.2.1) (g := (mkF m 43 #[.val (.int p1), .val (.int (2 : Int32))] [(.ref w), (.int (2 : Int32))])) rfl rfl (hb hby d1_43)) ?_
        rw [len_of S47 Nn47]
        show own_R p e below _ T46 (mkF m 44 #[.val (.int p1), .val (.int (2 : Int32))] [(.int (28 : Int32)), (.int (2 : Int32))])
        refine own_go (fun t k => XS.icmpNo X46.here hx rfl (hb hby d1_44) rfl (tlt (by decide : (2 : Int32) < (28 : Int32))).2.1 k) ?_
        show own_R p e below _ T46 (mkF m 47 #[.val (.int p1), .val (.int (2 : Int32))] [])
        refine own_go (fun t k => XS.iloadN X46.here hx rfl (hb hby d1_47) rfl  k) ?_
        show own_R p e below _ T46 (mkF m 48 #[.val (.int p1), .val (.int (2 : Int32))] [(.int p1)])
        obtain ⟨T48, X48, e48, st48⟩ := getS2 X46 hx hZ hown (host := "") (Or.inl (hw _ (List.mem_of_getElem? (i := 18) rfl))) Via.refl e46 S_LETTERS (g := (mkF m 48 #[.val (.int p1), .val (.int (2 : Int32))] [(.int p1)])) rfl (hb hby d1_48)
        refine own_go (st48) ?_
        show own_R p e below _ T48 (mkF m 51 #[.val (.int p1), .val (.int (2 : Int32))] [(.ref w), (.int p1)])
        refine own_go (fun t k => XS.iloadN X48.here hx rfl (hb hby d1_51) rfl  k) ?_
        show own_R p e below _ T48 (mkF m 52 #[.val (.int p1), .val (.int (2 : Int32))] [(.int (2 : Int32)), (.ref w), (.int p1)])
        obtain ⟨cl49, Ar49, q49, S49, Nn49, Hh49, G49⟩ := id V_w
        have hin49 : ¬ ((2 : Int32) < 0 ∨ cl49.slots.size ≤ ((2 : Int32)).toNatClampNeg) := inb_of S49 ⟨by decide, by decide⟩
        have hat49 : cl49.slots[((2 : Int32)).toNatClampNeg]? = some (.int (97 : Int32)) := Has.at Hh49 hin49 rfl
        refine own_go (X48.iaload hx (j := (2 : Int32)) (v := (.int (97 : Int32))) (by rw [e48]; exact Ar49.1) (State.isArrayOf_alike hZ.alike Ar49.2.1) Ar49.2.2 hin49 hat49 (g := (mkF m 52 #[.val (.int p1), .val (.int (2 : Int32))] [(.int (2 : Int32)), (.ref w), (.int p1)])) rfl rfl (hb hby d1_52)) ?_
        show own_R p e below _ T48 (mkF m 53 #[.val (.int p1), .val (.int (2 : Int32))] [(.int (97 : Int32)), (.int p1)])
        by_cases hc53_50 : p1 < (97 : Int32)
        · -- pc 53: yes
          refine own_go (fun t k => XS.icmpNo X48.here hx rfl (hb hby d1_53) rfl (tlt hc53_50).2.1 k) ?_
          show own_R p e below _ T48 (mkF m 56 #[.val (.int p1), .val (.int (2 : Int32))] [])
          refine own_go (fun t k => XS.iconst X48.here hx rfl (hb hby d1_56) k) ?_
          show own_R p e below _ T48 (mkF m 57 #[.val (.int p1), .val (.int (2 : Int32))] [(.int (0 : Int32))])
          refine own_retN X48 hx Bd.returns (by simp) (BodyLoose.notSynchronized Bd) (hb hby d1_57) (by decide) (by decide) ?_
          have z51 : 128 ≤ p1.toInt := own_nlti hc4_1 rfl rfl
          have z52 : 65 ≤ p1.toInt := own_nlti hc53_40 rfl rfl
          have z53 : 90 < p1.toInt := own_lti hc66_45 rfl rfl
          have z54 : p1.toInt < 97 := own_lti hc53_50 rfl rfl
          exact ⟨by rw [if_neg (by unfold own_l; omega)]; rfl, N0, e48⟩
        · -- pc 53: no
          refine own_go (fun t k => XS.icmpYes X48.here hx rfl (pc0 := 53) (pc' := 58) rfl (hb hby d1_53) rfl (flt hc53_50).2.1 (by decide) (by decide) k) ?_
          show own_R p e below _ T48 (mkF m 58 #[.val (.int p1), .val (.int (2 : Int32))] [])
          refine own_go (fun t k => XS.iloadN X48.here hx rfl (hb hby d1_58) rfl  k) ?_
          show own_R p e below _ T48 (mkF m 59 #[.val (.int p1), .val (.int (2 : Int32))] [(.int p1)])
          obtain ⟨T55, X55, e55, st55⟩ := getS2 X48 hx hZ hown (host := "") (Or.inl (hw _ (List.mem_of_getElem? (i := 18) rfl))) Via.refl e48 S_LETTERS (g := (mkF m 59 #[.val (.int p1), .val (.int (2 : Int32))] [(.int p1)])) rfl (hb hby d1_59)
          refine own_go (st55) ?_
          show own_R p e below _ T55 (mkF m 62 #[.val (.int p1), .val (.int (2 : Int32))] [(.ref w), (.int p1)])
          refine own_go (fun t k => XS.iloadN X55.here hx rfl (hb hby d1_62) rfl  k) ?_
          show own_R p e below _ T55 (mkF m 63 #[.val (.int p1), .val (.int (2 : Int32))] [(.int (2 : Int32)), (.ref w), (.int p1)])
          refine own_go (fun t k => XS.iconst X55.here hx rfl (hb hby d1_63) k) ?_
          show own_R p e below _ T55 (mkF m 64 #[.val (.int p1), .val (.int (2 : Int32))] [(.int (1 : Int32)), (.int (2 : Int32)), (.ref w), (.int p1)])
          refine own_go (fun t k => XS.iadd X55.here hx rfl (hb hby d1_64) rfl k) ?_
          show own_R p e below _ T55 (mkF m 65 #[.val (.int p1), .val (.int (2 : Int32))] [(.int (3 : Int32)), (.ref w), (.int p1)])
          obtain ⟨cl56, Ar56, q56, S56, Nn56, Hh56, G56⟩ := id V_w
          have hin56 : ¬ ((3 : Int32) < 0 ∨ cl56.slots.size ≤ ((3 : Int32)).toNatClampNeg) := inb_of S56 ⟨by decide, by decide⟩
          have hat56 : cl56.slots[((3 : Int32)).toNatClampNeg]? = some (.int (122 : Int32)) := Has.at Hh56 hin56 rfl
          refine own_go (X55.iaload hx (j := (3 : Int32)) (v := (.int (122 : Int32))) (by rw [e55]; exact Ar56.1) (State.isArrayOf_alike hZ.alike Ar56.2.1) Ar56.2.2 hin56 hat56 (g := (mkF m 65 #[.val (.int p1), .val (.int (2 : Int32))] [(.int (3 : Int32)), (.ref w), (.int p1)])) rfl rfl (hb hby d1_65)) ?_
          show own_R p e below _ T55 (mkF m 66 #[.val (.int p1), .val (.int (2 : Int32))] [(.int (122 : Int32)), (.int p1)])
          by_cases hc66_57 : (122 : Int32) < p1
          · -- pc 66: yes
            refine own_go (fun t k => XS.icmpYes X55.here hx rfl (pc0 := 66) (pc' := 71) rfl (hb hby d1_66) rfl (tlt hc66_57).2.2.1 (by decide) (by decide) k) ?_
            show own_R p e below _ T55 (mkF m 71 #[.val (.int p1), .val (.int (2 : Int32))] [])
            refine own_go (fun t k => XS.iinc X55.here hx rfl (hb hby d1_71) rfl (l' := #[.val (.int p1), .val (.int (4 : Int32))]) rfl k) ?_
            show own_R p e below _ T55 (mkF m 74 #[.val (.int p1), .val (.int (4 : Int32))] [])
            refine own_go (fun t k => XS.goto X55.here hx rfl (pc0 := 74) (pc' := 39) rfl (hb hby d1_74) (by decide) (by decide) k) ?_
            show own_R p e below _ T55 (mkF m 39 #[.val (.int p1), .val (.int (4 : Int32))] [])
            refine own_go (fun t k => XS.iloadN X55.here hx rfl (hb hby d1_39) rfl  k) ?_
            show own_R p e below _ T55 (mkF m 40 #[.val (.int p1), .val (.int (4 : Int32))] [(.int (4 : Int32))])
            obtain ⟨T58, X58, e58, st58⟩ := getS2 X55 hx hZ hown (host := "") (Or.inl (hw _ (List.mem_of_getElem? (i := 18) rfl))) Via.refl e55 S_LETTERS (g := (mkF m 40 #[.val (.int p1), .val (.int (4 : Int32))] [(.int (4 : Int32))])) rfl (hb hby d1_40)
            refine own_go (st58) ?_
            show own_R p e below _ T58 (mkF m 43 #[.val (.int p1), .val (.int (4 : Int32))] [(.ref w), (.int (4 : Int32))])
            obtain ⟨cl59, Ar59, q59, S59, Nn59, Hh59, G59⟩ := id V_w
            refine own_go (X58.arraylength hx (by rw [e58]; exact Ar59.1) (State.isArrayOf_alike hZ.alike Ar59.2.1) (g := (mkF m 43 #[.val (.int p1), .val (.int (4 : Int32))] [(.ref w), (.int (4 : Int32))])) rfl rfl (hb hby d1_43)) ?_
            rw [len_of S59 Nn59]
            show own_R p e below _ T58 (mkF m 44 #[.val (.int p1), .val (.int (4 : Int32))] [(.int (28 : Int32)), (.int (4 : Int32))])
            refine own_go (fun t k => XS.icmpNo X58.here hx rfl (hb hby d1_44) rfl (tlt (by decide : (4 : Int32) < (28 : Int32))).2.1 k) ?_
            show own_R p e below _ T58 (mkF m 47 #[.val (.int p1), .val (.int (4 : Int32))] [])
            refine own_go (fun t k => XS.iloadN X58.here hx rfl (hb hby d1_47) rfl  k) ?_
            show own_R p e below _ T58 (mkF m 48 #[.val (.int p1), .val (.int (4 : Int32))] [(.int p1)])
            obtain ⟨T60, X60, e60, st60⟩ := getS2 X58 hx hZ hown (host := "") (Or.inl (hw _ (List.mem_of_getElem? (i := 18) rfl))) Via.refl e58 S_LETTERS (g := (mkF m 48 #[.val (.int p1), .val (.int (4 : Int32))] [(.int p1)])) rfl (hb hby d1_48)
            refine own_go (st60) ?_
            show own_R p e below _ T60 (mkF m 51 #[.val (.int p1), .val (.int (4 : Int32))] [(.ref w), (.int p1)])
            refine own_go (fun t k => XS.iloadN X60.here hx rfl (hb hby d1_51) rfl  k) ?_
            show own_R p e below _ T60 (mkF m 52 #[.val (.int p1), .val (.int (4 : Int32))] [(.int (4 : Int32)), (.ref w), (.int p1)])
            obtain ⟨cl61, Ar61, q61, S61, Nn61, Hh61, G61⟩ := id V_w
            have hin61 : ¬ ((4 : Int32) < 0 ∨ cl61.slots.size ≤ ((4 : Int32)).toNatClampNeg) := inb_of S61 ⟨by decide, by decide⟩
            have hat61 : cl61.slots[((4 : Int32)).toNatClampNeg]? = some (.int (192 : Int32)) := Has.at Hh61 hin61 rfl
            refine own_go (X60.iaload hx (j := (4 : Int32)) (v := (.int (192 : Int32))) (by rw [e60]; exact Ar61.1) (State.isArrayOf_alike hZ.alike Ar61.2.1) Ar61.2.2 hin61 hat61 (g := (mkF m 52 #[.val (.int p1), .val (.int (4 : Int32))] [(.int (4 : Int32)), (.ref w), (.int p1)])) rfl rfl (hb hby d1_52)) ?_
            show own_R p e below _ T60 (mkF m 53 #[.val (.int p1), .val (.int (4 : Int32))] [(.int (192 : Int32)), (.int p1)])
            by_cases hc53_62 : p1 < (192 : Int32)
            · -- pc 53: yes
              refine own_go (fun t k => XS.icmpNo X60.here hx rfl (hb hby d1_53) rfl (tlt hc53_62).2.1 k) ?_
              show own_R p e below _ T60 (mkF m 56 #[.val (.int p1), .val (.int (4 : Int32))] [])
              refine own_go (fun t k => XS.iconst X60.here hx rfl (hb hby d1_56) k) ?_
              show own_R p e below _ T60 (mkF m 57 #[.val (.int p1), .val (.int (4 : Int32))] [(.int (0 : Int32))])
              refine own_retN X60 hx Bd.returns (by simp) (BodyLoose.notSynchronized Bd) (hb hby d1_57) (by decide) (by decide) ?_
              have z63 : 128 ≤ p1.toInt := own_nlti hc4_1 rfl rfl
              have z64 : 65 ≤ p1.toInt := own_nlti hc53_40 rfl rfl
              have z65 : 90 < p1.toInt := own_lti hc66_45 rfl rfl
              have z66 : 97 ≤ p1.toInt := own_nlti hc53_50 rfl rfl
              have z67 : 122 < p1.toInt := own_lti hc66_57 rfl rfl
              have z68 : p1.toInt < 192 := own_lti hc53_62 rfl rfl
              exact ⟨by rw [if_neg (by unfold own_l; omega)]; rfl, N0, e60⟩
            · -- pc 53: no
              refine own_go (fun t k => XS.icmpYes X60.here hx rfl (pc0 := 53) (pc' := 58) rfl (hb hby d1_53) rfl (flt hc53_62).2.1 (by decide) (by decide) k) ?_
              show own_R p e below _ T60 (mkF m 58 #[.val (.int p1), .val (.int (4 : Int32))] [])
              refine own_go (fun t k => XS.iloadN X60.here hx rfl (hb hby d1_58) rfl  k) ?_
              show own_R p e below _ T60 (mkF m 59 #[.val (.int p1), .val (.int (4 : Int32))] [(.int p1)])
              obtain ⟨T69, X69, e69, st69⟩ := getS2 X60 hx hZ hown (host := "") (Or.inl (hw _ (List.mem_of_getElem? (i := 18) rfl))) Via.refl e60 S_LETTERS (g := (mkF m 59 #[.val (.int p1), .val (.int (4 : Int32))] [(.int p1)])) rfl (hb hby d1_59)
              refine own_go (st69) ?_
              show own_R p e below _ T69 (mkF m 62 #[.val (.int p1), .val (.int (4 : Int32))] [(.ref w), (.int p1)])
              refine own_go (fun t k => XS.iloadN X69.here hx rfl (hb hby d1_62) rfl  k) ?_
              show own_R p e below _ T69 (mkF m 63 #[.val (.int p1), .val (.int (4 : Int32))] [(.int (4 : Int32)), (.ref w), (.int p1)])
              refine own_go (fun t k => XS.iconst X69.here hx rfl (hb hby d1_63) k) ?_
              show own_R p e below _ T69 (mkF m 64 #[.val (.int p1), .val (.int (4 : Int32))] [(.int (1 : Int32)), (.int (4 : Int32)), (.ref w), (.int p1)])
              refine own_go (fun t k => XS.iadd X69.here hx rfl (hb hby d1_64) rfl k) ?_
              show own_R p e below _ T69 (mkF m 65 #[.val (.int p1), .val (.int (4 : Int32))] [(.int (5 : Int32)), (.ref w), (.int p1)])
              obtain ⟨cl70, Ar70, q70, S70, Nn70, Hh70, G70⟩ := id V_w
              have hin70 : ¬ ((5 : Int32) < 0 ∨ cl70.slots.size ≤ ((5 : Int32)).toNatClampNeg) := inb_of S70 ⟨by decide, by decide⟩
              have hat70 : cl70.slots[((5 : Int32)).toNatClampNeg]? = some (.int (214 : Int32)) := Has.at Hh70 hin70 rfl
              refine own_go (X69.iaload hx (j := (5 : Int32)) (v := (.int (214 : Int32))) (by rw [e69]; exact Ar70.1) (State.isArrayOf_alike hZ.alike Ar70.2.1) Ar70.2.2 hin70 hat70 (g := (mkF m 65 #[.val (.int p1), .val (.int (4 : Int32))] [(.int (5 : Int32)), (.ref w), (.int p1)])) rfl rfl (hb hby d1_65)) ?_
              show own_R p e below _ T69 (mkF m 66 #[.val (.int p1), .val (.int (4 : Int32))] [(.int (214 : Int32)), (.int p1)])
              by_cases hc66_71 : (214 : Int32) < p1
              · -- pc 66: yes
                refine own_go (fun t k => XS.icmpYes X69.here hx rfl (pc0 := 66) (pc' := 71) rfl (hb hby d1_66) rfl (tlt hc66_71).2.2.1 (by decide) (by decide) k) ?_
                show own_R p e below _ T69 (mkF m 71 #[.val (.int p1), .val (.int (4 : Int32))] [])
                refine own_go (fun t k => XS.iinc X69.here hx rfl (hb hby d1_71) rfl (l' := #[.val (.int p1), .val (.int (6 : Int32))]) rfl k) ?_
                show own_R p e below _ T69 (mkF m 74 #[.val (.int p1), .val (.int (6 : Int32))] [])
                refine own_go (fun t k => XS.goto X69.here hx rfl (pc0 := 74) (pc' := 39) rfl (hb hby d1_74) (by decide) (by decide) k) ?_
                show own_R p e below _ T69 (mkF m 39 #[.val (.int p1), .val (.int (6 : Int32))] [])
                refine own_go (fun t k => XS.iloadN X69.here hx rfl (hb hby d1_39) rfl  k) ?_
                show own_R p e below _ T69 (mkF m 40 #[.val (.int p1), .val (.int (6 : Int32))] [(.int (6 : Int32))])
                obtain ⟨T72, X72, e72, st72⟩ := getS2 X69 hx hZ hown (host := "") (Or.inl (hw _ (List.mem_of_getElem? (i := 18) rfl))) Via.refl e69 S_LETTERS (g := (mkF m 40 #[.val (.int p1), .val (.int (6 : Int32))] [(.int (6 : Int32))])) rfl (hb hby d1_40)
                refine own_go (st72) ?_
                show own_R p e below _ T72 (mkF m 43 #[.val (.int p1), .val (.int (6 : Int32))] [(.ref w), (.int (6 : Int32))])
                obtain ⟨cl73, Ar73, q73, S73, Nn73, Hh73, G73⟩ := id V_w
                refine own_go (X72.arraylength hx (by rw [e72]; exact Ar73.1) (State.isArrayOf_alike hZ.alike Ar73.2.1) (g := (mkF m 43 #[.val (.int p1), .val (.int (6 : Int32))] [(.ref w), (.int (6 : Int32))])) rfl rfl (hb hby d1_43)) ?_
                rw [len_of S73 Nn73]
                show own_R p e below _ T72 (mkF m 44 #[.val (.int p1), .val (.int (6 : Int32))] [(.int (28 : Int32)), (.int (6 : Int32))])
                refine own_go (fun t k => XS.icmpNo X72.here hx rfl (hb hby d1_44) rfl (tlt (by decide : (6 : Int32) < (28 : Int32))).2.1 k) ?_
                show own_R p e below _ T72 (mkF m 47 #[.val (.int p1), .val (.int (6 : Int32))] [])
                refine own_go (fun t k => XS.iloadN X72.here hx rfl (hb hby d1_47) rfl  k) ?_
                show own_R p e below _ T72 (mkF m 48 #[.val (.int p1), .val (.int (6 : Int32))] [(.int p1)])
                obtain ⟨T74, X74, e74, st74⟩ := getS2 X72 hx hZ hown (host := "") (Or.inl (hw _ (List.mem_of_getElem? (i := 18) rfl))) Via.refl e72 S_LETTERS (g := (mkF m 48 #[.val (.int p1), .val (.int (6 : Int32))] [(.int p1)])) rfl (hb hby d1_48)
                refine own_go (st74) ?_
                show own_R p e below _ T74 (mkF m 51 #[.val (.int p1), .val (.int (6 : Int32))] [(.ref w), (.int p1)])
                refine own_go (fun t k => XS.iloadN X74.here hx rfl (hb hby d1_51) rfl  k) ?_
                show own_R p e below _ T74 (mkF m 52 #[.val (.int p1), .val (.int (6 : Int32))] [(.int (6 : Int32)), (.ref w), (.int p1)])
                obtain ⟨cl75, Ar75, q75, S75, Nn75, Hh75, G75⟩ := id V_w
                have hin75 : ¬ ((6 : Int32) < 0 ∨ cl75.slots.size ≤ ((6 : Int32)).toNatClampNeg) := inb_of S75 ⟨by decide, by decide⟩
                have hat75 : cl75.slots[((6 : Int32)).toNatClampNeg]? = some (.int (216 : Int32)) := Has.at Hh75 hin75 rfl
                refine own_go (X74.iaload hx (j := (6 : Int32)) (v := (.int (216 : Int32))) (by rw [e74]; exact Ar75.1) (State.isArrayOf_alike hZ.alike Ar75.2.1) Ar75.2.2 hin75 hat75 (g := (mkF m 52 #[.val (.int p1), .val (.int (6 : Int32))] [(.int (6 : Int32)), (.ref w), (.int p1)])) rfl rfl (hb hby d1_52)) ?_
                show own_R p e below _ T74 (mkF m 53 #[.val (.int p1), .val (.int (6 : Int32))] [(.int (216 : Int32)), (.int p1)])
                by_cases hc53_76 : p1 < (216 : Int32)
                · -- pc 53: yes
                  refine own_go (fun t k => XS.icmpNo X74.here hx rfl (hb hby d1_53) rfl (tlt hc53_76).2.1 k) ?_
                  show own_R p e below _ T74 (mkF m 56 #[.val (.int p1), .val (.int (6 : Int32))] [])
                  refine own_go (fun t k => XS.iconst X74.here hx rfl (hb hby d1_56) k) ?_
                  show own_R p e below _ T74 (mkF m 57 #[.val (.int p1), .val (.int (6 : Int32))] [(.int (0 : Int32))])
                  refine own_retN X74 hx Bd.returns (by simp) (BodyLoose.notSynchronized Bd) (hb hby d1_57) (by decide) (by decide) ?_
                  have z77 : 128 ≤ p1.toInt := own_nlti hc4_1 rfl rfl
                  have z78 : 65 ≤ p1.toInt := own_nlti hc53_40 rfl rfl
                  have z79 : 90 < p1.toInt := own_lti hc66_45 rfl rfl
                  have z80 : 97 ≤ p1.toInt := own_nlti hc53_50 rfl rfl
                  have z81 : 122 < p1.toInt := own_lti hc66_57 rfl rfl
                  have z82 : 192 ≤ p1.toInt := own_nlti hc53_62 rfl rfl
                  have z83 : 214 < p1.toInt := own_lti hc66_71 rfl rfl
                  have z84 : p1.toInt < 216 := own_lti hc53_76 rfl rfl
                  exact ⟨by rw [if_neg (by unfold own_l; omega)]; rfl, N0, e74⟩
                · -- pc 53: no
                  refine own_go (fun t k => XS.icmpYes X74.here hx rfl (pc0 := 53) (pc' := 58) rfl (hb hby d1_53) rfl (flt hc53_76).2.1 (by decide) (by decide) k) ?_
                  show own_R p e below _ T74 (mkF m 58 #[.val (.int p1), .val (.int (6 : Int32))] [])
                  refine own_go (fun t k => XS.iloadN X74.here hx rfl (hb hby d1_58) rfl  k) ?_
                  show own_R p e below _ T74 (mkF m 59 #[.val (.int p1), .val (.int (6 : Int32))] [(.int p1)])
                  obtain ⟨T85, X85, e85, st85⟩ := getS2 X74 hx hZ hown (host := "") (Or.inl (hw _ (List.mem_of_getElem? (i := 18) rfl))) Via.refl e74 S_LETTERS (g := (mkF m 59 #[.val (.int p1), .val (.int (6 : Int32))] [(.int p1)])) rfl (hb hby d1_59)
                  refine own_go (st85) ?_
                  show own_R p e below _ T85 (mkF m 62 #[.val (.int p1), .val (.int (6 : Int32))] [(.ref w), (.int p1)])
                  refine own_go (fun t k => XS.iloadN X85.here hx rfl (hb hby d1_62) rfl  k) ?_
                  show own_R p e below _ T85 (mkF m 63 #[.val (.int p1), .val (.int (6 : Int32))] [(.int (6 : Int32)), (.ref w), (.int p1)])
                  refine own_go (fun t k => XS.iconst X85.here hx rfl (hb hby d1_63) k) ?_
                  show own_R p e below _ T85 (mkF m 64 #[.val (.int p1), .val (.int (6 : Int32))] [(.int (1 : Int32)), (.int (6 : Int32)), (.ref w), (.int p1)])
                  refine own_go (fun t k => XS.iadd X85.here hx rfl (hb hby d1_64) rfl k) ?_
                  show own_R p e below _ T85 (mkF m 65 #[.val (.int p1), .val (.int (6 : Int32))] [(.int (7 : Int32)), (.ref w), (.int p1)])
                  obtain ⟨cl86, Ar86, q86, S86, Nn86, Hh86, G86⟩ := id V_w
                  have hin86 : ¬ ((7 : Int32) < 0 ∨ cl86.slots.size ≤ ((7 : Int32)).toNatClampNeg) := inb_of S86 ⟨by decide, by decide⟩
                  have hat86 : cl86.slots[((7 : Int32)).toNatClampNeg]? = some (.int (246 : Int32)) := Has.at Hh86 hin86 rfl
                  refine own_go (X85.iaload hx (j := (7 : Int32)) (v := (.int (246 : Int32))) (by rw [e85]; exact Ar86.1) (State.isArrayOf_alike hZ.alike Ar86.2.1) Ar86.2.2 hin86 hat86 (g := (mkF m 65 #[.val (.int p1), .val (.int (6 : Int32))] [(.int (7 : Int32)), (.ref w), (.int p1)])) rfl rfl (hb hby d1_65)) ?_
                  show own_R p e below _ T85 (mkF m 66 #[.val (.int p1), .val (.int (6 : Int32))] [(.int (246 : Int32)), (.int p1)])
                  by_cases hc66_87 : (246 : Int32) < p1
                  · -- pc 66: yes
                    refine own_go (fun t k => XS.icmpYes X85.here hx rfl (pc0 := 66) (pc' := 71) rfl (hb hby d1_66) rfl (tlt hc66_87).2.2.1 (by decide) (by decide) k) ?_
                    show own_R p e below _ T85 (mkF m 71 #[.val (.int p1), .val (.int (6 : Int32))] [])
                    refine own_go (fun t k => XS.iinc X85.here hx rfl (hb hby d1_71) rfl (l' := #[.val (.int p1), .val (.int (8 : Int32))]) rfl k) ?_
                    show own_R p e below _ T85 (mkF m 74 #[.val (.int p1), .val (.int (8 : Int32))] [])
                    refine own_go (fun t k => XS.goto X85.here hx rfl (pc0 := 74) (pc' := 39) rfl (hb hby d1_74) (by decide) (by decide) k) ?_
                    show own_R p e below _ T85 (mkF m 39 #[.val (.int p1), .val (.int (8 : Int32))] [])
                    refine own_go (fun t k => XS.iloadN X85.here hx rfl (hb hby d1_39) rfl  k) ?_
                    show own_R p e below _ T85 (mkF m 40 #[.val (.int p1), .val (.int (8 : Int32))] [(.int (8 : Int32))])
                    obtain ⟨T88, X88, e88, st88⟩ := getS2 X85 hx hZ hown (host := "") (Or.inl (hw _ (List.mem_of_getElem? (i := 18) rfl))) Via.refl e85 S_LETTERS (g := (mkF m 40 #[.val (.int p1), .val (.int (8 : Int32))] [(.int (8 : Int32))])) rfl (hb hby d1_40)
                    refine own_go (st88) ?_
                    show own_R p e below _ T88 (mkF m 43 #[.val (.int p1), .val (.int (8 : Int32))] [(.ref w), (.int (8 : Int32))])
                    obtain ⟨cl89, Ar89, q89, S89, Nn89, Hh89, G89⟩ := id V_w
                    refine own_go (X88.arraylength hx (by rw [e88]; exact Ar89.1) (State.isArrayOf_alike hZ.alike Ar89.2.1) (g := (mkF m 43 #[.val (.int p1), .val (.int (8 : Int32))] [(.ref w), (.int (8 : Int32))])) rfl rfl (hb hby d1_43)) ?_
                    rw [len_of S89 Nn89]
                    show own_R p e below _ T88 (mkF m 44 #[.val (.int p1), .val (.int (8 : Int32))] [(.int (28 : Int32)), (.int (8 : Int32))])
                    refine own_go (fun t k => XS.icmpNo X88.here hx rfl (hb hby d1_44) rfl (tlt (by decide : (8 : Int32) < (28 : Int32))).2.1 k) ?_
                    show own_R p e below _ T88 (mkF m 47 #[.val (.int p1), .val (.int (8 : Int32))] [])
                    refine own_go (fun t k => XS.iloadN X88.here hx rfl (hb hby d1_47) rfl  k) ?_
                    show own_R p e below _ T88 (mkF m 48 #[.val (.int p1), .val (.int (8 : Int32))] [(.int p1)])
                    obtain ⟨T90, X90, e90, st90⟩ := getS2 X88 hx hZ hown (host := "") (Or.inl (hw _ (List.mem_of_getElem? (i := 18) rfl))) Via.refl e88 S_LETTERS (g := (mkF m 48 #[.val (.int p1), .val (.int (8 : Int32))] [(.int p1)])) rfl (hb hby d1_48)
                    refine own_go (st90) ?_
                    show own_R p e below _ T90 (mkF m 51 #[.val (.int p1), .val (.int (8 : Int32))] [(.ref w), (.int p1)])
                    refine own_go (fun t k => XS.iloadN X90.here hx rfl (hb hby d1_51) rfl  k) ?_
                    show own_R p e below _ T90 (mkF m 52 #[.val (.int p1), .val (.int (8 : Int32))] [(.int (8 : Int32)), (.ref w), (.int p1)])
                    obtain ⟨cl91, Ar91, q91, S91, Nn91, Hh91, G91⟩ := id V_w
                    have hin91 : ¬ ((8 : Int32) < 0 ∨ cl91.slots.size ≤ ((8 : Int32)).toNatClampNeg) := inb_of S91 ⟨by decide, by decide⟩
                    have hat91 : cl91.slots[((8 : Int32)).toNatClampNeg]? = some (.int (248 : Int32)) := Has.at Hh91 hin91 rfl
                    refine own_go (X90.iaload hx (j := (8 : Int32)) (v := (.int (248 : Int32))) (by rw [e90]; exact Ar91.1) (State.isArrayOf_alike hZ.alike Ar91.2.1) Ar91.2.2 hin91 hat91 (g := (mkF m 52 #[.val (.int p1), .val (.int (8 : Int32))] [(.int (8 : Int32)), (.ref w), (.int p1)])) rfl rfl (hb hby d1_52)) ?_
                    show own_R p e below _ T90 (mkF m 53 #[.val (.int p1), .val (.int (8 : Int32))] [(.int (248 : Int32)), (.int p1)])
                    by_cases hc53_92 : p1 < (248 : Int32)
                    · -- pc 53: yes
                      refine own_go (fun t k => XS.icmpNo X90.here hx rfl (hb hby d1_53) rfl (tlt hc53_92).2.1 k) ?_
                      show own_R p e below _ T90 (mkF m 56 #[.val (.int p1), .val (.int (8 : Int32))] [])
                      refine own_go (fun t k => XS.iconst X90.here hx rfl (hb hby d1_56) k) ?_
                      show own_R p e below _ T90 (mkF m 57 #[.val (.int p1), .val (.int (8 : Int32))] [(.int (0 : Int32))])
                      refine own_retN X90 hx Bd.returns (by simp) (BodyLoose.notSynchronized Bd) (hb hby d1_57) (by decide) (by decide) ?_
                      have z93 : 128 ≤ p1.toInt := own_nlti hc4_1 rfl rfl
                      have z94 : 65 ≤ p1.toInt := own_nlti hc53_40 rfl rfl
                      have z95 : 90 < p1.toInt := own_lti hc66_45 rfl rfl
                      have z96 : 97 ≤ p1.toInt := own_nlti hc53_50 rfl rfl
                      have z97 : 122 < p1.toInt := own_lti hc66_57 rfl rfl
                      have z98 : 192 ≤ p1.toInt := own_nlti hc53_62 rfl rfl
                      have z99 : 214 < p1.toInt := own_lti hc66_71 rfl rfl
                      have z100 : 216 ≤ p1.toInt := own_nlti hc53_76 rfl rfl
                      have z101 : 246 < p1.toInt := own_lti hc66_87 rfl rfl
                      have z102 : p1.toInt < 248 := own_lti hc53_92 rfl rfl
                      exact ⟨by rw [if_neg (by unfold own_l; omega)]; rfl, N0, e90⟩
                    · -- pc 53: no
                      refine own_go (fun t k => XS.icmpYes X90.here hx rfl (pc0 := 53) (pc' := 58) rfl (hb hby d1_53) rfl (flt hc53_92).2.1 (by decide) (by decide) k) ?_
                      show own_R p e below _ T90 (mkF m 58 #[.val (.int p1), .val (.int (8 : Int32))] [])
                      refine own_go (fun t k => XS.iloadN X90.here hx rfl (hb hby d1_58) rfl  k) ?_
                      show own_R p e below _ T90 (mkF m 59 #[.val (.int p1), .val (.int (8 : Int32))] [(.int p1)])
                      obtain ⟨T103, X103, e103, st103⟩ := getS2 X90 hx hZ hown (host := "") (Or.inl (hw _ (List.mem_of_getElem? (i := 18) rfl))) Via.refl e90 S_LETTERS (g := (mkF m 59 #[.val (.int p1), .val (.int (8 : Int32))] [(.int p1)])) rfl (hb hby d1_59)
                      refine own_go (st103) ?_
                      show own_R p e below _ T103 (mkF m 62 #[.val (.int p1), .val (.int (8 : Int32))] [(.ref w), (.int p1)])
                      refine own_go (fun t k => XS.iloadN X103.here hx rfl (hb hby d1_62) rfl  k) ?_
                      show own_R p e below _ T103 (mkF m 63 #[.val (.int p1), .val (.int (8 : Int32))] [(.int (8 : Int32)), (.ref w), (.int p1)])
                      refine own_go (fun t k => XS.iconst X103.here hx rfl (hb hby d1_63) k) ?_
                      show own_R p e below _ T103 (mkF m 64 #[.val (.int p1), .val (.int (8 : Int32))] [(.int (1 : Int32)), (.int (8 : Int32)), (.ref w), (.int p1)])
                      refine own_go (fun t k => XS.iadd X103.here hx rfl (hb hby d1_64) rfl k) ?_
                      show own_R p e below _ T103 (mkF m 65 #[.val (.int p1), .val (.int (8 : Int32))] [(.int (9 : Int32)), (.ref w), (.int p1)])
                      obtain ⟨cl104, Ar104, q104, S104, Nn104, Hh104, G104⟩ := id V_w
                      have hin104 : ¬ ((9 : Int32) < 0 ∨ cl104.slots.size ≤ ((9 : Int32)).toNatClampNeg) := inb_of S104 ⟨by decide, by decide⟩
                      have hat104 : cl104.slots[((9 : Int32)).toNatClampNeg]? = some (.int (767 : Int32)) := Has.at Hh104 hin104 rfl
                      refine own_go (X103.iaload hx (j := (9 : Int32)) (v := (.int (767 : Int32))) (by rw [e103]; exact Ar104.1) (State.isArrayOf_alike hZ.alike Ar104.2.1) Ar104.2.2 hin104 hat104 (g := (mkF m 65 #[.val (.int p1), .val (.int (8 : Int32))] [(.int (9 : Int32)), (.ref w), (.int p1)])) rfl rfl (hb hby d1_65)) ?_
                      show own_R p e below _ T103 (mkF m 66 #[.val (.int p1), .val (.int (8 : Int32))] [(.int (767 : Int32)), (.int p1)])
                      by_cases hc66_105 : (767 : Int32) < p1
                      · -- pc 66: yes
                        refine own_go (fun t k => XS.icmpYes X103.here hx rfl (pc0 := 66) (pc' := 71) rfl (hb hby d1_66) rfl (tlt hc66_105).2.2.1 (by decide) (by decide) k) ?_
                        show own_R p e below _ T103 (mkF m 71 #[.val (.int p1), .val (.int (8 : Int32))] [])
                        refine own_go (fun t k => XS.iinc X103.here hx rfl (hb hby d1_71) rfl (l' := #[.val (.int p1), .val (.int (10 : Int32))]) rfl k) ?_
                        show own_R p e below _ T103 (mkF m 74 #[.val (.int p1), .val (.int (10 : Int32))] [])
                        refine own_go (fun t k => XS.goto X103.here hx rfl (pc0 := 74) (pc' := 39) rfl (hb hby d1_74) (by decide) (by decide) k) ?_
                        show own_R p e below _ T103 (mkF m 39 #[.val (.int p1), .val (.int (10 : Int32))] [])
                        refine own_go (fun t k => XS.iloadN X103.here hx rfl (hb hby d1_39) rfl  k) ?_
                        show own_R p e below _ T103 (mkF m 40 #[.val (.int p1), .val (.int (10 : Int32))] [(.int (10 : Int32))])
                        obtain ⟨T106, X106, e106, st106⟩ := getS2 X103 hx hZ hown (host := "") (Or.inl (hw _ (List.mem_of_getElem? (i := 18) rfl))) Via.refl e103 S_LETTERS (g := (mkF m 40 #[.val (.int p1), .val (.int (10 : Int32))] [(.int (10 : Int32))])) rfl (hb hby d1_40)
                        refine own_go (st106) ?_
                        show own_R p e below _ T106 (mkF m 43 #[.val (.int p1), .val (.int (10 : Int32))] [(.ref w), (.int (10 : Int32))])
                        obtain ⟨cl107, Ar107, q107, S107, Nn107, Hh107, G107⟩ := id V_w
                        refine own_go (X106.arraylength hx (by rw [e106]; exact Ar107.1) (State.isArrayOf_alike hZ.alike Ar107.2.1) (g := (mkF m 43 #[.val (.int p1), .val (.int (10 : Int32))] [(.ref w), (.int (10 : Int32))])) rfl rfl (hb hby d1_43)) ?_
                        rw [len_of S107 Nn107]
                        show own_R p e below _ T106 (mkF m 44 #[.val (.int p1), .val (.int (10 : Int32))] [(.int (28 : Int32)), (.int (10 : Int32))])
                        refine own_go (fun t k => XS.icmpNo X106.here hx rfl (hb hby d1_44) rfl (tlt (by decide : (10 : Int32) < (28 : Int32))).2.1 k) ?_
                        show own_R p e below _ T106 (mkF m 47 #[.val (.int p1), .val (.int (10 : Int32))] [])
                        refine own_go (fun t k => XS.iloadN X106.here hx rfl (hb hby d1_47) rfl  k) ?_
                        show own_R p e below _ T106 (mkF m 48 #[.val (.int p1), .val (.int (10 : Int32))] [(.int p1)])
                        obtain ⟨T108, X108, e108, st108⟩ := getS2 X106 hx hZ hown (host := "") (Or.inl (hw _ (List.mem_of_getElem? (i := 18) rfl))) Via.refl e106 S_LETTERS (g := (mkF m 48 #[.val (.int p1), .val (.int (10 : Int32))] [(.int p1)])) rfl (hb hby d1_48)
                        refine own_go (st108) ?_
                        show own_R p e below _ T108 (mkF m 51 #[.val (.int p1), .val (.int (10 : Int32))] [(.ref w), (.int p1)])
                        refine own_go (fun t k => XS.iloadN X108.here hx rfl (hb hby d1_51) rfl  k) ?_
                        show own_R p e below _ T108 (mkF m 52 #[.val (.int p1), .val (.int (10 : Int32))] [(.int (10 : Int32)), (.ref w), (.int p1)])
                        obtain ⟨cl109, Ar109, q109, S109, Nn109, Hh109, G109⟩ := id V_w
                        have hin109 : ¬ ((10 : Int32) < 0 ∨ cl109.slots.size ≤ ((10 : Int32)).toNatClampNeg) := inb_of S109 ⟨by decide, by decide⟩
                        have hat109 : cl109.slots[((10 : Int32)).toNatClampNeg]? = some (.int (880 : Int32)) := Has.at Hh109 hin109 rfl
                        refine own_go (X108.iaload hx (j := (10 : Int32)) (v := (.int (880 : Int32))) (by rw [e108]; exact Ar109.1) (State.isArrayOf_alike hZ.alike Ar109.2.1) Ar109.2.2 hin109 hat109 (g := (mkF m 52 #[.val (.int p1), .val (.int (10 : Int32))] [(.int (10 : Int32)), (.ref w), (.int p1)])) rfl rfl (hb hby d1_52)) ?_
                        show own_R p e below _ T108 (mkF m 53 #[.val (.int p1), .val (.int (10 : Int32))] [(.int (880 : Int32)), (.int p1)])
                        by_cases hc53_110 : p1 < (880 : Int32)
                        · -- pc 53: yes
                          refine own_go (fun t k => XS.icmpNo X108.here hx rfl (hb hby d1_53) rfl (tlt hc53_110).2.1 k) ?_
                          show own_R p e below _ T108 (mkF m 56 #[.val (.int p1), .val (.int (10 : Int32))] [])
                          refine own_go (fun t k => XS.iconst X108.here hx rfl (hb hby d1_56) k) ?_
                          show own_R p e below _ T108 (mkF m 57 #[.val (.int p1), .val (.int (10 : Int32))] [(.int (0 : Int32))])
                          refine own_retN X108 hx Bd.returns (by simp) (BodyLoose.notSynchronized Bd) (hb hby d1_57) (by decide) (by decide) ?_
                          have z111 : 128 ≤ p1.toInt := own_nlti hc4_1 rfl rfl
                          have z112 : 65 ≤ p1.toInt := own_nlti hc53_40 rfl rfl
                          have z113 : 90 < p1.toInt := own_lti hc66_45 rfl rfl
                          have z114 : 97 ≤ p1.toInt := own_nlti hc53_50 rfl rfl
                          have z115 : 122 < p1.toInt := own_lti hc66_57 rfl rfl
                          have z116 : 192 ≤ p1.toInt := own_nlti hc53_62 rfl rfl
                          have z117 : 214 < p1.toInt := own_lti hc66_71 rfl rfl
                          have z118 : 216 ≤ p1.toInt := own_nlti hc53_76 rfl rfl
                          have z119 : 246 < p1.toInt := own_lti hc66_87 rfl rfl
                          have z120 : 248 ≤ p1.toInt := own_nlti hc53_92 rfl rfl
                          have z121 : 767 < p1.toInt := own_lti hc66_105 rfl rfl
                          have z122 : p1.toInt < 880 := own_lti hc53_110 rfl rfl
                          exact ⟨by rw [if_neg (by unfold own_l; omega)]; rfl, N0, e108⟩
                        · -- pc 53: no
                          refine own_go (fun t k => XS.icmpYes X108.here hx rfl (pc0 := 53) (pc' := 58) rfl (hb hby d1_53) rfl (flt hc53_110).2.1 (by decide) (by decide) k) ?_
                          show own_R p e below _ T108 (mkF m 58 #[.val (.int p1), .val (.int (10 : Int32))] [])
                          refine own_go (fun t k => XS.iloadN X108.here hx rfl (hb hby d1_58) rfl  k) ?_
                          show own_R p e below _ T108 (mkF m 59 #[.val (.int p1), .val (.int (10 : Int32))] [(.int p1)])
                          obtain ⟨T123, X123, e123, st123⟩ := getS2 X108 hx hZ hown (host := "") (Or.inl (hw _ (List.mem_of_getElem? (i := 18) rfl))) Via.refl e108 S_LETTERS (g := (mkF m 59 #[.val (.int p1), .val (.int (10 : Int32))] [(.int p1)])) rfl (hb hby d1_59)
                          refine own_go (st123) ?_
                          show own_R p e below _ T123 (mkF m 62 #[.val (.int p1), .val (.int (10 : Int32))] [(.ref w), (.int p1)])
                          refine own_go (fun t k => XS.iloadN X123.here hx rfl (hb hby d1_62) rfl  k) ?_
                          show own_R p e below _ T123 (mkF m 63 #[.val (.int p1), .val (.int (10 : Int32))] [(.int (10 : Int32)), (.ref w), (.int p1)])
                          refine own_go (fun t k => XS.iconst X123.here hx rfl (hb hby d1_63) k) ?_
                          show own_R p e below _ T123 (mkF m 64 #[.val (.int p1), .val (.int (10 : Int32))] [(.int (1 : Int32)), (.int (10 : Int32)), (.ref w), (.int p1)])
                          refine own_go (fun t k => XS.iadd X123.here hx rfl (hb hby d1_64) rfl k) ?_
                          show own_R p e below _ T123 (mkF m 65 #[.val (.int p1), .val (.int (10 : Int32))] [(.int (11 : Int32)), (.ref w), (.int p1)])
                          obtain ⟨cl124, Ar124, q124, S124, Nn124, Hh124, G124⟩ := id V_w
                          have hin124 : ¬ ((11 : Int32) < 0 ∨ cl124.slots.size ≤ ((11 : Int32)).toNatClampNeg) := inb_of S124 ⟨by decide, by decide⟩
                          have hat124 : cl124.slots[((11 : Int32)).toNatClampNeg]? = some (.int (893 : Int32)) := Has.at Hh124 hin124 rfl
                          refine own_go (X123.iaload hx (j := (11 : Int32)) (v := (.int (893 : Int32))) (by rw [e123]; exact Ar124.1) (State.isArrayOf_alike hZ.alike Ar124.2.1) Ar124.2.2 hin124 hat124 (g := (mkF m 65 #[.val (.int p1), .val (.int (10 : Int32))] [(.int (11 : Int32)), (.ref w), (.int p1)])) rfl rfl (hb hby d1_65)) ?_
                          show own_R p e below _ T123 (mkF m 66 #[.val (.int p1), .val (.int (10 : Int32))] [(.int (893 : Int32)), (.int p1)])
                          by_cases hc66_125 : (893 : Int32) < p1
                          · -- pc 66: yes
                            refine own_go (fun t k => XS.icmpYes X123.here hx rfl (pc0 := 66) (pc' := 71) rfl (hb hby d1_66) rfl (tlt hc66_125).2.2.1 (by decide) (by decide) k) ?_
                            show own_R p e below _ T123 (mkF m 71 #[.val (.int p1), .val (.int (10 : Int32))] [])
                            refine own_go (fun t k => XS.iinc X123.here hx rfl (hb hby d1_71) rfl (l' := #[.val (.int p1), .val (.int (12 : Int32))]) rfl k) ?_
                            show own_R p e below _ T123 (mkF m 74 #[.val (.int p1), .val (.int (12 : Int32))] [])
                            refine own_go (fun t k => XS.goto X123.here hx rfl (pc0 := 74) (pc' := 39) rfl (hb hby d1_74) (by decide) (by decide) k) ?_
                            show own_R p e below _ T123 (mkF m 39 #[.val (.int p1), .val (.int (12 : Int32))] [])
                            refine own_go (fun t k => XS.iloadN X123.here hx rfl (hb hby d1_39) rfl  k) ?_
                            show own_R p e below _ T123 (mkF m 40 #[.val (.int p1), .val (.int (12 : Int32))] [(.int (12 : Int32))])
                            obtain ⟨T126, X126, e126, st126⟩ := getS2 X123 hx hZ hown (host := "") (Or.inl (hw _ (List.mem_of_getElem? (i := 18) rfl))) Via.refl e123 S_LETTERS (g := (mkF m 40 #[.val (.int p1), .val (.int (12 : Int32))] [(.int (12 : Int32))])) rfl (hb hby d1_40)
                            refine own_go (st126) ?_
                            show own_R p e below _ T126 (mkF m 43 #[.val (.int p1), .val (.int (12 : Int32))] [(.ref w), (.int (12 : Int32))])
                            obtain ⟨cl127, Ar127, q127, S127, Nn127, Hh127, G127⟩ := id V_w
                            refine own_go (X126.arraylength hx (by rw [e126]; exact Ar127.1) (State.isArrayOf_alike hZ.alike Ar127.2.1) (g := (mkF m 43 #[.val (.int p1), .val (.int (12 : Int32))] [(.ref w), (.int (12 : Int32))])) rfl rfl (hb hby d1_43)) ?_
                            rw [len_of S127 Nn127]
                            show own_R p e below _ T126 (mkF m 44 #[.val (.int p1), .val (.int (12 : Int32))] [(.int (28 : Int32)), (.int (12 : Int32))])
                            refine own_go (fun t k => XS.icmpNo X126.here hx rfl (hb hby d1_44) rfl (tlt (by decide : (12 : Int32) < (28 : Int32))).2.1 k) ?_
                            show own_R p e below _ T126 (mkF m 47 #[.val (.int p1), .val (.int (12 : Int32))] [])
                            refine own_go (fun t k => XS.iloadN X126.here hx rfl (hb hby d1_47) rfl  k) ?_
                            show own_R p e below _ T126 (mkF m 48 #[.val (.int p1), .val (.int (12 : Int32))] [(.int p1)])
                            obtain ⟨T128, X128, e128, st128⟩ := getS2 X126 hx hZ hown (host := "") (Or.inl (hw _ (List.mem_of_getElem? (i := 18) rfl))) Via.refl e126 S_LETTERS (g := (mkF m 48 #[.val (.int p1), .val (.int (12 : Int32))] [(.int p1)])) rfl (hb hby d1_48)
                            refine own_go (st128) ?_
                            show own_R p e below _ T128 (mkF m 51 #[.val (.int p1), .val (.int (12 : Int32))] [(.ref w), (.int p1)])
                            refine own_go (fun t k => XS.iloadN X128.here hx rfl (hb hby d1_51) rfl  k) ?_
                            show own_R p e below _ T128 (mkF m 52 #[.val (.int p1), .val (.int (12 : Int32))] [(.int (12 : Int32)), (.ref w), (.int p1)])
                            obtain ⟨cl129, Ar129, q129, S129, Nn129, Hh129, G129⟩ := id V_w
                            have hin129 : ¬ ((12 : Int32) < 0 ∨ cl129.slots.size ≤ ((12 : Int32)).toNatClampNeg) := inb_of S129 ⟨by decide, by decide⟩
                            have hat129 : cl129.slots[((12 : Int32)).toNatClampNeg]? = some (.int (895 : Int32)) := Has.at Hh129 hin129 rfl
                            refine own_go (X128.iaload hx (j := (12 : Int32)) (v := (.int (895 : Int32))) (by rw [e128]; exact Ar129.1) (State.isArrayOf_alike hZ.alike Ar129.2.1) Ar129.2.2 hin129 hat129 (g := (mkF m 52 #[.val (.int p1), .val (.int (12 : Int32))] [(.int (12 : Int32)), (.ref w), (.int p1)])) rfl rfl (hb hby d1_52)) ?_
                            show own_R p e below _ T128 (mkF m 53 #[.val (.int p1), .val (.int (12 : Int32))] [(.int (895 : Int32)), (.int p1)])
                            by_cases hc53_130 : p1 < (895 : Int32)
                            · -- pc 53: yes
                              refine own_go (fun t k => XS.icmpNo X128.here hx rfl (hb hby d1_53) rfl (tlt hc53_130).2.1 k) ?_
                              show own_R p e below _ T128 (mkF m 56 #[.val (.int p1), .val (.int (12 : Int32))] [])
                              refine own_go (fun t k => XS.iconst X128.here hx rfl (hb hby d1_56) k) ?_
                              show own_R p e below _ T128 (mkF m 57 #[.val (.int p1), .val (.int (12 : Int32))] [(.int (0 : Int32))])
                              refine own_retN X128 hx Bd.returns (by simp) (BodyLoose.notSynchronized Bd) (hb hby d1_57) (by decide) (by decide) ?_
                              have z131 : 128 ≤ p1.toInt := own_nlti hc4_1 rfl rfl
                              have z132 : 65 ≤ p1.toInt := own_nlti hc53_40 rfl rfl
                              have z133 : 90 < p1.toInt := own_lti hc66_45 rfl rfl
                              have z134 : 97 ≤ p1.toInt := own_nlti hc53_50 rfl rfl
                              have z135 : 122 < p1.toInt := own_lti hc66_57 rfl rfl
                              have z136 : 192 ≤ p1.toInt := own_nlti hc53_62 rfl rfl
                              have z137 : 214 < p1.toInt := own_lti hc66_71 rfl rfl
                              have z138 : 216 ≤ p1.toInt := own_nlti hc53_76 rfl rfl
                              have z139 : 246 < p1.toInt := own_lti hc66_87 rfl rfl
                              have z140 : 248 ≤ p1.toInt := own_nlti hc53_92 rfl rfl
                              have z141 : 767 < p1.toInt := own_lti hc66_105 rfl rfl
                              have z142 : 880 ≤ p1.toInt := own_nlti hc53_110 rfl rfl
                              have z143 : 893 < p1.toInt := own_lti hc66_125 rfl rfl
                              have z144 : p1.toInt < 895 := own_lti hc53_130 rfl rfl
                              exact ⟨by rw [if_neg (by unfold own_l; omega)]; rfl, N0, e128⟩
                            · -- pc 53: no
                              refine own_go (fun t k => XS.icmpYes X128.here hx rfl (pc0 := 53) (pc' := 58) rfl (hb hby d1_53) rfl (flt hc53_130).2.1 (by decide) (by decide) k) ?_
                              show own_R p e below _ T128 (mkF m 58 #[.val (.int p1), .val (.int (12 : Int32))] [])
                              refine own_go (fun t k => XS.iloadN X128.here hx rfl (hb hby d1_58) rfl  k) ?_
                              show own_R p e below _ T128 (mkF m 59 #[.val (.int p1), .val (.int (12 : Int32))] [(.int p1)])
                              obtain ⟨T145, X145, e145, st145⟩ := getS2 X128 hx hZ hown (host := "") (Or.inl (hw _ (List.mem_of_getElem? (i := 18) rfl))) Via.refl e128 S_LETTERS (g := (mkF m 59 #[.val (.int p1), .val (.int (12 : Int32))] [(.int p1)])) rfl (hb hby d1_59)
                              refine own_go (st145) ?_
                              show own_R p e below _ T145 (mkF m 62 #[.val (.int p1), .val (.int (12 : Int32))] [(.ref w), (.int p1)])
                              refine own_go (fun t k => XS.iloadN X145.here hx rfl (hb hby d1_62) rfl  k) ?_
                              show own_R p e below _ T145 (mkF m 63 #[.val (.int p1), .val (.int (12 : Int32))] [(.int (12 : Int32)), (.ref w), (.int p1)])
                              refine own_go (fun t k => XS.iconst X145.here hx rfl (hb hby d1_63) k) ?_
                              show own_R p e below _ T145 (mkF m 64 #[.val (.int p1), .val (.int (12 : Int32))] [(.int (1 : Int32)), (.int (12 : Int32)), (.ref w), (.int p1)])
                              refine own_go (fun t k => XS.iadd X145.here hx rfl (hb hby d1_64) rfl k) ?_
                              show own_R p e below _ T145 (mkF m 65 #[.val (.int p1), .val (.int (12 : Int32))] [(.int (13 : Int32)), (.ref w), (.int p1)])
                              obtain ⟨cl146, Ar146, q146, S146, Nn146, Hh146, G146⟩ := id V_w
                              have hin146 : ¬ ((13 : Int32) < 0 ∨ cl146.slots.size ≤ ((13 : Int32)).toNatClampNeg) := inb_of S146 ⟨by decide, by decide⟩
                              have hat146 : cl146.slots[((13 : Int32)).toNatClampNeg]? = some (.int (8191 : Int32)) := Has.at Hh146 hin146 rfl
                              refine own_go (X145.iaload hx (j := (13 : Int32)) (v := (.int (8191 : Int32))) (by rw [e145]; exact Ar146.1) (State.isArrayOf_alike hZ.alike Ar146.2.1) Ar146.2.2 hin146 hat146 (g := (mkF m 65 #[.val (.int p1), .val (.int (12 : Int32))] [(.int (13 : Int32)), (.ref w), (.int p1)])) rfl rfl (hb hby d1_65)) ?_
                              show own_R p e below _ T145 (mkF m 66 #[.val (.int p1), .val (.int (12 : Int32))] [(.int (8191 : Int32)), (.int p1)])
                              by_cases hc66_147 : (8191 : Int32) < p1
                              · -- pc 66: yes
                                refine own_go (fun t k => XS.icmpYes X145.here hx rfl (pc0 := 66) (pc' := 71) rfl (hb hby d1_66) rfl (tlt hc66_147).2.2.1 (by decide) (by decide) k) ?_
                                show own_R p e below _ T145 (mkF m 71 #[.val (.int p1), .val (.int (12 : Int32))] [])
                                refine own_go (fun t k => XS.iinc X145.here hx rfl (hb hby d1_71) rfl (l' := #[.val (.int p1), .val (.int (14 : Int32))]) rfl k) ?_
                                show own_R p e below _ T145 (mkF m 74 #[.val (.int p1), .val (.int (14 : Int32))] [])
                                refine own_go (fun t k => XS.goto X145.here hx rfl (pc0 := 74) (pc' := 39) rfl (hb hby d1_74) (by decide) (by decide) k) ?_
                                show own_R p e below _ T145 (mkF m 39 #[.val (.int p1), .val (.int (14 : Int32))] [])
                                refine own_go (fun t k => XS.iloadN X145.here hx rfl (hb hby d1_39) rfl  k) ?_
                                show own_R p e below _ T145 (mkF m 40 #[.val (.int p1), .val (.int (14 : Int32))] [(.int (14 : Int32))])
                                obtain ⟨T148, X148, e148, st148⟩ := getS2 X145 hx hZ hown (host := "") (Or.inl (hw _ (List.mem_of_getElem? (i := 18) rfl))) Via.refl e145 S_LETTERS (g := (mkF m 40 #[.val (.int p1), .val (.int (14 : Int32))] [(.int (14 : Int32))])) rfl (hb hby d1_40)
                                refine own_go (st148) ?_
                                show own_R p e below _ T148 (mkF m 43 #[.val (.int p1), .val (.int (14 : Int32))] [(.ref w), (.int (14 : Int32))])
                                obtain ⟨cl149, Ar149, q149, S149, Nn149, Hh149, G149⟩ := id V_w
                                refine own_go (X148.arraylength hx (by rw [e148]; exact Ar149.1) (State.isArrayOf_alike hZ.alike Ar149.2.1) (g := (mkF m 43 #[.val (.int p1), .val (.int (14 : Int32))] [(.ref w), (.int (14 : Int32))])) rfl rfl (hb hby d1_43)) ?_
                                rw [len_of S149 Nn149]
                                show own_R p e below _ T148 (mkF m 44 #[.val (.int p1), .val (.int (14 : Int32))] [(.int (28 : Int32)), (.int (14 : Int32))])
                                refine own_go (fun t k => XS.icmpNo X148.here hx rfl (hb hby d1_44) rfl (tlt (by decide : (14 : Int32) < (28 : Int32))).2.1 k) ?_
                                show own_R p e below _ T148 (mkF m 47 #[.val (.int p1), .val (.int (14 : Int32))] [])
                                refine own_go (fun t k => XS.iloadN X148.here hx rfl (hb hby d1_47) rfl  k) ?_
                                show own_R p e below _ T148 (mkF m 48 #[.val (.int p1), .val (.int (14 : Int32))] [(.int p1)])
                                obtain ⟨T150, X150, e150, st150⟩ := getS2 X148 hx hZ hown (host := "") (Or.inl (hw _ (List.mem_of_getElem? (i := 18) rfl))) Via.refl e148 S_LETTERS (g := (mkF m 48 #[.val (.int p1), .val (.int (14 : Int32))] [(.int p1)])) rfl (hb hby d1_48)
                                refine own_go (st150) ?_
                                show own_R p e below _ T150 (mkF m 51 #[.val (.int p1), .val (.int (14 : Int32))] [(.ref w), (.int p1)])
                                refine own_go (fun t k => XS.iloadN X150.here hx rfl (hb hby d1_51) rfl  k) ?_
                                show own_R p e below _ T150 (mkF m 52 #[.val (.int p1), .val (.int (14 : Int32))] [(.int (14 : Int32)), (.ref w), (.int p1)])
                                obtain ⟨cl151, Ar151, q151, S151, Nn151, Hh151, G151⟩ := id V_w
                                have hin151 : ¬ ((14 : Int32) < 0 ∨ cl151.slots.size ≤ ((14 : Int32)).toNatClampNeg) := inb_of S151 ⟨by decide, by decide⟩
                                have hat151 : cl151.slots[((14 : Int32)).toNatClampNeg]? = some (.int (8204 : Int32)) := Has.at Hh151 hin151 rfl
                                refine own_go (X150.iaload hx (j := (14 : Int32)) (v := (.int (8204 : Int32))) (by rw [e150]; exact Ar151.1) (State.isArrayOf_alike hZ.alike Ar151.2.1) Ar151.2.2 hin151 hat151 (g := (mkF m 52 #[.val (.int p1), .val (.int (14 : Int32))] [(.int (14 : Int32)), (.ref w), (.int p1)])) rfl rfl (hb hby d1_52)) ?_
                                show own_R p e below _ T150 (mkF m 53 #[.val (.int p1), .val (.int (14 : Int32))] [(.int (8204 : Int32)), (.int p1)])
                                by_cases hc53_152 : p1 < (8204 : Int32)
                                · -- pc 53: yes
                                  refine own_go (fun t k => XS.icmpNo X150.here hx rfl (hb hby d1_53) rfl (tlt hc53_152).2.1 k) ?_
                                  show own_R p e below _ T150 (mkF m 56 #[.val (.int p1), .val (.int (14 : Int32))] [])
                                  refine own_go (fun t k => XS.iconst X150.here hx rfl (hb hby d1_56) k) ?_
                                  show own_R p e below _ T150 (mkF m 57 #[.val (.int p1), .val (.int (14 : Int32))] [(.int (0 : Int32))])
                                  refine own_retN X150 hx Bd.returns (by simp) (BodyLoose.notSynchronized Bd) (hb hby d1_57) (by decide) (by decide) ?_
                                  have z153 : 128 ≤ p1.toInt := own_nlti hc4_1 rfl rfl
                                  have z154 : 65 ≤ p1.toInt := own_nlti hc53_40 rfl rfl
                                  have z155 : 90 < p1.toInt := own_lti hc66_45 rfl rfl
                                  have z156 : 97 ≤ p1.toInt := own_nlti hc53_50 rfl rfl
                                  have z157 : 122 < p1.toInt := own_lti hc66_57 rfl rfl
                                  have z158 : 192 ≤ p1.toInt := own_nlti hc53_62 rfl rfl
                                  have z159 : 214 < p1.toInt := own_lti hc66_71 rfl rfl
                                  have z160 : 216 ≤ p1.toInt := own_nlti hc53_76 rfl rfl
                                  have z161 : 246 < p1.toInt := own_lti hc66_87 rfl rfl
                                  have z162 : 248 ≤ p1.toInt := own_nlti hc53_92 rfl rfl
                                  have z163 : 767 < p1.toInt := own_lti hc66_105 rfl rfl
                                  have z164 : 880 ≤ p1.toInt := own_nlti hc53_110 rfl rfl
                                  have z165 : 893 < p1.toInt := own_lti hc66_125 rfl rfl
                                  have z166 : 895 ≤ p1.toInt := own_nlti hc53_130 rfl rfl
                                  have z167 : 8191 < p1.toInt := own_lti hc66_147 rfl rfl
                                  have z168 : p1.toInt < 8204 := own_lti hc53_152 rfl rfl
                                  exact ⟨by rw [if_neg (by unfold own_l; omega)]; rfl, N0, e150⟩
                                · -- pc 53: no
                                  refine own_go (fun t k => XS.icmpYes X150.here hx rfl (pc0 := 53) (pc' := 58) rfl (hb hby d1_53) rfl (flt hc53_152).2.1 (by decide) (by decide) k) ?_
                                  show own_R p e below _ T150 (mkF m 58 #[.val (.int p1), .val (.int (14 : Int32))] [])
                                  refine own_go (fun t k => XS.iloadN X150.here hx rfl (hb hby d1_58) rfl  k) ?_
                                  show own_R p e below _ T150 (mkF m 59 #[.val (.int p1), .val (.int (14 : Int32))] [(.int p1)])
                                  obtain ⟨T169, X169, e169, st169⟩ := getS2 X150 hx hZ hown (host := "") (Or.inl (hw _ (List.mem_of_getElem? (i := 18) rfl))) Via.refl e150 S_LETTERS (g := (mkF m 59 #[.val (.int p1), .val (.int (14 : Int32))] [(.int p1)])) rfl (hb hby d1_59)
                                  refine own_go (st169) ?_
                                  show own_R p e below _ T169 (mkF m 62 #[.val (.int p1), .val (.int (14 : Int32))] [(.ref w), (.int p1)])
                                  refine own_go (fun t k => XS.iloadN X169.here hx rfl (hb hby d1_62) rfl  k) ?_
                                  show own_R p e below _ T169 (mkF m 63 #[.val (.int p1), .val (.int (14 : Int32))] [(.int (14 : Int32)), (.ref w), (.int p1)])
                                  refine own_go (fun t k => XS.iconst X169.here hx rfl (hb hby d1_63) k) ?_
                                  show own_R p e below _ T169 (mkF m 64 #[.val (.int p1), .val (.int (14 : Int32))] [(.int (1 : Int32)), (.int (14 : Int32)), (.ref w), (.int p1)])
                                  refine own_go (fun t k => XS.iadd X169.here hx rfl (hb hby d1_64) rfl k) ?_
                                  show own_R p e below _ T169 (mkF m 65 #[.val (.int p1), .val (.int (14 : Int32))] [(.int (15 : Int32)), (.ref w), (.int p1)])
                                  obtain ⟨cl170, Ar170, q170, S170, Nn170, Hh170, G170⟩ := id V_w
                                  have hin170 : ¬ ((15 : Int32) < 0 ∨ cl170.slots.size ≤ ((15 : Int32)).toNatClampNeg) := inb_of S170 ⟨by decide, by decide⟩
                                  have hat170 : cl170.slots[((15 : Int32)).toNatClampNeg]? = some (.int (8205 : Int32)) := Has.at Hh170 hin170 rfl
                                  refine own_go (X169.iaload hx (j := (15 : Int32)) (v := (.int (8205 : Int32))) (by rw [e169]; exact Ar170.1) (State.isArrayOf_alike hZ.alike Ar170.2.1) Ar170.2.2 hin170 hat170 (g := (mkF m 65 #[.val (.int p1), .val (.int (14 : Int32))] [(.int (15 : Int32)), (.ref w), (.int p1)])) rfl rfl (hb hby d1_65)) ?_
                                  show own_R p e below _ T169 (mkF m 66 #[.val (.int p1), .val (.int (14 : Int32))] [(.int (8205 : Int32)), (.int p1)])
                                  by_cases hc66_171 : (8205 : Int32) < p1
                                  · -- pc 66: yes
                                    refine own_go (fun t k => XS.icmpYes X169.here hx rfl (pc0 := 66) (pc' := 71) rfl (hb hby d1_66) rfl (tlt hc66_171).2.2.1 (by decide) (by decide) k) ?_
                                    show own_R p e below _ T169 (mkF m 71 #[.val (.int p1), .val (.int (14 : Int32))] [])
                                    refine own_go (fun t k => XS.iinc X169.here hx rfl (hb hby d1_71) rfl (l' := #[.val (.int p1), .val (.int (16 : Int32))]) rfl k) ?_
                                    show own_R p e below _ T169 (mkF m 74 #[.val (.int p1), .val (.int (16 : Int32))] [])
                                    refine own_go (fun t k => XS.goto X169.here hx rfl (pc0 := 74) (pc' := 39) rfl (hb hby d1_74) (by decide) (by decide) k) ?_
                                    show own_R p e below _ T169 (mkF m 39 #[.val (.int p1), .val (.int (16 : Int32))] [])
                                    refine own_go (fun t k => XS.iloadN X169.here hx rfl (hb hby d1_39) rfl  k) ?_
                                    show own_R p e below _ T169 (mkF m 40 #[.val (.int p1), .val (.int (16 : Int32))] [(.int (16 : Int32))])
                                    obtain ⟨T172, X172, e172, st172⟩ := getS2 X169 hx hZ hown (host := "") (Or.inl (hw _ (List.mem_of_getElem? (i := 18) rfl))) Via.refl e169 S_LETTERS (g := (mkF m 40 #[.val (.int p1), .val (.int (16 : Int32))] [(.int (16 : Int32))])) rfl (hb hby d1_40)
                                    refine own_go (st172) ?_
                                    show own_R p e below _ T172 (mkF m 43 #[.val (.int p1), .val (.int (16 : Int32))] [(.ref w), (.int (16 : Int32))])
                                    obtain ⟨cl173, Ar173, q173, S173, Nn173, Hh173, G173⟩ := id V_w
                                    refine own_go (X172.arraylength hx (by rw [e172]; exact Ar173.1) (State.isArrayOf_alike hZ.alike Ar173.2.1) (g := (mkF m 43 #[.val (.int p1), .val (.int (16 : Int32))] [(.ref w), (.int (16 : Int32))])) rfl rfl (hb hby d1_43)) ?_
                                    rw [len_of S173 Nn173]
                                    show own_R p e below _ T172 (mkF m 44 #[.val (.int p1), .val (.int (16 : Int32))] [(.int (28 : Int32)), (.int (16 : Int32))])
                                    refine own_go (fun t k => XS.icmpNo X172.here hx rfl (hb hby d1_44) rfl (tlt (by decide : (16 : Int32) < (28 : Int32))).2.1 k) ?_
                                    show own_R p e below _ T172 (mkF m 47 #[.val (.int p1), .val (.int (16 : Int32))] [])
                                    refine own_go (fun t k => XS.iloadN X172.here hx rfl (hb hby d1_47) rfl  k) ?_
                                    show own_R p e below _ T172 (mkF m 48 #[.val (.int p1), .val (.int (16 : Int32))] [(.int p1)])
                                    obtain ⟨T174, X174, e174, st174⟩ := getS2 X172 hx hZ hown (host := "") (Or.inl (hw _ (List.mem_of_getElem? (i := 18) rfl))) Via.refl e172 S_LETTERS (g := (mkF m 48 #[.val (.int p1), .val (.int (16 : Int32))] [(.int p1)])) rfl (hb hby d1_48)
                                    refine own_go (st174) ?_
                                    show own_R p e below _ T174 (mkF m 51 #[.val (.int p1), .val (.int (16 : Int32))] [(.ref w), (.int p1)])
                                    refine own_go (fun t k => XS.iloadN X174.here hx rfl (hb hby d1_51) rfl  k) ?_
                                    show own_R p e below _ T174 (mkF m 52 #[.val (.int p1), .val (.int (16 : Int32))] [(.int (16 : Int32)), (.ref w), (.int p1)])
                                    obtain ⟨cl175, Ar175, q175, S175, Nn175, Hh175, G175⟩ := id V_w
                                    have hin175 : ¬ ((16 : Int32) < 0 ∨ cl175.slots.size ≤ ((16 : Int32)).toNatClampNeg) := inb_of S175 ⟨by decide, by decide⟩
                                    have hat175 : cl175.slots[((16 : Int32)).toNatClampNeg]? = some (.int (8304 : Int32)) := Has.at Hh175 hin175 rfl
                                    refine own_go (X174.iaload hx (j := (16 : Int32)) (v := (.int (8304 : Int32))) (by rw [e174]; exact Ar175.1) (State.isArrayOf_alike hZ.alike Ar175.2.1) Ar175.2.2 hin175 hat175 (g := (mkF m 52 #[.val (.int p1), .val (.int (16 : Int32))] [(.int (16 : Int32)), (.ref w), (.int p1)])) rfl rfl (hb hby d1_52)) ?_
                                    show own_R p e below _ T174 (mkF m 53 #[.val (.int p1), .val (.int (16 : Int32))] [(.int (8304 : Int32)), (.int p1)])
                                    by_cases hc53_176 : p1 < (8304 : Int32)
                                    · -- pc 53: yes
                                      refine own_go (fun t k => XS.icmpNo X174.here hx rfl (hb hby d1_53) rfl (tlt hc53_176).2.1 k) ?_
                                      show own_R p e below _ T174 (mkF m 56 #[.val (.int p1), .val (.int (16 : Int32))] [])
                                      refine own_go (fun t k => XS.iconst X174.here hx rfl (hb hby d1_56) k) ?_
                                      show own_R p e below _ T174 (mkF m 57 #[.val (.int p1), .val (.int (16 : Int32))] [(.int (0 : Int32))])
                                      refine own_retN X174 hx Bd.returns (by simp) (BodyLoose.notSynchronized Bd) (hb hby d1_57) (by decide) (by decide) ?_
                                      have z177 : 128 ≤ p1.toInt := own_nlti hc4_1 rfl rfl
                                      have z178 : 65 ≤ p1.toInt := own_nlti hc53_40 rfl rfl
                                      have z179 : 90 < p1.toInt := own_lti hc66_45 rfl rfl
                                      have z180 : 97 ≤ p1.toInt := own_nlti hc53_50 rfl rfl
                                      have z181 : 122 < p1.toInt := own_lti hc66_57 rfl rfl
                                      have z182 : 192 ≤ p1.toInt := own_nlti hc53_62 rfl rfl
                                      have z183 : 214 < p1.toInt := own_lti hc66_71 rfl rfl
                                      have z184 : 216 ≤ p1.toInt := own_nlti hc53_76 rfl rfl
                                      have z185 : 246 < p1.toInt := own_lti hc66_87 rfl rfl
                                      have z186 : 248 ≤ p1.toInt := own_nlti hc53_92 rfl rfl
                                      have z187 : 767 < p1.toInt := own_lti hc66_105 rfl rfl
                                      have z188 : 880 ≤ p1.toInt := own_nlti hc53_110 rfl rfl
                                      have z189 : 893 < p1.toInt := own_lti hc66_125 rfl rfl
                                      have z190 : 895 ≤ p1.toInt := own_nlti hc53_130 rfl rfl
                                      have z191 : 8191 < p1.toInt := own_lti hc66_147 rfl rfl
                                      have z192 : 8204 ≤ p1.toInt := own_nlti hc53_152 rfl rfl
                                      have z193 : 8205 < p1.toInt := own_lti hc66_171 rfl rfl
                                      have z194 : p1.toInt < 8304 := own_lti hc53_176 rfl rfl
                                      exact ⟨by rw [if_neg (by unfold own_l; omega)]; rfl, N0, e174⟩
                                    · -- pc 53: no
                                      refine own_go (fun t k => XS.icmpYes X174.here hx rfl (pc0 := 53) (pc' := 58) rfl (hb hby d1_53) rfl (flt hc53_176).2.1 (by decide) (by decide) k) ?_
                                      show own_R p e below _ T174 (mkF m 58 #[.val (.int p1), .val (.int (16 : Int32))] [])
                                      refine own_go (fun t k => XS.iloadN X174.here hx rfl (hb hby d1_58) rfl  k) ?_
                                      show own_R p e below _ T174 (mkF m 59 #[.val (.int p1), .val (.int (16 : Int32))] [(.int p1)])
                                      obtain ⟨T195, X195, e195, st195⟩ := getS2 X174 hx hZ hown (host := "") (Or.inl (hw _ (List.mem_of_getElem? (i := 18) rfl))) Via.refl e174 S_LETTERS (g := (mkF m 59 #[.val (.int p1), .val (.int (16 : Int32))] [(.int p1)])) rfl (hb hby d1_59)
                                      refine own_go (st195) ?_
                                      show own_R p e below _ T195 (mkF m 62 #[.val (.int p1), .val (.int (16 : Int32))] [(.ref w), (.int p1)])
                                      refine own_go (fun t k => XS.iloadN X195.here hx rfl (hb hby d1_62) rfl  k) ?_
                                      show own_R p e below _ T195 (mkF m 63 #[.val (.int p1), .val (.int (16 : Int32))] [(.int (16 : Int32)), (.ref w), (.int p1)])
                                      refine own_go (fun t k => XS.iconst X195.here hx rfl (hb hby d1_63) k) ?_
                                      show own_R p e below _ T195 (mkF m 64 #[.val (.int p1), .val (.int (16 : Int32))] [(.int (1 : Int32)), (.int (16 : Int32)), (.ref w), (.int p1)])
                                      refine own_go (fun t k => XS.iadd X195.here hx rfl (hb hby d1_64) rfl k) ?_
                                      show own_R p e below _ T195 (mkF m 65 #[.val (.int p1), .val (.int (16 : Int32))] [(.int (17 : Int32)), (.ref w), (.int p1)])
                                      obtain ⟨cl196, Ar196, q196, S196, Nn196, Hh196, G196⟩ := id V_w
                                      have hin196 : ¬ ((17 : Int32) < 0 ∨ cl196.slots.size ≤ ((17 : Int32)).toNatClampNeg) := inb_of S196 ⟨by decide, by decide⟩
                                      have hat196 : cl196.slots[((17 : Int32)).toNatClampNeg]? = some (.int (8591 : Int32)) := Has.at Hh196 hin196 rfl
                                      refine own_go (X195.iaload hx (j := (17 : Int32)) (v := (.int (8591 : Int32))) (by rw [e195]; exact Ar196.1) (State.isArrayOf_alike hZ.alike Ar196.2.1) Ar196.2.2 hin196 hat196 (g := (mkF m 65 #[.val (.int p1), .val (.int (16 : Int32))] [(.int (17 : Int32)), (.ref w), (.int p1)])) rfl rfl (hb hby d1_65)) ?_
                                      show own_R p e below _ T195 (mkF m 66 #[.val (.int p1), .val (.int (16 : Int32))] [(.int (8591 : Int32)), (.int p1)])
                                      by_cases hc66_197 : (8591 : Int32) < p1
                                      · -- pc 66: yes
                                        refine own_go (fun t k => XS.icmpYes X195.here hx rfl (pc0 := 66) (pc' := 71) rfl (hb hby d1_66) rfl (tlt hc66_197).2.2.1 (by decide) (by decide) k) ?_
                                        show own_R p e below _ T195 (mkF m 71 #[.val (.int p1), .val (.int (16 : Int32))] [])
                                        refine own_go (fun t k => XS.iinc X195.here hx rfl (hb hby d1_71) rfl (l' := #[.val (.int p1), .val (.int (18 : Int32))]) rfl k) ?_
                                        show own_R p e below _ T195 (mkF m 74 #[.val (.int p1), .val (.int (18 : Int32))] [])
                                        refine own_go (fun t k => XS.goto X195.here hx rfl (pc0 := 74) (pc' := 39) rfl (hb hby d1_74) (by decide) (by decide) k) ?_
                                        show own_R p e below _ T195 (mkF m 39 #[.val (.int p1), .val (.int (18 : Int32))] [])
                                        refine own_go (fun t k => XS.iloadN X195.here hx rfl (hb hby d1_39) rfl  k) ?_
                                        show own_R p e below _ T195 (mkF m 40 #[.val (.int p1), .val (.int (18 : Int32))] [(.int (18 : Int32))])
                                        obtain ⟨T198, X198, e198, st198⟩ := getS2 X195 hx hZ hown (host := "") (Or.inl (hw _ (List.mem_of_getElem? (i := 18) rfl))) Via.refl e195 S_LETTERS (g := (mkF m 40 #[.val (.int p1), .val (.int (18 : Int32))] [(.int (18 : Int32))])) rfl (hb hby d1_40)
                                        refine own_go (st198) ?_
                                        show own_R p e below _ T198 (mkF m 43 #[.val (.int p1), .val (.int (18 : Int32))] [(.ref w), (.int (18 : Int32))])
                                        obtain ⟨cl199, Ar199, q199, S199, Nn199, Hh199, G199⟩ := id V_w
                                        refine own_go (X198.arraylength hx (by rw [e198]; exact Ar199.1) (State.isArrayOf_alike hZ.alike Ar199.2.1) (g := (mkF m 43 #[.val (.int p1), .val (.int (18 : Int32))] [(.ref w), (.int (18 : Int32))])) rfl rfl (hb hby d1_43)) ?_
                                        rw [len_of S199 Nn199]
                                        show own_R p e below _ T198 (mkF m 44 #[.val (.int p1), .val (.int (18 : Int32))] [(.int (28 : Int32)), (.int (18 : Int32))])
                                        refine own_go (fun t k => XS.icmpNo X198.here hx rfl (hb hby d1_44) rfl (tlt (by decide : (18 : Int32) < (28 : Int32))).2.1 k) ?_
                                        show own_R p e below _ T198 (mkF m 47 #[.val (.int p1), .val (.int (18 : Int32))] [])
                                        refine own_go (fun t k => XS.iloadN X198.here hx rfl (hb hby d1_47) rfl  k) ?_
                                        show own_R p e below _ T198 (mkF m 48 #[.val (.int p1), .val (.int (18 : Int32))] [(.int p1)])
                                        obtain ⟨T200, X200, e200, st200⟩ := getS2 X198 hx hZ hown (host := "") (Or.inl (hw _ (List.mem_of_getElem? (i := 18) rfl))) Via.refl e198 S_LETTERS (g := (mkF m 48 #[.val (.int p1), .val (.int (18 : Int32))] [(.int p1)])) rfl (hb hby d1_48)
                                        refine own_go (st200) ?_
                                        show own_R p e below _ T200 (mkF m 51 #[.val (.int p1), .val (.int (18 : Int32))] [(.ref w), (.int p1)])
                                        refine own_go (fun t k => XS.iloadN X200.here hx rfl (hb hby d1_51) rfl  k) ?_
                                        show own_R p e below _ T200 (mkF m 52 #[.val (.int p1), .val (.int (18 : Int32))] [(.int (18 : Int32)), (.ref w), (.int p1)])
                                        obtain ⟨cl201, Ar201, q201, S201, Nn201, Hh201, G201⟩ := id V_w
                                        have hin201 : ¬ ((18 : Int32) < 0 ∨ cl201.slots.size ≤ ((18 : Int32)).toNatClampNeg) := inb_of S201 ⟨by decide, by decide⟩
                                        have hat201 : cl201.slots[((18 : Int32)).toNatClampNeg]? = some (.int (11264 : Int32)) := Has.at Hh201 hin201 rfl
                                        refine own_go (X200.iaload hx (j := (18 : Int32)) (v := (.int (11264 : Int32))) (by rw [e200]; exact Ar201.1) (State.isArrayOf_alike hZ.alike Ar201.2.1) Ar201.2.2 hin201 hat201 (g := (mkF m 52 #[.val (.int p1), .val (.int (18 : Int32))] [(.int (18 : Int32)), (.ref w), (.int p1)])) rfl rfl (hb hby d1_52)) ?_
                                        show own_R p e below _ T200 (mkF m 53 #[.val (.int p1), .val (.int (18 : Int32))] [(.int (11264 : Int32)), (.int p1)])
                                        by_cases hc53_202 : p1 < (11264 : Int32)
                                        · -- pc 53: yes
                                          refine own_go (fun t k => XS.icmpNo X200.here hx rfl (hb hby d1_53) rfl (tlt hc53_202).2.1 k) ?_
                                          show own_R p e below _ T200 (mkF m 56 #[.val (.int p1), .val (.int (18 : Int32))] [])
                                          refine own_go (fun t k => XS.iconst X200.here hx rfl (hb hby d1_56) k) ?_
                                          show own_R p e below _ T200 (mkF m 57 #[.val (.int p1), .val (.int (18 : Int32))] [(.int (0 : Int32))])
                                          refine own_retN X200 hx Bd.returns (by simp) (BodyLoose.notSynchronized Bd) (hb hby d1_57) (by decide) (by decide) ?_
                                          have z203 : 128 ≤ p1.toInt := own_nlti hc4_1 rfl rfl
                                          have z204 : 65 ≤ p1.toInt := own_nlti hc53_40 rfl rfl
                                          have z205 : 90 < p1.toInt := own_lti hc66_45 rfl rfl
                                          have z206 : 97 ≤ p1.toInt := own_nlti hc53_50 rfl rfl
                                          have z207 : 122 < p1.toInt := own_lti hc66_57 rfl rfl
                                          have z208 : 192 ≤ p1.toInt := own_nlti hc53_62 rfl rfl
                                          have z209 : 214 < p1.toInt := own_lti hc66_71 rfl rfl
                                          have z210 : 216 ≤ p1.toInt := own_nlti hc53_76 rfl rfl
                                          have z211 : 246 < p1.toInt := own_lti hc66_87 rfl rfl
                                          have z212 : 248 ≤ p1.toInt := own_nlti hc53_92 rfl rfl
                                          have z213 : 767 < p1.toInt := own_lti hc66_105 rfl rfl
                                          have z214 : 880 ≤ p1.toInt := own_nlti hc53_110 rfl rfl
                                          have z215 : 893 < p1.toInt := own_lti hc66_125 rfl rfl
                                          have z216 : 895 ≤ p1.toInt := own_nlti hc53_130 rfl rfl
                                          have z217 : 8191 < p1.toInt := own_lti hc66_147 rfl rfl
                                          have z218 : 8204 ≤ p1.toInt := own_nlti hc53_152 rfl rfl
                                          have z219 : 8205 < p1.toInt := own_lti hc66_171 rfl rfl
                                          have z220 : 8304 ≤ p1.toInt := own_nlti hc53_176 rfl rfl
                                          have z221 : 8591 < p1.toInt := own_lti hc66_197 rfl rfl
                                          have z222 : p1.toInt < 11264 := own_lti hc53_202 rfl rfl
                                          exact ⟨by rw [if_neg (by unfold own_l; omega)]; rfl, N0, e200⟩
                                        · -- pc 53: no
                                          refine own_go (fun t k => XS.icmpYes X200.here hx rfl (pc0 := 53) (pc' := 58) rfl (hb hby d1_53) rfl (flt hc53_202).2.1 (by decide) (by decide) k) ?_
                                          show own_R p e below _ T200 (mkF m 58 #[.val (.int p1), .val (.int (18 : Int32))] [])
                                          refine own_go (fun t k => XS.iloadN X200.here hx rfl (hb hby d1_58) rfl  k) ?_
                                          show own_R p e below _ T200 (mkF m 59 #[.val (.int p1), .val (.int (18 : Int32))] [(.int p1)])
                                          obtain ⟨T223, X223, e223, st223⟩ := getS2 X200 hx hZ hown (host := "") (Or.inl (hw _ (List.mem_of_getElem? (i := 18) rfl))) Via.refl e200 S_LETTERS (g := (mkF m 59 #[.val (.int p1), .val (.int (18 : Int32))] [(.int p1)])) rfl (hb hby d1_59)
                                          refine own_go (st223) ?_
                                          show own_R p e below _ T223 (mkF m 62 #[.val (.int p1), .val (.int (18 : Int32))] [(.ref w), (.int p1)])
                                          refine own_go (fun t k => XS.iloadN X223.here hx rfl (hb hby d1_62) rfl  k) ?_
                                          show own_R p e below _ T223 (mkF m 63 #[.val (.int p1), .val (.int (18 : Int32))] [(.int (18 : Int32)), (.ref w), (.int p1)])
                                          refine own_go (fun t k => XS.iconst X223.here hx rfl (hb hby d1_63) k) ?_
                                          show own_R p e below _ T223 (mkF m 64 #[.val (.int p1), .val (.int (18 : Int32))] [(.int (1 : Int32)), (.int (18 : Int32)), (.ref w), (.int p1)])
                                          refine own_go (fun t k => XS.iadd X223.here hx rfl (hb hby d1_64) rfl k) ?_
                                          show own_R p e below _ T223 (mkF m 65 #[.val (.int p1), .val (.int (18 : Int32))] [(.int (19 : Int32)), (.ref w), (.int p1)])
                                          obtain ⟨cl224, Ar224, q224, S224, Nn224, Hh224, G224⟩ := id V_w
                                          have hin224 : ¬ ((19 : Int32) < 0 ∨ cl224.slots.size ≤ ((19 : Int32)).toNatClampNeg) := inb_of S224 ⟨by decide, by decide⟩
                                          have hat224 : cl224.slots[((19 : Int32)).toNatClampNeg]? = some (.int (12271 : Int32)) := Has.at Hh224 hin224 rfl
                                          refine own_go (X223.iaload hx (j := (19 : Int32)) (v := (.int (12271 : Int32))) (by rw [e223]; exact Ar224.1) (State.isArrayOf_alike hZ.alike Ar224.2.1) Ar224.2.2 hin224 hat224 (g := (mkF m 65 #[.val (.int p1), .val (.int (18 : Int32))] [(.int (19 : Int32)), (.ref w), (.int p1)])) rfl rfl (hb hby d1_65)) ?_
                                          show own_R p e below _ T223 (mkF m 66 #[.val (.int p1), .val (.int (18 : Int32))] [(.int (12271 : Int32)), (.int p1)])
                                          by_cases hc66_225 : (12271 : Int32) < p1
                                          · -- pc 66: yes
                                            refine own_go (fun t k => XS.icmpYes X223.here hx rfl (pc0 := 66) (pc' := 71) rfl (hb hby d1_66) rfl (tlt hc66_225).2.2.1 (by decide) (by decide) k) ?_
                                            show own_R p e below _ T223 (mkF m 71 #[.val (.int p1), .val (.int (18 : Int32))] [])
                                            refine own_go (fun t k => XS.iinc X223.here hx rfl (hb hby d1_71) rfl (l' := #[.val (.int p1), .val (.int (20 : Int32))]) rfl k) ?_
                                            show own_R p e below _ T223 (mkF m 74 #[.val (.int p1), .val (.int (20 : Int32))] [])
                                            refine own_go (fun t k => XS.goto X223.here hx rfl (pc0 := 74) (pc' := 39) rfl (hb hby d1_74) (by decide) (by decide) k) ?_
                                            show own_R p e below _ T223 (mkF m 39 #[.val (.int p1), .val (.int (20 : Int32))] [])
                                            refine own_go (fun t k => XS.iloadN X223.here hx rfl (hb hby d1_39) rfl  k) ?_
                                            show own_R p e below _ T223 (mkF m 40 #[.val (.int p1), .val (.int (20 : Int32))] [(.int (20 : Int32))])
                                            obtain ⟨T226, X226, e226, st226⟩ := getS2 X223 hx hZ hown (host := "") (Or.inl (hw _ (List.mem_of_getElem? (i := 18) rfl))) Via.refl e223 S_LETTERS (g := (mkF m 40 #[.val (.int p1), .val (.int (20 : Int32))] [(.int (20 : Int32))])) rfl (hb hby d1_40)
                                            refine own_go (st226) ?_
                                            show own_R p e below _ T226 (mkF m 43 #[.val (.int p1), .val (.int (20 : Int32))] [(.ref w), (.int (20 : Int32))])
                                            obtain ⟨cl227, Ar227, q227, S227, Nn227, Hh227, G227⟩ := id V_w
                                            refine own_go (X226.arraylength hx (by rw [e226]; exact Ar227.1) (State.isArrayOf_alike hZ.alike Ar227.2.1) (g := (mkF m 43 #[.val (.int p1), .val (.int (20 : Int32))] [(.ref w), (.int (20 : Int32))])) rfl rfl (hb hby d1_43)) ?_
                                            rw [len_of S227 Nn227]
                                            show own_R p e below _ T226 (mkF m 44 #[.val (.int p1), .val (.int (20 : Int32))] [(.int (28 : Int32)), (.int (20 : Int32))])
                                            refine own_go (fun t k => XS.icmpNo X226.here hx rfl (hb hby d1_44) rfl (tlt (by decide : (20 : Int32) < (28 : Int32))).2.1 k) ?_
                                            show own_R p e below _ T226 (mkF m 47 #[.val (.int p1), .val (.int (20 : Int32))] [])
                                            refine own_go (fun t k => XS.iloadN X226.here hx rfl (hb hby d1_47) rfl  k) ?_
                                            show own_R p e below _ T226 (mkF m 48 #[.val (.int p1), .val (.int (20 : Int32))] [(.int p1)])
                                            obtain ⟨T228, X228, e228, st228⟩ := getS2 X226 hx hZ hown (host := "") (Or.inl (hw _ (List.mem_of_getElem? (i := 18) rfl))) Via.refl e226 S_LETTERS (g := (mkF m 48 #[.val (.int p1), .val (.int (20 : Int32))] [(.int p1)])) rfl (hb hby d1_48)
                                            refine own_go (st228) ?_
                                            show own_R p e below _ T228 (mkF m 51 #[.val (.int p1), .val (.int (20 : Int32))] [(.ref w), (.int p1)])
                                            refine own_go (fun t k => XS.iloadN X228.here hx rfl (hb hby d1_51) rfl  k) ?_
                                            show own_R p e below _ T228 (mkF m 52 #[.val (.int p1), .val (.int (20 : Int32))] [(.int (20 : Int32)), (.ref w), (.int p1)])
                                            obtain ⟨cl229, Ar229, q229, S229, Nn229, Hh229, G229⟩ := id V_w
                                            have hin229 : ¬ ((20 : Int32) < 0 ∨ cl229.slots.size ≤ ((20 : Int32)).toNatClampNeg) := inb_of S229 ⟨by decide, by decide⟩
                                            have hat229 : cl229.slots[((20 : Int32)).toNatClampNeg]? = some (.int (12289 : Int32)) := Has.at Hh229 hin229 rfl
                                            refine own_go (X228.iaload hx (j := (20 : Int32)) (v := (.int (12289 : Int32))) (by rw [e228]; exact Ar229.1) (State.isArrayOf_alike hZ.alike Ar229.2.1) Ar229.2.2 hin229 hat229 (g := (mkF m 52 #[.val (.int p1), .val (.int (20 : Int32))] [(.int (20 : Int32)), (.ref w), (.int p1)])) rfl rfl (hb hby d1_52)) ?_
                                            show own_R p e below _ T228 (mkF m 53 #[.val (.int p1), .val (.int (20 : Int32))] [(.int (12289 : Int32)), (.int p1)])
                                            by_cases hc53_230 : p1 < (12289 : Int32)
                                            · -- pc 53: yes
                                              refine own_go (fun t k => XS.icmpNo X228.here hx rfl (hb hby d1_53) rfl (tlt hc53_230).2.1 k) ?_
                                              show own_R p e below _ T228 (mkF m 56 #[.val (.int p1), .val (.int (20 : Int32))] [])
                                              refine own_go (fun t k => XS.iconst X228.here hx rfl (hb hby d1_56) k) ?_
                                              show own_R p e below _ T228 (mkF m 57 #[.val (.int p1), .val (.int (20 : Int32))] [(.int (0 : Int32))])
                                              refine own_retN X228 hx Bd.returns (by simp) (BodyLoose.notSynchronized Bd) (hb hby d1_57) (by decide) (by decide) ?_
                                              have z231 : 128 ≤ p1.toInt := own_nlti hc4_1 rfl rfl
                                              have z232 : 65 ≤ p1.toInt := own_nlti hc53_40 rfl rfl
                                              have z233 : 90 < p1.toInt := own_lti hc66_45 rfl rfl
                                              have z234 : 97 ≤ p1.toInt := own_nlti hc53_50 rfl rfl
                                              have z235 : 122 < p1.toInt := own_lti hc66_57 rfl rfl
                                              have z236 : 192 ≤ p1.toInt := own_nlti hc53_62 rfl rfl
                                              have z237 : 214 < p1.toInt := own_lti hc66_71 rfl rfl
                                              have z238 : 216 ≤ p1.toInt := own_nlti hc53_76 rfl rfl
                                              have z239 : 246 < p1.toInt := own_lti hc66_87 rfl rfl
                                              have z240 : 248 ≤ p1.toInt := own_nlti hc53_92 rfl rfl
                                              have z241 : 767 < p1.toInt := own_lti hc66_105 rfl rfl
                                              have z242 : 880 ≤ p1.toInt := own_nlti hc53_110 rfl rfl
                                              have z243 : 893 < p1.toInt := own_lti hc66_125 rfl rfl
                                              have z244 : 895 ≤ p1.toInt := own_nlti hc53_130 rfl rfl
                                              have z245 : 8191 < p1.toInt := own_lti hc66_147 rfl rfl
                                              have z246 : 8204 ≤ p1.toInt := own_nlti hc53_152 rfl rfl
                                              have z247 : 8205 < p1.toInt := own_lti hc66_171 rfl rfl
                                              have z248 : 8304 ≤ p1.toInt := own_nlti hc53_176 rfl rfl
                                              have z249 : 8591 < p1.toInt := own_lti hc66_197 rfl rfl
                                              have z250 : 11264 ≤ p1.toInt := own_nlti hc53_202 rfl rfl
                                              have z251 : 12271 < p1.toInt := own_lti hc66_225 rfl rfl
                                              have z252 : p1.toInt < 12289 := own_lti hc53_230 rfl rfl
                                              exact ⟨by rw [if_neg (by unfold own_l; omega)]; rfl, N0, e228⟩
                                            · -- pc 53: no
                                              refine own_go (fun t k => XS.icmpYes X228.here hx rfl (pc0 := 53) (pc' := 58) rfl (hb hby d1_53) rfl (flt hc53_230).2.1 (by decide) (by decide) k) ?_
                                              show own_R p e below _ T228 (mkF m 58 #[.val (.int p1), .val (.int (20 : Int32))] [])
                                              refine own_go (fun t k => XS.iloadN X228.here hx rfl (hb hby d1_58) rfl  k) ?_
                                              show own_R p e below _ T228 (mkF m 59 #[.val (.int p1), .val (.int (20 : Int32))] [(.int p1)])
                                              obtain ⟨T253, X253, e253, st253⟩ := getS2 X228 hx hZ hown (host := "") (Or.inl (hw _ (List.mem_of_getElem? (i := 18) rfl))) Via.refl e228 S_LETTERS (g := (mkF m 59 #[.val (.int p1), .val (.int (20 : Int32))] [(.int p1)])) rfl (hb hby d1_59)
                                              refine own_go (st253) ?_
                                              show own_R p e below _ T253 (mkF m 62 #[.val (.int p1), .val (.int (20 : Int32))] [(.ref w), (.int p1)])
                                              refine own_go (fun t k => XS.iloadN X253.here hx rfl (hb hby d1_62) rfl  k) ?_
                                              show own_R p e below _ T253 (mkF m 63 #[.val (.int p1), .val (.int (20 : Int32))] [(.int (20 : Int32)), (.ref w), (.int p1)])
                                              refine own_go (fun t k => XS.iconst X253.here hx rfl (hb hby d1_63) k) ?_
                                              show own_R p e below _ T253 (mkF m 64 #[.val (.int p1), .val (.int (20 : Int32))] [(.int (1 : Int32)), (.int (20 : Int32)), (.ref w), (.int p1)])
                                              refine own_go (fun t k => XS.iadd X253.here hx rfl (hb hby d1_64) rfl k) ?_
                                              show own_R p e below _ T253 (mkF m 65 #[.val (.int p1), .val (.int (20 : Int32))] [(.int (21 : Int32)), (.ref w), (.int p1)])
                                              obtain ⟨cl254, Ar254, q254, S254, Nn254, Hh254, G254⟩ := id V_w
                                              have hin254 : ¬ ((21 : Int32) < 0 ∨ cl254.slots.size ≤ ((21 : Int32)).toNatClampNeg) := inb_of S254 ⟨by decide, by decide⟩
                                              have hat254 : cl254.slots[((21 : Int32)).toNatClampNeg]? = some (.int (55295 : Int32)) := Has.at Hh254 hin254 rfl
                                              refine own_go (X253.iaload hx (j := (21 : Int32)) (v := (.int (55295 : Int32))) (by rw [e253]; exact Ar254.1) (State.isArrayOf_alike hZ.alike Ar254.2.1) Ar254.2.2 hin254 hat254 (g := (mkF m 65 #[.val (.int p1), .val (.int (20 : Int32))] [(.int (21 : Int32)), (.ref w), (.int p1)])) rfl rfl (hb hby d1_65)) ?_
                                              show own_R p e below _ T253 (mkF m 66 #[.val (.int p1), .val (.int (20 : Int32))] [(.int (55295 : Int32)), (.int p1)])
                                              by_cases hc66_255 : (55295 : Int32) < p1
                                              · -- pc 66: yes
                                                refine own_go (fun t k => XS.icmpYes X253.here hx rfl (pc0 := 66) (pc' := 71) rfl (hb hby d1_66) rfl (tlt hc66_255).2.2.1 (by decide) (by decide) k) ?_
                                                show own_R p e below _ T253 (mkF m 71 #[.val (.int p1), .val (.int (20 : Int32))] [])
                                                refine own_go (fun t k => XS.iinc X253.here hx rfl (hb hby d1_71) rfl (l' := #[.val (.int p1), .val (.int (22 : Int32))]) rfl k) ?_
                                                show own_R p e below _ T253 (mkF m 74 #[.val (.int p1), .val (.int (22 : Int32))] [])
                                                refine own_go (fun t k => XS.goto X253.here hx rfl (pc0 := 74) (pc' := 39) rfl (hb hby d1_74) (by decide) (by decide) k) ?_
                                                show own_R p e below _ T253 (mkF m 39 #[.val (.int p1), .val (.int (22 : Int32))] [])
                                                refine own_go (fun t k => XS.iloadN X253.here hx rfl (hb hby d1_39) rfl  k) ?_
                                                show own_R p e below _ T253 (mkF m 40 #[.val (.int p1), .val (.int (22 : Int32))] [(.int (22 : Int32))])
                                                obtain ⟨T256, X256, e256, st256⟩ := getS2 X253 hx hZ hown (host := "") (Or.inl (hw _ (List.mem_of_getElem? (i := 18) rfl))) Via.refl e253 S_LETTERS (g := (mkF m 40 #[.val (.int p1), .val (.int (22 : Int32))] [(.int (22 : Int32))])) rfl (hb hby d1_40)
                                                refine own_go (st256) ?_
                                                show own_R p e below _ T256 (mkF m 43 #[.val (.int p1), .val (.int (22 : Int32))] [(.ref w), (.int (22 : Int32))])
                                                obtain ⟨cl257, Ar257, q257, S257, Nn257, Hh257, G257⟩ := id V_w
                                                refine own_go (X256.arraylength hx (by rw [e256]; exact Ar257.1) (State.isArrayOf_alike hZ.alike Ar257.2.1) (g := (mkF m 43 #[.val (.int p1), .val (.int (22 : Int32))] [(.ref w), (.int (22 : Int32))])) rfl rfl (hb hby d1_43)) ?_
                                                rw [len_of S257 Nn257]
                                                show own_R p e below _ T256 (mkF m 44 #[.val (.int p1), .val (.int (22 : Int32))] [(.int (28 : Int32)), (.int (22 : Int32))])
                                                refine own_go (fun t k => XS.icmpNo X256.here hx rfl (hb hby d1_44) rfl (tlt (by decide : (22 : Int32) < (28 : Int32))).2.1 k) ?_
                                                show own_R p e below _ T256 (mkF m 47 #[.val (.int p1), .val (.int (22 : Int32))] [])
                                                refine own_go (fun t k => XS.iloadN X256.here hx rfl (hb hby d1_47) rfl  k) ?_
                                                show own_R p e below _ T256 (mkF m 48 #[.val (.int p1), .val (.int (22 : Int32))] [(.int p1)])
                                                obtain ⟨T258, X258, e258, st258⟩ := getS2 X256 hx hZ hown (host := "") (Or.inl (hw _ (List.mem_of_getElem? (i := 18) rfl))) Via.refl e256 S_LETTERS (g := (mkF m 48 #[.val (.int p1), .val (.int (22 : Int32))] [(.int p1)])) rfl (hb hby d1_48)
                                                refine own_go (st258) ?_
                                                show own_R p e below _ T258 (mkF m 51 #[.val (.int p1), .val (.int (22 : Int32))] [(.ref w), (.int p1)])
                                                refine own_go (fun t k => XS.iloadN X258.here hx rfl (hb hby d1_51) rfl  k) ?_
                                                show own_R p e below _ T258 (mkF m 52 #[.val (.int p1), .val (.int (22 : Int32))] [(.int (22 : Int32)), (.ref w), (.int p1)])
                                                obtain ⟨cl259, Ar259, q259, S259, Nn259, Hh259, G259⟩ := id V_w
                                                have hin259 : ¬ ((22 : Int32) < 0 ∨ cl259.slots.size ≤ ((22 : Int32)).toNatClampNeg) := inb_of S259 ⟨by decide, by decide⟩
                                                have hat259 : cl259.slots[((22 : Int32)).toNatClampNeg]? = some (.int (63744 : Int32)) := Has.at Hh259 hin259 rfl
                                                refine own_go (X258.iaload hx (j := (22 : Int32)) (v := (.int (63744 : Int32))) (by rw [e258]; exact Ar259.1) (State.isArrayOf_alike hZ.alike Ar259.2.1) Ar259.2.2 hin259 hat259 (g := (mkF m 52 #[.val (.int p1), .val (.int (22 : Int32))] [(.int (22 : Int32)), (.ref w), (.int p1)])) rfl rfl (hb hby d1_52)) ?_
                                                show own_R p e below _ T258 (mkF m 53 #[.val (.int p1), .val (.int (22 : Int32))] [(.int (63744 : Int32)), (.int p1)])
                                                by_cases hc53_260 : p1 < (63744 : Int32)
                                                · -- pc 53: yes
                                                  refine own_go (fun t k => XS.icmpNo X258.here hx rfl (hb hby d1_53) rfl (tlt hc53_260).2.1 k) ?_
                                                  show own_R p e below _ T258 (mkF m 56 #[.val (.int p1), .val (.int (22 : Int32))] [])
                                                  refine own_go (fun t k => XS.iconst X258.here hx rfl (hb hby d1_56) k) ?_
                                                  show own_R p e below _ T258 (mkF m 57 #[.val (.int p1), .val (.int (22 : Int32))] [(.int (0 : Int32))])
                                                  refine own_retN X258 hx Bd.returns (by simp) (BodyLoose.notSynchronized Bd) (hb hby d1_57) (by decide) (by decide) ?_
                                                  have z261 : 128 ≤ p1.toInt := own_nlti hc4_1 rfl rfl
                                                  have z262 : 65 ≤ p1.toInt := own_nlti hc53_40 rfl rfl
                                                  have z263 : 90 < p1.toInt := own_lti hc66_45 rfl rfl
                                                  have z264 : 97 ≤ p1.toInt := own_nlti hc53_50 rfl rfl
                                                  have z265 : 122 < p1.toInt := own_lti hc66_57 rfl rfl
                                                  have z266 : 192 ≤ p1.toInt := own_nlti hc53_62 rfl rfl
                                                  have z267 : 214 < p1.toInt := own_lti hc66_71 rfl rfl
                                                  have z268 : 216 ≤ p1.toInt := own_nlti hc53_76 rfl rfl
                                                  have z269 : 246 < p1.toInt := own_lti hc66_87 rfl rfl
                                                  have z270 : 248 ≤ p1.toInt := own_nlti hc53_92 rfl rfl
                                                  have z271 : 767 < p1.toInt := own_lti hc66_105 rfl rfl
                                                  have z272 : 880 ≤ p1.toInt := own_nlti hc53_110 rfl rfl
                                                  have z273 : 893 < p1.toInt := own_lti hc66_125 rfl rfl
                                                  have z274 : 895 ≤ p1.toInt := own_nlti hc53_130 rfl rfl
                                                  have z275 : 8191 < p1.toInt := own_lti hc66_147 rfl rfl
                                                  have z276 : 8204 ≤ p1.toInt := own_nlti hc53_152 rfl rfl
                                                  have z277 : 8205 < p1.toInt := own_lti hc66_171 rfl rfl
                                                  have z278 : 8304 ≤ p1.toInt := own_nlti hc53_176 rfl rfl
                                                  have z279 : 8591 < p1.toInt := own_lti hc66_197 rfl rfl
                                                  have z280 : 11264 ≤ p1.toInt := own_nlti hc53_202 rfl rfl
                                                  have z281 : 12271 < p1.toInt := own_lti hc66_225 rfl rfl
                                                  have z282 : 12289 ≤ p1.toInt := own_nlti hc53_230 rfl rfl
                                                  have z283 : 55295 < p1.toInt := own_lti hc66_255 rfl rfl
                                                  have z284 : p1.toInt < 63744 := own_lti hc53_260 rfl rfl
                                                  exact ⟨by rw [if_neg (by unfold own_l; omega)]; rfl, N0, e258⟩
                                                · -- pc 53: no
                                                  refine own_go (fun t k => XS.icmpYes X258.here hx rfl (pc0 := 53) (pc' := 58) rfl (hb hby d1_53) rfl (flt hc53_260).2.1 (by decide) (by decide) k) ?_
                                                  show own_R p e below _ T258 (mkF m 58 #[.val (.int p1), .val (.int (22 : Int32))] [])
                                                  refine own_go (fun t k => XS.iloadN X258.here hx rfl (hb hby d1_58) rfl  k) ?_
                                                  show own_R p e below _ T258 (mkF m 59 #[.val (.int p1), .val (.int (22 : Int32))] [(.int p1)])
                                                  obtain ⟨T285, X285, e285, st285⟩ := getS2 X258 hx hZ hown (host := "") (Or.inl (hw _ (List.mem_of_getElem? (i := 18) rfl))) Via.refl e258 S_LETTERS (g := (mkF m 59 #[.val (.int p1), .val (.int (22 : Int32))] [(.int p1)])) rfl (hb hby d1_59)
                                                  refine own_go (st285) ?_
                                                  show own_R p e below _ T285 (mkF m 62 #[.val (.int p1), .val (.int (22 : Int32))] [(.ref w), (.int p1)])
                                                  refine own_go (fun t k => XS.iloadN X285.here hx rfl (hb hby d1_62) rfl  k) ?_
                                                  show own_R p e below _ T285 (mkF m 63 #[.val (.int p1), .val (.int (22 : Int32))] [(.int (22 : Int32)), (.ref w), (.int p1)])
                                                  refine own_go (fun t k => XS.iconst X285.here hx rfl (hb hby d1_63) k) ?_
                                                  show own_R p e below _ T285 (mkF m 64 #[.val (.int p1), .val (.int (22 : Int32))] [(.int (1 : Int32)), (.int (22 : Int32)), (.ref w), (.int p1)])
                                                  refine own_go (fun t k => XS.iadd X285.here hx rfl (hb hby d1_64) rfl k) ?_
                                                  show own_R p e below _ T285 (mkF m 65 #[.val (.int p1), .val (.int (22 : Int32))] [(.int (23 : Int32)), (.ref w), (.int p1)])
                                                  obtain ⟨cl286, Ar286, q286, S286, Nn286, Hh286, G286⟩ := id V_w
                                                  have hin286 : ¬ ((23 : Int32) < 0 ∨ cl286.slots.size ≤ ((23 : Int32)).toNatClampNeg) := inb_of S286 ⟨by decide, by decide⟩
                                                  have hat286 : cl286.slots[((23 : Int32)).toNatClampNeg]? = some (.int (64975 : Int32)) := Has.at Hh286 hin286 rfl
                                                  refine own_go (X285.iaload hx (j := (23 : Int32)) (v := (.int (64975 : Int32))) (by rw [e285]; exact Ar286.1) (State.isArrayOf_alike hZ.alike Ar286.2.1) Ar286.2.2 hin286 hat286 (g := (mkF m 65 #[.val (.int p1), .val (.int (22 : Int32))] [(.int (23 : Int32)), (.ref w), (.int p1)])) rfl rfl (hb hby d1_65)) ?_
                                                  show own_R p e below _ T285 (mkF m 66 #[.val (.int p1), .val (.int (22 : Int32))] [(.int (64975 : Int32)), (.int p1)])
                                                  by_cases hc66_287 : (64975 : Int32) < p1
                                                  · -- pc 66: yes
                                                    refine own_go (fun t k => XS.icmpYes X285.here hx rfl (pc0 := 66) (pc' := 71) rfl (hb hby d1_66) rfl (tlt hc66_287).2.2.1 (by decide) (by decide) k) ?_
                                                    show own_R p e below _ T285 (mkF m 71 #[.val (.int p1), .val (.int (22 : Int32))] [])
                                                    refine own_go (fun t k => XS.iinc X285.here hx rfl (hb hby d1_71) rfl (l' := #[.val (.int p1), .val (.int (24 : Int32))]) rfl k) ?_
                                                    show own_R p e below _ T285 (mkF m 74 #[.val (.int p1), .val (.int (24 : Int32))] [])
                                                    refine own_go (fun t k => XS.goto X285.here hx rfl (pc0 := 74) (pc' := 39) rfl (hb hby d1_74) (by decide) (by decide) k) ?_
                                                    show own_R p e below _ T285 (mkF m 39 #[.val (.int p1), .val (.int (24 : Int32))] [])
                                                    refine own_go (fun t k => XS.iloadN X285.here hx rfl (hb hby d1_39) rfl  k) ?_
                                                    show own_R p e below _ T285 (mkF m 40 #[.val (.int p1), .val (.int (24 : Int32))] [(.int (24 : Int32))])
                                                    obtain ⟨T288, X288, e288, st288⟩ := getS2 X285 hx hZ hown (host := "") (Or.inl (hw _ (List.mem_of_getElem? (i := 18) rfl))) Via.refl e285 S_LETTERS (g := (mkF m 40 #[.val (.int p1), .val (.int (24 : Int32))] [(.int (24 : Int32))])) rfl (hb hby d1_40)
                                                    refine own_go (st288) ?_
                                                    show own_R p e below _ T288 (mkF m 43 #[.val (.int p1), .val (.int (24 : Int32))] [(.ref w), (.int (24 : Int32))])
                                                    obtain ⟨cl289, Ar289, q289, S289, Nn289, Hh289, G289⟩ := id V_w
                                                    refine own_go (X288.arraylength hx (by rw [e288]; exact Ar289.1) (State.isArrayOf_alike hZ.alike Ar289.2.1) (g := (mkF m 43 #[.val (.int p1), .val (.int (24 : Int32))] [(.ref w), (.int (24 : Int32))])) rfl rfl (hb hby d1_43)) ?_
                                                    rw [len_of S289 Nn289]
                                                    show own_R p e below _ T288 (mkF m 44 #[.val (.int p1), .val (.int (24 : Int32))] [(.int (28 : Int32)), (.int (24 : Int32))])
                                                    refine own_go (fun t k => XS.icmpNo X288.here hx rfl (hb hby d1_44) rfl (tlt (by decide : (24 : Int32) < (28 : Int32))).2.1 k) ?_
                                                    show own_R p e below _ T288 (mkF m 47 #[.val (.int p1), .val (.int (24 : Int32))] [])
                                                    refine own_go (fun t k => XS.iloadN X288.here hx rfl (hb hby d1_47) rfl  k) ?_
                                                    show own_R p e below _ T288 (mkF m 48 #[.val (.int p1), .val (.int (24 : Int32))] [(.int p1)])
                                                    obtain ⟨T290, X290, e290, st290⟩ := getS2 X288 hx hZ hown (host := "") (Or.inl (hw _ (List.mem_of_getElem? (i := 18) rfl))) Via.refl e288 S_LETTERS (g := (mkF m 48 #[.val (.int p1), .val (.int (24 : Int32))] [(.int p1)])) rfl (hb hby d1_48)
                                                    refine own_go (st290) ?_
                                                    show own_R p e below _ T290 (mkF m 51 #[.val (.int p1), .val (.int (24 : Int32))] [(.ref w), (.int p1)])
                                                    refine own_go (fun t k => XS.iloadN X290.here hx rfl (hb hby d1_51) rfl  k) ?_
                                                    show own_R p e below _ T290 (mkF m 52 #[.val (.int p1), .val (.int (24 : Int32))] [(.int (24 : Int32)), (.ref w), (.int p1)])
                                                    obtain ⟨cl291, Ar291, q291, S291, Nn291, Hh291, G291⟩ := id V_w
                                                    have hin291 : ¬ ((24 : Int32) < 0 ∨ cl291.slots.size ≤ ((24 : Int32)).toNatClampNeg) := inb_of S291 ⟨by decide, by decide⟩
                                                    have hat291 : cl291.slots[((24 : Int32)).toNatClampNeg]? = some (.int (65008 : Int32)) := Has.at Hh291 hin291 rfl
                                                    refine own_go (X290.iaload hx (j := (24 : Int32)) (v := (.int (65008 : Int32))) (by rw [e290]; exact Ar291.1) (State.isArrayOf_alike hZ.alike Ar291.2.1) Ar291.2.2 hin291 hat291 (g := (mkF m 52 #[.val (.int p1), .val (.int (24 : Int32))] [(.int (24 : Int32)), (.ref w), (.int p1)])) rfl rfl (hb hby d1_52)) ?_
                                                    show own_R p e below _ T290 (mkF m 53 #[.val (.int p1), .val (.int (24 : Int32))] [(.int (65008 : Int32)), (.int p1)])
                                                    by_cases hc53_292 : p1 < (65008 : Int32)
                                                    · -- pc 53: yes
                                                      refine own_go (fun t k => XS.icmpNo X290.here hx rfl (hb hby d1_53) rfl (tlt hc53_292).2.1 k) ?_
                                                      show own_R p e below _ T290 (mkF m 56 #[.val (.int p1), .val (.int (24 : Int32))] [])
                                                      refine own_go (fun t k => XS.iconst X290.here hx rfl (hb hby d1_56) k) ?_
                                                      show own_R p e below _ T290 (mkF m 57 #[.val (.int p1), .val (.int (24 : Int32))] [(.int (0 : Int32))])
                                                      refine own_retN X290 hx Bd.returns (by simp) (BodyLoose.notSynchronized Bd) (hb hby d1_57) (by decide) (by decide) ?_
                                                      have z293 : 128 ≤ p1.toInt := own_nlti hc4_1 rfl rfl
                                                      have z294 : 65 ≤ p1.toInt := own_nlti hc53_40 rfl rfl
                                                      have z295 : 90 < p1.toInt := own_lti hc66_45 rfl rfl
                                                      have z296 : 97 ≤ p1.toInt := own_nlti hc53_50 rfl rfl
                                                      have z297 : 122 < p1.toInt := own_lti hc66_57 rfl rfl
                                                      have z298 : 192 ≤ p1.toInt := own_nlti hc53_62 rfl rfl
                                                      have z299 : 214 < p1.toInt := own_lti hc66_71 rfl rfl
                                                      have z300 : 216 ≤ p1.toInt := own_nlti hc53_76 rfl rfl
                                                      have z301 : 246 < p1.toInt := own_lti hc66_87 rfl rfl
                                                      have z302 : 248 ≤ p1.toInt := own_nlti hc53_92 rfl rfl
                                                      have z303 : 767 < p1.toInt := own_lti hc66_105 rfl rfl
                                                      have z304 : 880 ≤ p1.toInt := own_nlti hc53_110 rfl rfl
                                                      have z305 : 893 < p1.toInt := own_lti hc66_125 rfl rfl
                                                      have z306 : 895 ≤ p1.toInt := own_nlti hc53_130 rfl rfl
                                                      have z307 : 8191 < p1.toInt := own_lti hc66_147 rfl rfl
                                                      have z308 : 8204 ≤ p1.toInt := own_nlti hc53_152 rfl rfl
                                                      have z309 : 8205 < p1.toInt := own_lti hc66_171 rfl rfl
                                                      have z310 : 8304 ≤ p1.toInt := own_nlti hc53_176 rfl rfl
                                                      have z311 : 8591 < p1.toInt := own_lti hc66_197 rfl rfl
                                                      have z312 : 11264 ≤ p1.toInt := own_nlti hc53_202 rfl rfl
                                                      have z313 : 12271 < p1.toInt := own_lti hc66_225 rfl rfl
                                                      have z314 : 12289 ≤ p1.toInt := own_nlti hc53_230 rfl rfl
                                                      have z315 : 55295 < p1.toInt := own_lti hc66_255 rfl rfl
                                                      have z316 : 63744 ≤ p1.toInt := own_nlti hc53_260 rfl rfl
                                                      have z317 : 64975 < p1.toInt := own_lti hc66_287 rfl rfl
                                                      have z318 : p1.toInt < 65008 := own_lti hc53_292 rfl rfl
                                                      exact ⟨by rw [if_neg (by unfold own_l; omega)]; rfl, N0, e290⟩
                                                    · -- pc 53: no
                                                      refine own_go (fun t k => XS.icmpYes X290.here hx rfl (pc0 := 53) (pc' := 58) rfl (hb hby d1_53) rfl (flt hc53_292).2.1 (by decide) (by decide) k) ?_
                                                      show own_R p e below _ T290 (mkF m 58 #[.val (.int p1), .val (.int (24 : Int32))] [])
                                                      refine own_go (fun t k => XS.iloadN X290.here hx rfl (hb hby d1_58) rfl  k) ?_
                                                      show own_R p e below _ T290 (mkF m 59 #[.val (.int p1), .val (.int (24 : Int32))] [(.int p1)])
                                                      obtain ⟨T319, X319, e319, st319⟩ := getS2 X290 hx hZ hown (host := "") (Or.inl (hw _ (List.mem_of_getElem? (i := 18) rfl))) Via.refl e290 S_LETTERS (g := (mkF m 59 #[.val (.int p1), .val (.int (24 : Int32))] [(.int p1)])) rfl (hb hby d1_59)
                                                      refine own_go (st319) ?_
                                                      show own_R p e below _ T319 (mkF m 62 #[.val (.int p1), .val (.int (24 : Int32))] [(.ref w), (.int p1)])
                                                      refine own_go (fun t k => XS.iloadN X319.here hx rfl (hb hby d1_62) rfl  k) ?_
                                                      show own_R p e below _ T319 (mkF m 63 #[.val (.int p1), .val (.int (24 : Int32))] [(.int (24 : Int32)), (.ref w), (.int p1)])
                                                      refine own_go (fun t k => XS.iconst X319.here hx rfl (hb hby d1_63) k) ?_
                                                      show own_R p e below _ T319 (mkF m 64 #[.val (.int p1), .val (.int (24 : Int32))] [(.int (1 : Int32)), (.int (24 : Int32)), (.ref w), (.int p1)])
                                                      refine own_go (fun t k => XS.iadd X319.here hx rfl (hb hby d1_64) rfl k) ?_
                                                      show own_R p e below _ T319 (mkF m 65 #[.val (.int p1), .val (.int (24 : Int32))] [(.int (25 : Int32)), (.ref w), (.int p1)])
                                                      obtain ⟨cl320, Ar320, q320, S320, Nn320, Hh320, G320⟩ := id V_w
                                                      have hin320 : ¬ ((25 : Int32) < 0 ∨ cl320.slots.size ≤ ((25 : Int32)).toNatClampNeg) := inb_of S320 ⟨by decide, by decide⟩
                                                      have hat320 : cl320.slots[((25 : Int32)).toNatClampNeg]? = some (.int (65533 : Int32)) := Has.at Hh320 hin320 rfl
                                                      refine own_go (X319.iaload hx (j := (25 : Int32)) (v := (.int (65533 : Int32))) (by rw [e319]; exact Ar320.1) (State.isArrayOf_alike hZ.alike Ar320.2.1) Ar320.2.2 hin320 hat320 (g := (mkF m 65 #[.val (.int p1), .val (.int (24 : Int32))] [(.int (25 : Int32)), (.ref w), (.int p1)])) rfl rfl (hb hby d1_65)) ?_
                                                      show own_R p e below _ T319 (mkF m 66 #[.val (.int p1), .val (.int (24 : Int32))] [(.int (65533 : Int32)), (.int p1)])
                                                      by_cases hc66_321 : (65533 : Int32) < p1
                                                      · -- pc 66: yes
                                                        refine own_go (fun t k => XS.icmpYes X319.here hx rfl (pc0 := 66) (pc' := 71) rfl (hb hby d1_66) rfl (tlt hc66_321).2.2.1 (by decide) (by decide) k) ?_
                                                        show own_R p e below _ T319 (mkF m 71 #[.val (.int p1), .val (.int (24 : Int32))] [])
                                                        refine own_go (fun t k => XS.iinc X319.here hx rfl (hb hby d1_71) rfl (l' := #[.val (.int p1), .val (.int (26 : Int32))]) rfl k) ?_
                                                        show own_R p e below _ T319 (mkF m 74 #[.val (.int p1), .val (.int (26 : Int32))] [])
                                                        refine own_go (fun t k => XS.goto X319.here hx rfl (pc0 := 74) (pc' := 39) rfl (hb hby d1_74) (by decide) (by decide) k) ?_
                                                        show own_R p e below _ T319 (mkF m 39 #[.val (.int p1), .val (.int (26 : Int32))] [])
                                                        refine own_go (fun t k => XS.iloadN X319.here hx rfl (hb hby d1_39) rfl  k) ?_
                                                        show own_R p e below _ T319 (mkF m 40 #[.val (.int p1), .val (.int (26 : Int32))] [(.int (26 : Int32))])
                                                        obtain ⟨T322, X322, e322, st322⟩ := getS2 X319 hx hZ hown (host := "") (Or.inl (hw _ (List.mem_of_getElem? (i := 18) rfl))) Via.refl e319 S_LETTERS (g := (mkF m 40 #[.val (.int p1), .val (.int (26 : Int32))] [(.int (26 : Int32))])) rfl (hb hby d1_40)
                                                        refine own_go (st322) ?_
                                                        show own_R p e below _ T322 (mkF m 43 #[.val (.int p1), .val (.int (26 : Int32))] [(.ref w), (.int (26 : Int32))])
                                                        obtain ⟨cl323, Ar323, q323, S323, Nn323, Hh323, G323⟩ := id V_w
                                                        refine own_go (X322.arraylength hx (by rw [e322]; exact Ar323.1) (State.isArrayOf_alike hZ.alike Ar323.2.1) (g := (mkF m 43 #[.val (.int p1), .val (.int (26 : Int32))] [(.ref w), (.int (26 : Int32))])) rfl rfl (hb hby d1_43)) ?_
                                                        rw [len_of S323 Nn323]
                                                        show own_R p e below _ T322 (mkF m 44 #[.val (.int p1), .val (.int (26 : Int32))] [(.int (28 : Int32)), (.int (26 : Int32))])
                                                        refine own_go (fun t k => XS.icmpNo X322.here hx rfl (hb hby d1_44) rfl (tlt (by decide : (26 : Int32) < (28 : Int32))).2.1 k) ?_
                                                        show own_R p e below _ T322 (mkF m 47 #[.val (.int p1), .val (.int (26 : Int32))] [])
                                                        refine own_go (fun t k => XS.iloadN X322.here hx rfl (hb hby d1_47) rfl  k) ?_
                                                        show own_R p e below _ T322 (mkF m 48 #[.val (.int p1), .val (.int (26 : Int32))] [(.int p1)])
                                                        obtain ⟨T324, X324, e324, st324⟩ := getS2 X322 hx hZ hown (host := "") (Or.inl (hw _ (List.mem_of_getElem? (i := 18) rfl))) Via.refl e322 S_LETTERS (g := (mkF m 48 #[.val (.int p1), .val (.int (26 : Int32))] [(.int p1)])) rfl (hb hby d1_48)
                                                        refine own_go (st324) ?_
                                                        show own_R p e below _ T324 (mkF m 51 #[.val (.int p1), .val (.int (26 : Int32))] [(.ref w), (.int p1)])
                                                        refine own_go (fun t k => XS.iloadN X324.here hx rfl (hb hby d1_51) rfl  k) ?_
                                                        show own_R p e below _ T324 (mkF m 52 #[.val (.int p1), .val (.int (26 : Int32))] [(.int (26 : Int32)), (.ref w), (.int p1)])
                                                        obtain ⟨cl325, Ar325, q325, S325, Nn325, Hh325, G325⟩ := id V_w
                                                        have hin325 : ¬ ((26 : Int32) < 0 ∨ cl325.slots.size ≤ ((26 : Int32)).toNatClampNeg) := inb_of S325 ⟨by decide, by decide⟩
                                                        have hat325 : cl325.slots[((26 : Int32)).toNatClampNeg]? = some (.int (65536 : Int32)) := Has.at Hh325 hin325 rfl
                                                        refine own_go (X324.iaload hx (j := (26 : Int32)) (v := (.int (65536 : Int32))) (by rw [e324]; exact Ar325.1) (State.isArrayOf_alike hZ.alike Ar325.2.1) Ar325.2.2 hin325 hat325 (g := (mkF m 52 #[.val (.int p1), .val (.int (26 : Int32))] [(.int (26 : Int32)), (.ref w), (.int p1)])) rfl rfl (hb hby d1_52)) ?_
                                                        show own_R p e below _ T324 (mkF m 53 #[.val (.int p1), .val (.int (26 : Int32))] [(.int (65536 : Int32)), (.int p1)])
                                                        by_cases hc53_326 : p1 < (65536 : Int32)
                                                        · -- pc 53: yes
                                                          refine own_go (fun t k => XS.icmpNo X324.here hx rfl (hb hby d1_53) rfl (tlt hc53_326).2.1 k) ?_
                                                          show own_R p e below _ T324 (mkF m 56 #[.val (.int p1), .val (.int (26 : Int32))] [])
                                                          refine own_go (fun t k => XS.iconst X324.here hx rfl (hb hby d1_56) k) ?_
                                                          show own_R p e below _ T324 (mkF m 57 #[.val (.int p1), .val (.int (26 : Int32))] [(.int (0 : Int32))])
                                                          refine own_retN X324 hx Bd.returns (by simp) (BodyLoose.notSynchronized Bd) (hb hby d1_57) (by decide) (by decide) ?_
                                                          have z327 : 128 ≤ p1.toInt := own_nlti hc4_1 rfl rfl
                                                          have z328 : 65 ≤ p1.toInt := own_nlti hc53_40 rfl rfl
                                                          have z329 : 90 < p1.toInt := own_lti hc66_45 rfl rfl
                                                          have z330 : 97 ≤ p1.toInt := own_nlti hc53_50 rfl rfl
                                                          have z331 : 122 < p1.toInt := own_lti hc66_57 rfl rfl
                                                          have z332 : 192 ≤ p1.toInt := own_nlti hc53_62 rfl rfl
                                                          have z333 : 214 < p1.toInt := own_lti hc66_71 rfl rfl
                                                          have z334 : 216 ≤ p1.toInt := own_nlti hc53_76 rfl rfl
                                                          have z335 : 246 < p1.toInt := own_lti hc66_87 rfl rfl
                                                          have z336 : 248 ≤ p1.toInt := own_nlti hc53_92 rfl rfl
                                                          have z337 : 767 < p1.toInt := own_lti hc66_105 rfl rfl
                                                          have z338 : 880 ≤ p1.toInt := own_nlti hc53_110 rfl rfl
                                                          have z339 : 893 < p1.toInt := own_lti hc66_125 rfl rfl
                                                          have z340 : 895 ≤ p1.toInt := own_nlti hc53_130 rfl rfl
                                                          have z341 : 8191 < p1.toInt := own_lti hc66_147 rfl rfl
                                                          have z342 : 8204 ≤ p1.toInt := own_nlti hc53_152 rfl rfl
                                                          have z343 : 8205 < p1.toInt := own_lti hc66_171 rfl rfl
                                                          have z344 : 8304 ≤ p1.toInt := own_nlti hc53_176 rfl rfl
                                                          have z345 : 8591 < p1.toInt := own_lti hc66_197 rfl rfl
                                                          have z346 : 11264 ≤ p1.toInt := own_nlti hc53_202 rfl rfl
                                                          have z347 : 12271 < p1.toInt := own_lti hc66_225 rfl rfl
                                                          have z348 : 12289 ≤ p1.toInt := own_nlti hc53_230 rfl rfl
                                                          have z349 : 55295 < p1.toInt := own_lti hc66_255 rfl rfl
                                                          have z350 : 63744 ≤ p1.toInt := own_nlti hc53_260 rfl rfl
                                                          have z351 : 64975 < p1.toInt := own_lti hc66_287 rfl rfl
                                                          have z352 : 65008 ≤ p1.toInt := own_nlti hc53_292 rfl rfl
                                                          have z353 : 65533 < p1.toInt := own_lti hc66_321 rfl rfl
                                                          have z354 : p1.toInt < 65536 := own_lti hc53_326 rfl rfl
                                                          exact ⟨by rw [if_neg (by unfold own_l; omega)]; rfl, N0, e324⟩
                                                        · -- pc 53: no
                                                          refine own_go (fun t k => XS.icmpYes X324.here hx rfl (pc0 := 53) (pc' := 58) rfl (hb hby d1_53) rfl (flt hc53_326).2.1 (by decide) (by decide) k) ?_
                                                          show own_R p e below _ T324 (mkF m 58 #[.val (.int p1), .val (.int (26 : Int32))] [])
                                                          refine own_go (fun t k => XS.iloadN X324.here hx rfl (hb hby d1_58) rfl  k) ?_
                                                          show own_R p e below _ T324 (mkF m 59 #[.val (.int p1), .val (.int (26 : Int32))] [(.int p1)])
                                                          obtain ⟨T355, X355, e355, st355⟩ := getS2 X324 hx hZ hown (host := "") (Or.inl (hw _ (List.mem_of_getElem? (i := 18) rfl))) Via.refl e324 S_LETTERS (g := (mkF m 59 #[.val (.int p1), .val (.int (26 : Int32))] [(.int p1)])) rfl (hb hby d1_59)
                                                          refine own_go (st355) ?_
                                                          show own_R p e below _ T355 (mkF m 62 #[.val (.int p1), .val (.int (26 : Int32))] [(.ref w), (.int p1)])
                                                          refine own_go (fun t k => XS.iloadN X355.here hx rfl (hb hby d1_62) rfl  k) ?_
                                                          show own_R p e below _ T355 (mkF m 63 #[.val (.int p1), .val (.int (26 : Int32))] [(.int (26 : Int32)), (.ref w), (.int p1)])
                                                          refine own_go (fun t k => XS.iconst X355.here hx rfl (hb hby d1_63) k) ?_
                                                          show own_R p e below _ T355 (mkF m 64 #[.val (.int p1), .val (.int (26 : Int32))] [(.int (1 : Int32)), (.int (26 : Int32)), (.ref w), (.int p1)])
                                                          refine own_go (fun t k => XS.iadd X355.here hx rfl (hb hby d1_64) rfl k) ?_
                                                          show own_R p e below _ T355 (mkF m 65 #[.val (.int p1), .val (.int (26 : Int32))] [(.int (27 : Int32)), (.ref w), (.int p1)])
                                                          obtain ⟨cl356, Ar356, q356, S356, Nn356, Hh356, G356⟩ := id V_w
                                                          have hin356 : ¬ ((27 : Int32) < 0 ∨ cl356.slots.size ≤ ((27 : Int32)).toNatClampNeg) := inb_of S356 ⟨by decide, by decide⟩
                                                          have hat356 : cl356.slots[((27 : Int32)).toNatClampNeg]? = some (.int (983039 : Int32)) := Has.at Hh356 hin356 rfl
                                                          refine own_go (X355.iaload hx (j := (27 : Int32)) (v := (.int (983039 : Int32))) (by rw [e355]; exact Ar356.1) (State.isArrayOf_alike hZ.alike Ar356.2.1) Ar356.2.2 hin356 hat356 (g := (mkF m 65 #[.val (.int p1), .val (.int (26 : Int32))] [(.int (27 : Int32)), (.ref w), (.int p1)])) rfl rfl (hb hby d1_65)) ?_
                                                          show own_R p e below _ T355 (mkF m 66 #[.val (.int p1), .val (.int (26 : Int32))] [(.int (983039 : Int32)), (.int p1)])
                                                          by_cases hc66_357 : (983039 : Int32) < p1
                                                          · -- pc 66: yes
                                                            refine own_go (fun t k => XS.icmpYes X355.here hx rfl (pc0 := 66) (pc' := 71) rfl (hb hby d1_66) rfl (tlt hc66_357).2.2.1 (by decide) (by decide) k) ?_
                                                            show own_R p e below _ T355 (mkF m 71 #[.val (.int p1), .val (.int (26 : Int32))] [])
                                                            refine own_go (fun t k => XS.iinc X355.here hx rfl (hb hby d1_71) rfl (l' := #[.val (.int p1), .val (.int (28 : Int32))]) rfl k) ?_
                                                            show own_R p e below _ T355 (mkF m 74 #[.val (.int p1), .val (.int (28 : Int32))] [])
                                                            refine own_go (fun t k => XS.goto X355.here hx rfl (pc0 := 74) (pc' := 39) rfl (hb hby d1_74) (by decide) (by decide) k) ?_
                                                            show own_R p e below _ T355 (mkF m 39 #[.val (.int p1), .val (.int (28 : Int32))] [])
                                                            refine own_go (fun t k => XS.iloadN X355.here hx rfl (hb hby d1_39) rfl  k) ?_
                                                            show own_R p e below _ T355 (mkF m 40 #[.val (.int p1), .val (.int (28 : Int32))] [(.int (28 : Int32))])
                                                            obtain ⟨T358, X358, e358, st358⟩ := getS2 X355 hx hZ hown (host := "") (Or.inl (hw _ (List.mem_of_getElem? (i := 18) rfl))) Via.refl e355 S_LETTERS (g := (mkF m 40 #[.val (.int p1), .val (.int (28 : Int32))] [(.int (28 : Int32))])) rfl (hb hby d1_40)
                                                            refine own_go (st358) ?_
                                                            show own_R p e below _ T358 (mkF m 43 #[.val (.int p1), .val (.int (28 : Int32))] [(.ref w), (.int (28 : Int32))])
                                                            obtain ⟨cl359, Ar359, q359, S359, Nn359, Hh359, G359⟩ := id V_w
                                                            refine own_go (X358.arraylength hx (by rw [e358]; exact Ar359.1) (State.isArrayOf_alike hZ.alike Ar359.2.1) (g := (mkF m 43 #[.val (.int p1), .val (.int (28 : Int32))] [(.ref w), (.int (28 : Int32))])) rfl rfl (hb hby d1_43)) ?_
                                                            rw [len_of S359 Nn359]
                                                            show own_R p e below _ T358 (mkF m 44 #[.val (.int p1), .val (.int (28 : Int32))] [(.int (28 : Int32)), (.int (28 : Int32))])
                                                            refine own_go (fun t k => XS.icmpYes X358.here hx rfl (pc0 := 44) (pc' := 77) rfl (hb hby d1_44) rfl (flt (by decide : ¬ ((28 : Int32) < (28 : Int32)))).2.1 (by decide) (by decide) k) ?_
                                                            show own_R p e below _ T358 (mkF m 77 #[.val (.int p1), .val (.int (28 : Int32))] [])
                                                            refine own_go (fun t k => XS.iconst X358.here hx rfl (hb hby d1_77) k) ?_
                                                            show own_R p e below _ T358 (mkF m 78 #[.val (.int p1), .val (.int (28 : Int32))] [(.int (0 : Int32))])
                                                            refine own_retN X358 hx Bd.returns (by simp) (BodyLoose.notSynchronized Bd) (hb hby d1_78) (by decide) (by decide) ?_
                                                            have z360 : 128 ≤ p1.toInt := own_nlti hc4_1 rfl rfl
                                                            have z361 : 65 ≤ p1.toInt := own_nlti hc53_40 rfl rfl
                                                            have z362 : 90 < p1.toInt := own_lti hc66_45 rfl rfl
                                                            have z363 : 97 ≤ p1.toInt := own_nlti hc53_50 rfl rfl
                                                            have z364 : 122 < p1.toInt := own_lti hc66_57 rfl rfl
                                                            have z365 : 192 ≤ p1.toInt := own_nlti hc53_62 rfl rfl
                                                            have z366 : 214 < p1.toInt := own_lti hc66_71 rfl rfl
                                                            have z367 : 216 ≤ p1.toInt := own_nlti hc53_76 rfl rfl
                                                            have z368 : 246 < p1.toInt := own_lti hc66_87 rfl rfl
                                                            have z369 : 248 ≤ p1.toInt := own_nlti hc53_92 rfl rfl
                                                            have z370 : 767 < p1.toInt := own_lti hc66_105 rfl rfl
                                                            have z371 : 880 ≤ p1.toInt := own_nlti hc53_110 rfl rfl
                                                            have z372 : 893 < p1.toInt := own_lti hc66_125 rfl rfl
                                                            have z373 : 895 ≤ p1.toInt := own_nlti hc53_130 rfl rfl
                                                            have z374 : 8191 < p1.toInt := own_lti hc66_147 rfl rfl
                                                            have z375 : 8204 ≤ p1.toInt := own_nlti hc53_152 rfl rfl
                                                            have z376 : 8205 < p1.toInt := own_lti hc66_171 rfl rfl
                                                            have z377 : 8304 ≤ p1.toInt := own_nlti hc53_176 rfl rfl
                                                            have z378 : 8591 < p1.toInt := own_lti hc66_197 rfl rfl
                                                            have z379 : 11264 ≤ p1.toInt := own_nlti hc53_202 rfl rfl
                                                            have z380 : 12271 < p1.toInt := own_lti hc66_225 rfl rfl
                                                            have z381 : 12289 ≤ p1.toInt := own_nlti hc53_230 rfl rfl
                                                            have z382 : 55295 < p1.toInt := own_lti hc66_255 rfl rfl
                                                            have z383 : 63744 ≤ p1.toInt := own_nlti hc53_260 rfl rfl
                                                            have z384 : 64975 < p1.toInt := own_lti hc66_287 rfl rfl
                                                            have z385 : 65008 ≤ p1.toInt := own_nlti hc53_292 rfl rfl
                                                            have z386 : 65533 < p1.toInt := own_lti hc66_321 rfl rfl
                                                            have z387 : 65536 ≤ p1.toInt := own_nlti hc53_326 rfl rfl
                                                            have z388 : 983039 < p1.toInt := own_lti hc66_357 rfl rfl
                                                            exact ⟨by rw [if_neg (by unfold own_l; omega)]; rfl, N0, e358⟩
                                                          · -- pc 66: no
                                                            refine own_go (fun t k => XS.icmpNo X355.here hx rfl (hb hby d1_66) rfl (flt hc66_357).2.2.1 k) ?_
                                                            show own_R p e below _ T355 (mkF m 69 #[.val (.int p1), .val (.int (26 : Int32))] [])
                                                            refine own_go (fun t k => XS.iconst X355.here hx rfl (hb hby d1_69) k) ?_
                                                            show own_R p e below _ T355 (mkF m 70 #[.val (.int p1), .val (.int (26 : Int32))] [(.int (1 : Int32))])
                                                            refine own_retN X355 hx Bd.returns (by simp) (BodyLoose.notSynchronized Bd) (hb hby d1_70) (by decide) (by decide) ?_
                                                            have z389 : 128 ≤ p1.toInt := own_nlti hc4_1 rfl rfl
                                                            have z390 : 65 ≤ p1.toInt := own_nlti hc53_40 rfl rfl
                                                            have z391 : 90 < p1.toInt := own_lti hc66_45 rfl rfl
                                                            have z392 : 97 ≤ p1.toInt := own_nlti hc53_50 rfl rfl
                                                            have z393 : 122 < p1.toInt := own_lti hc66_57 rfl rfl
                                                            have z394 : 192 ≤ p1.toInt := own_nlti hc53_62 rfl rfl
                                                            have z395 : 214 < p1.toInt := own_lti hc66_71 rfl rfl
                                                            have z396 : 216 ≤ p1.toInt := own_nlti hc53_76 rfl rfl
                                                            have z397 : 246 < p1.toInt := own_lti hc66_87 rfl rfl
                                                            have z398 : 248 ≤ p1.toInt := own_nlti hc53_92 rfl rfl
                                                            have z399 : 767 < p1.toInt := own_lti hc66_105 rfl rfl
                                                            have z400 : 880 ≤ p1.toInt := own_nlti hc53_110 rfl rfl
                                                            have z401 : 893 < p1.toInt := own_lti hc66_125 rfl rfl
                                                            have z402 : 895 ≤ p1.toInt := own_nlti hc53_130 rfl rfl
                                                            have z403 : 8191 < p1.toInt := own_lti hc66_147 rfl rfl
                                                            have z404 : 8204 ≤ p1.toInt := own_nlti hc53_152 rfl rfl
                                                            have z405 : 8205 < p1.toInt := own_lti hc66_171 rfl rfl
                                                            have z406 : 8304 ≤ p1.toInt := own_nlti hc53_176 rfl rfl
                                                            have z407 : 8591 < p1.toInt := own_lti hc66_197 rfl rfl
                                                            have z408 : 11264 ≤ p1.toInt := own_nlti hc53_202 rfl rfl
                                                            have z409 : 12271 < p1.toInt := own_lti hc66_225 rfl rfl
                                                            have z410 : 12289 ≤ p1.toInt := own_nlti hc53_230 rfl rfl
                                                            have z411 : 55295 < p1.toInt := own_lti hc66_255 rfl rfl
                                                            have z412 : 63744 ≤ p1.toInt := own_nlti hc53_260 rfl rfl
                                                            have z413 : 64975 < p1.toInt := own_lti hc66_287 rfl rfl
                                                            have z414 : 65008 ≤ p1.toInt := own_nlti hc53_292 rfl rfl
                                                            have z415 : 65533 < p1.toInt := own_lti hc66_321 rfl rfl
                                                            have z416 : 65536 ≤ p1.toInt := own_nlti hc53_326 rfl rfl
                                                            have z417 : p1.toInt ≤ 983039 := own_nlti hc66_357 rfl rfl
                                                            exact ⟨by rw [if_pos (by unfold own_l; omega)]; rfl, N0, e355⟩
                                                      · -- pc 66: no
                                                        refine own_go (fun t k => XS.icmpNo X319.here hx rfl (hb hby d1_66) rfl (flt hc66_321).2.2.1 k) ?_
                                                        show own_R p e below _ T319 (mkF m 69 #[.val (.int p1), .val (.int (24 : Int32))] [])
                                                        refine own_go (fun t k => XS.iconst X319.here hx rfl (hb hby d1_69) k) ?_
                                                        show own_R p e below _ T319 (mkF m 70 #[.val (.int p1), .val (.int (24 : Int32))] [(.int (1 : Int32))])
                                                        refine own_retN X319 hx Bd.returns (by simp) (BodyLoose.notSynchronized Bd) (hb hby d1_70) (by decide) (by decide) ?_
                                                        have z418 : 128 ≤ p1.toInt := own_nlti hc4_1 rfl rfl
                                                        have z419 : 65 ≤ p1.toInt := own_nlti hc53_40 rfl rfl
                                                        have z420 : 90 < p1.toInt := own_lti hc66_45 rfl rfl
                                                        have z421 : 97 ≤ p1.toInt := own_nlti hc53_50 rfl rfl
                                                        have z422 : 122 < p1.toInt := own_lti hc66_57 rfl rfl
                                                        have z423 : 192 ≤ p1.toInt := own_nlti hc53_62 rfl rfl
                                                        have z424 : 214 < p1.toInt := own_lti hc66_71 rfl rfl
                                                        have z425 : 216 ≤ p1.toInt := own_nlti hc53_76 rfl rfl
                                                        have z426 : 246 < p1.toInt := own_lti hc66_87 rfl rfl
                                                        have z427 : 248 ≤ p1.toInt := own_nlti hc53_92 rfl rfl
                                                        have z428 : 767 < p1.toInt := own_lti hc66_105 rfl rfl
                                                        have z429 : 880 ≤ p1.toInt := own_nlti hc53_110 rfl rfl
                                                        have z430 : 893 < p1.toInt := own_lti hc66_125 rfl rfl
                                                        have z431 : 895 ≤ p1.toInt := own_nlti hc53_130 rfl rfl
                                                        have z432 : 8191 < p1.toInt := own_lti hc66_147 rfl rfl
                                                        have z433 : 8204 ≤ p1.toInt := own_nlti hc53_152 rfl rfl
                                                        have z434 : 8205 < p1.toInt := own_lti hc66_171 rfl rfl
                                                        have z435 : 8304 ≤ p1.toInt := own_nlti hc53_176 rfl rfl
                                                        have z436 : 8591 < p1.toInt := own_lti hc66_197 rfl rfl
                                                        have z437 : 11264 ≤ p1.toInt := own_nlti hc53_202 rfl rfl
                                                        have z438 : 12271 < p1.toInt := own_lti hc66_225 rfl rfl
                                                        have z439 : 12289 ≤ p1.toInt := own_nlti hc53_230 rfl rfl
                                                        have z440 : 55295 < p1.toInt := own_lti hc66_255 rfl rfl
                                                        have z441 : 63744 ≤ p1.toInt := own_nlti hc53_260 rfl rfl
                                                        have z442 : 64975 < p1.toInt := own_lti hc66_287 rfl rfl
                                                        have z443 : 65008 ≤ p1.toInt := own_nlti hc53_292 rfl rfl
                                                        have z444 : p1.toInt ≤ 65533 := own_nlti hc66_321 rfl rfl
                                                        exact ⟨by rw [if_pos (by unfold own_l; omega)]; rfl, N0, e319⟩
                                                  · -- pc 66: no
                                                    refine own_go (fun t k => XS.icmpNo X285.here hx rfl (hb hby d1_66) rfl (flt hc66_287).2.2.1 k) ?_
                                                    show own_R p e below _ T285 (mkF m 69 #[.val (.int p1), .val (.int (22 : Int32))] [])
                                                    refine own_go (fun t k => XS.iconst X285.here hx rfl (hb hby d1_69) k) ?_
                                                    show own_R p e below _ T285 (mkF m 70 #[.val (.int p1), .val (.int (22 : Int32))] [(.int (1 : Int32))])
                                                    refine own_retN X285 hx Bd.returns (by simp) (BodyLoose.notSynchronized Bd) (hb hby d1_70) (by decide) (by decide) ?_
                                                    have z445 : 128 ≤ p1.toInt := own_nlti hc4_1 rfl rfl
                                                    have z446 : 65 ≤ p1.toInt := own_nlti hc53_40 rfl rfl
                                                    have z447 : 90 < p1.toInt := own_lti hc66_45 rfl rfl
                                                    have z448 : 97 ≤ p1.toInt := own_nlti hc53_50 rfl rfl
                                                    have z449 : 122 < p1.toInt := own_lti hc66_57 rfl rfl
                                                    have z450 : 192 ≤ p1.toInt := own_nlti hc53_62 rfl rfl
                                                    have z451 : 214 < p1.toInt := own_lti hc66_71 rfl rfl
                                                    have z452 : 216 ≤ p1.toInt := own_nlti hc53_76 rfl rfl
                                                    have z453 : 246 < p1.toInt := own_lti hc66_87 rfl rfl
                                                    have z454 : 248 ≤ p1.toInt := own_nlti hc53_92 rfl rfl
                                                    have z455 : 767 < p1.toInt := own_lti hc66_105 rfl rfl
                                                    have z456 : 880 ≤ p1.toInt := own_nlti hc53_110 rfl rfl
                                                    have z457 : 893 < p1.toInt := own_lti hc66_125 rfl rfl
                                                    have z458 : 895 ≤ p1.toInt := own_nlti hc53_130 rfl rfl
                                                    have z459 : 8191 < p1.toInt := own_lti hc66_147 rfl rfl
                                                    have z460 : 8204 ≤ p1.toInt := own_nlti hc53_152 rfl rfl
                                                    have z461 : 8205 < p1.toInt := own_lti hc66_171 rfl rfl
                                                    have z462 : 8304 ≤ p1.toInt := own_nlti hc53_176 rfl rfl
                                                    have z463 : 8591 < p1.toInt := own_lti hc66_197 rfl rfl
                                                    have z464 : 11264 ≤ p1.toInt := own_nlti hc53_202 rfl rfl
                                                    have z465 : 12271 < p1.toInt := own_lti hc66_225 rfl rfl
                                                    have z466 : 12289 ≤ p1.toInt := own_nlti hc53_230 rfl rfl
                                                    have z467 : 55295 < p1.toInt := own_lti hc66_255 rfl rfl
                                                    have z468 : 63744 ≤ p1.toInt := own_nlti hc53_260 rfl rfl
                                                    have z469 : p1.toInt ≤ 64975 := own_nlti hc66_287 rfl rfl
                                                    exact ⟨by rw [if_pos (by unfold own_l; omega)]; rfl, N0, e285⟩
                                              · -- pc 66: no
                                                refine own_go (fun t k => XS.icmpNo X253.here hx rfl (hb hby d1_66) rfl (flt hc66_255).2.2.1 k) ?_
                                                show own_R p e below _ T253 (mkF m 69 #[.val (.int p1), .val (.int (20 : Int32))] [])
                                                refine own_go (fun t k => XS.iconst X253.here hx rfl (hb hby d1_69) k) ?_
                                                show own_R p e below _ T253 (mkF m 70 #[.val (.int p1), .val (.int (20 : Int32))] [(.int (1 : Int32))])
                                                refine own_retN X253 hx Bd.returns (by simp) (BodyLoose.notSynchronized Bd) (hb hby d1_70) (by decide) (by decide) ?_
                                                have z470 : 128 ≤ p1.toInt := own_nlti hc4_1 rfl rfl
                                                have z471 : 65 ≤ p1.toInt := own_nlti hc53_40 rfl rfl
                                                have z472 : 90 < p1.toInt := own_lti hc66_45 rfl rfl
                                                have z473 : 97 ≤ p1.toInt := own_nlti hc53_50 rfl rfl
                                                have z474 : 122 < p1.toInt := own_lti hc66_57 rfl rfl
                                                have z475 : 192 ≤ p1.toInt := own_nlti hc53_62 rfl rfl
                                                have z476 : 214 < p1.toInt := own_lti hc66_71 rfl rfl
                                                have z477 : 216 ≤ p1.toInt := own_nlti hc53_76 rfl rfl
                                                have z478 : 246 < p1.toInt := own_lti hc66_87 rfl rfl
                                                have z479 : 248 ≤ p1.toInt := own_nlti hc53_92 rfl rfl
                                                have z480 : 767 < p1.toInt := own_lti hc66_105 rfl rfl
                                                have z481 : 880 ≤ p1.toInt := own_nlti hc53_110 rfl rfl
                                                have z482 : 893 < p1.toInt := own_lti hc66_125 rfl rfl
                                                have z483 : 895 ≤ p1.toInt := own_nlti hc53_130 rfl rfl
                                                have z484 : 8191 < p1.toInt := own_lti hc66_147 rfl rfl
                                                have z485 : 8204 ≤ p1.toInt := own_nlti hc53_152 rfl rfl
                                                have z486 : 8205 < p1.toInt := own_lti hc66_171 rfl rfl
                                                have z487 : 8304 ≤ p1.toInt := own_nlti hc53_176 rfl rfl
                                                have z488 : 8591 < p1.toInt := own_lti hc66_197 rfl rfl
                                                have z489 : 11264 ≤ p1.toInt := own_nlti hc53_202 rfl rfl
                                                have z490 : 12271 < p1.toInt := own_lti hc66_225 rfl rfl
                                                have z491 : 12289 ≤ p1.toInt := own_nlti hc53_230 rfl rfl
                                                have z492 : p1.toInt ≤ 55295 := own_nlti hc66_255 rfl rfl
                                                exact ⟨by rw [if_pos (by unfold own_l; omega)]; rfl, N0, e253⟩
                                          · -- pc 66: no
                                            refine own_go (fun t k => XS.icmpNo X223.here hx rfl (hb hby d1_66) rfl (flt hc66_225).2.2.1 k) ?_
                                            show own_R p e below _ T223 (mkF m 69 #[.val (.int p1), .val (.int (18 : Int32))] [])
                                            refine own_go (fun t k => XS.iconst X223.here hx rfl (hb hby d1_69) k) ?_
                                            show own_R p e below _ T223 (mkF m 70 #[.val (.int p1), .val (.int (18 : Int32))] [(.int (1 : Int32))])
                                            refine own_retN X223 hx Bd.returns (by simp) (BodyLoose.notSynchronized Bd) (hb hby d1_70) (by decide) (by decide) ?_
                                            have z493 : 128 ≤ p1.toInt := own_nlti hc4_1 rfl rfl
                                            have z494 : 65 ≤ p1.toInt := own_nlti hc53_40 rfl rfl
                                            have z495 : 90 < p1.toInt := own_lti hc66_45 rfl rfl
                                            have z496 : 97 ≤ p1.toInt := own_nlti hc53_50 rfl rfl
                                            have z497 : 122 < p1.toInt := own_lti hc66_57 rfl rfl
                                            have z498 : 192 ≤ p1.toInt := own_nlti hc53_62 rfl rfl
                                            have z499 : 214 < p1.toInt := own_lti hc66_71 rfl rfl
                                            have z500 : 216 ≤ p1.toInt := own_nlti hc53_76 rfl rfl
                                            have z501 : 246 < p1.toInt := own_lti hc66_87 rfl rfl
                                            have z502 : 248 ≤ p1.toInt := own_nlti hc53_92 rfl rfl
                                            have z503 : 767 < p1.toInt := own_lti hc66_105 rfl rfl
                                            have z504 : 880 ≤ p1.toInt := own_nlti hc53_110 rfl rfl
                                            have z505 : 893 < p1.toInt := own_lti hc66_125 rfl rfl
                                            have z506 : 895 ≤ p1.toInt := own_nlti hc53_130 rfl rfl
                                            have z507 : 8191 < p1.toInt := own_lti hc66_147 rfl rfl
                                            have z508 : 8204 ≤ p1.toInt := own_nlti hc53_152 rfl rfl
                                            have z509 : 8205 < p1.toInt := own_lti hc66_171 rfl rfl
                                            have z510 : 8304 ≤ p1.toInt := own_nlti hc53_176 rfl rfl
                                            have z511 : 8591 < p1.toInt := own_lti hc66_197 rfl rfl
                                            have z512 : 11264 ≤ p1.toInt := own_nlti hc53_202 rfl rfl
                                            have z513 : p1.toInt ≤ 12271 := own_nlti hc66_225 rfl rfl
                                            exact ⟨by rw [if_pos (by unfold own_l; omega)]; rfl, N0, e223⟩
                                      · -- pc 66: no
                                        refine own_go (fun t k => XS.icmpNo X195.here hx rfl (hb hby d1_66) rfl (flt hc66_197).2.2.1 k) ?_
                                        show own_R p e below _ T195 (mkF m 69 #[.val (.int p1), .val (.int (16 : Int32))] [])
                                        refine own_go (fun t k => XS.iconst X195.here hx rfl (hb hby d1_69) k) ?_
                                        show own_R p e below _ T195 (mkF m 70 #[.val (.int p1), .val (.int (16 : Int32))] [(.int (1 : Int32))])
                                        refine own_retN X195 hx Bd.returns (by simp) (BodyLoose.notSynchronized Bd) (hb hby d1_70) (by decide) (by decide) ?_
                                        have z514 : 128 ≤ p1.toInt := own_nlti hc4_1 rfl rfl
                                        have z515 : 65 ≤ p1.toInt := own_nlti hc53_40 rfl rfl
                                        have z516 : 90 < p1.toInt := own_lti hc66_45 rfl rfl
                                        have z517 : 97 ≤ p1.toInt := own_nlti hc53_50 rfl rfl
                                        have z518 : 122 < p1.toInt := own_lti hc66_57 rfl rfl
                                        have z519 : 192 ≤ p1.toInt := own_nlti hc53_62 rfl rfl
                                        have z520 : 214 < p1.toInt := own_lti hc66_71 rfl rfl
                                        have z521 : 216 ≤ p1.toInt := own_nlti hc53_76 rfl rfl
                                        have z522 : 246 < p1.toInt := own_lti hc66_87 rfl rfl
                                        have z523 : 248 ≤ p1.toInt := own_nlti hc53_92 rfl rfl
                                        have z524 : 767 < p1.toInt := own_lti hc66_105 rfl rfl
                                        have z525 : 880 ≤ p1.toInt := own_nlti hc53_110 rfl rfl
                                        have z526 : 893 < p1.toInt := own_lti hc66_125 rfl rfl
                                        have z527 : 895 ≤ p1.toInt := own_nlti hc53_130 rfl rfl
                                        have z528 : 8191 < p1.toInt := own_lti hc66_147 rfl rfl
                                        have z529 : 8204 ≤ p1.toInt := own_nlti hc53_152 rfl rfl
                                        have z530 : 8205 < p1.toInt := own_lti hc66_171 rfl rfl
                                        have z531 : 8304 ≤ p1.toInt := own_nlti hc53_176 rfl rfl
                                        have z532 : p1.toInt ≤ 8591 := own_nlti hc66_197 rfl rfl
                                        exact ⟨by rw [if_pos (by unfold own_l; omega)]; rfl, N0, e195⟩
                                  · -- pc 66: no
                                    refine own_go (fun t k => XS.icmpNo X169.here hx rfl (hb hby d1_66) rfl (flt hc66_171).2.2.1 k) ?_
                                    show own_R p e below _ T169 (mkF m 69 #[.val (.int p1), .val (.int (14 : Int32))] [])
                                    refine own_go (fun t k => XS.iconst X169.here hx rfl (hb hby d1_69) k) ?_
                                    show own_R p e below _ T169 (mkF m 70 #[.val (.int p1), .val (.int (14 : Int32))] [(.int (1 : Int32))])
                                    refine own_retN X169 hx Bd.returns (by simp) (BodyLoose.notSynchronized Bd) (hb hby d1_70) (by decide) (by decide) ?_
                                    have z533 : 128 ≤ p1.toInt := own_nlti hc4_1 rfl rfl
                                    have z534 : 65 ≤ p1.toInt := own_nlti hc53_40 rfl rfl
                                    have z535 : 90 < p1.toInt := own_lti hc66_45 rfl rfl
                                    have z536 : 97 ≤ p1.toInt := own_nlti hc53_50 rfl rfl
                                    have z537 : 122 < p1.toInt := own_lti hc66_57 rfl rfl
                                    have z538 : 192 ≤ p1.toInt := own_nlti hc53_62 rfl rfl
                                    have z539 : 214 < p1.toInt := own_lti hc66_71 rfl rfl
                                    have z540 : 216 ≤ p1.toInt := own_nlti hc53_76 rfl rfl
                                    have z541 : 246 < p1.toInt := own_lti hc66_87 rfl rfl
                                    have z542 : 248 ≤ p1.toInt := own_nlti hc53_92 rfl rfl
                                    have z543 : 767 < p1.toInt := own_lti hc66_105 rfl rfl
                                    have z544 : 880 ≤ p1.toInt := own_nlti hc53_110 rfl rfl
                                    have z545 : 893 < p1.toInt := own_lti hc66_125 rfl rfl
                                    have z546 : 895 ≤ p1.toInt := own_nlti hc53_130 rfl rfl
                                    have z547 : 8191 < p1.toInt := own_lti hc66_147 rfl rfl
                                    have z548 : 8204 ≤ p1.toInt := own_nlti hc53_152 rfl rfl
                                    have z549 : p1.toInt ≤ 8205 := own_nlti hc66_171 rfl rfl
                                    exact ⟨by rw [if_pos (by unfold own_l; omega)]; rfl, N0, e169⟩
                              · -- pc 66: no
                                refine own_go (fun t k => XS.icmpNo X145.here hx rfl (hb hby d1_66) rfl (flt hc66_147).2.2.1 k) ?_
                                show own_R p e below _ T145 (mkF m 69 #[.val (.int p1), .val (.int (12 : Int32))] [])
                                refine own_go (fun t k => XS.iconst X145.here hx rfl (hb hby d1_69) k) ?_
                                show own_R p e below _ T145 (mkF m 70 #[.val (.int p1), .val (.int (12 : Int32))] [(.int (1 : Int32))])
                                refine own_retN X145 hx Bd.returns (by simp) (BodyLoose.notSynchronized Bd) (hb hby d1_70) (by decide) (by decide) ?_
                                have z550 : 128 ≤ p1.toInt := own_nlti hc4_1 rfl rfl
                                have z551 : 65 ≤ p1.toInt := own_nlti hc53_40 rfl rfl
                                have z552 : 90 < p1.toInt := own_lti hc66_45 rfl rfl
                                have z553 : 97 ≤ p1.toInt := own_nlti hc53_50 rfl rfl
                                have z554 : 122 < p1.toInt := own_lti hc66_57 rfl rfl
                                have z555 : 192 ≤ p1.toInt := own_nlti hc53_62 rfl rfl
                                have z556 : 214 < p1.toInt := own_lti hc66_71 rfl rfl
                                have z557 : 216 ≤ p1.toInt := own_nlti hc53_76 rfl rfl
                                have z558 : 246 < p1.toInt := own_lti hc66_87 rfl rfl
                                have z559 : 248 ≤ p1.toInt := own_nlti hc53_92 rfl rfl
                                have z560 : 767 < p1.toInt := own_lti hc66_105 rfl rfl
                                have z561 : 880 ≤ p1.toInt := own_nlti hc53_110 rfl rfl
                                have z562 : 893 < p1.toInt := own_lti hc66_125 rfl rfl
                                have z563 : 895 ≤ p1.toInt := own_nlti hc53_130 rfl rfl
                                have z564 : p1.toInt ≤ 8191 := own_nlti hc66_147 rfl rfl
                                exact ⟨by rw [if_pos (by unfold own_l; omega)]; rfl, N0, e145⟩
                          · -- pc 66: no
                            refine own_go (fun t k => XS.icmpNo X123.here hx rfl (hb hby d1_66) rfl (flt hc66_125).2.2.1 k) ?_
                            show own_R p e below _ T123 (mkF m 69 #[.val (.int p1), .val (.int (10 : Int32))] [])
                            refine own_go (fun t k => XS.iconst X123.here hx rfl (hb hby d1_69) k) ?_
                            show own_R p e below _ T123 (mkF m 70 #[.val (.int p1), .val (.int (10 : Int32))] [(.int (1 : Int32))])
                            refine own_retN X123 hx Bd.returns (by simp) (BodyLoose.notSynchronized Bd) (hb hby d1_70) (by decide) (by decide) ?_
                            have z565 : 128 ≤ p1.toInt := own_nlti hc4_1 rfl rfl
                            have z566 : 65 ≤ p1.toInt := own_nlti hc53_40 rfl rfl
                            have z567 : 90 < p1.toInt := own_lti hc66_45 rfl rfl
                            have z568 : 97 ≤ p1.toInt := own_nlti hc53_50 rfl rfl
                            have z569 : 122 < p1.toInt := own_lti hc66_57 rfl rfl
                            have z570 : 192 ≤ p1.toInt := own_nlti hc53_62 rfl rfl
                            have z571 : 214 < p1.toInt := own_lti hc66_71 rfl rfl
                            have z572 : 216 ≤ p1.toInt := own_nlti hc53_76 rfl rfl
                            have z573 : 246 < p1.toInt := own_lti hc66_87 rfl rfl
                            have z574 : 248 ≤ p1.toInt := own_nlti hc53_92 rfl rfl
                            have z575 : 767 < p1.toInt := own_lti hc66_105 rfl rfl
                            have z576 : 880 ≤ p1.toInt := own_nlti hc53_110 rfl rfl
                            have z577 : p1.toInt ≤ 893 := own_nlti hc66_125 rfl rfl
                            exact ⟨by rw [if_pos (by unfold own_l; omega)]; rfl, N0, e123⟩
                      · -- pc 66: no
                        refine own_go (fun t k => XS.icmpNo X103.here hx rfl (hb hby d1_66) rfl (flt hc66_105).2.2.1 k) ?_
                        show own_R p e below _ T103 (mkF m 69 #[.val (.int p1), .val (.int (8 : Int32))] [])
                        refine own_go (fun t k => XS.iconst X103.here hx rfl (hb hby d1_69) k) ?_
                        show own_R p e below _ T103 (mkF m 70 #[.val (.int p1), .val (.int (8 : Int32))] [(.int (1 : Int32))])
                        refine own_retN X103 hx Bd.returns (by simp) (BodyLoose.notSynchronized Bd) (hb hby d1_70) (by decide) (by decide) ?_
                        have z578 : 128 ≤ p1.toInt := own_nlti hc4_1 rfl rfl
                        have z579 : 65 ≤ p1.toInt := own_nlti hc53_40 rfl rfl
                        have z580 : 90 < p1.toInt := own_lti hc66_45 rfl rfl
                        have z581 : 97 ≤ p1.toInt := own_nlti hc53_50 rfl rfl
                        have z582 : 122 < p1.toInt := own_lti hc66_57 rfl rfl
                        have z583 : 192 ≤ p1.toInt := own_nlti hc53_62 rfl rfl
                        have z584 : 214 < p1.toInt := own_lti hc66_71 rfl rfl
                        have z585 : 216 ≤ p1.toInt := own_nlti hc53_76 rfl rfl
                        have z586 : 246 < p1.toInt := own_lti hc66_87 rfl rfl
                        have z587 : 248 ≤ p1.toInt := own_nlti hc53_92 rfl rfl
                        have z588 : p1.toInt ≤ 767 := own_nlti hc66_105 rfl rfl
                        exact ⟨by rw [if_pos (by unfold own_l; omega)]; rfl, N0, e103⟩
                  · -- pc 66: no
                    refine own_go (fun t k => XS.icmpNo X85.here hx rfl (hb hby d1_66) rfl (flt hc66_87).2.2.1 k) ?_
                    show own_R p e below _ T85 (mkF m 69 #[.val (.int p1), .val (.int (6 : Int32))] [])
                    refine own_go (fun t k => XS.iconst X85.here hx rfl (hb hby d1_69) k) ?_
                    show own_R p e below _ T85 (mkF m 70 #[.val (.int p1), .val (.int (6 : Int32))] [(.int (1 : Int32))])
                    refine own_retN X85 hx Bd.returns (by simp) (BodyLoose.notSynchronized Bd) (hb hby d1_70) (by decide) (by decide) ?_
                    have z589 : 128 ≤ p1.toInt := own_nlti hc4_1 rfl rfl
                    have z590 : 65 ≤ p1.toInt := own_nlti hc53_40 rfl rfl
                    have z591 : 90 < p1.toInt := own_lti hc66_45 rfl rfl
                    have z592 : 97 ≤ p1.toInt := own_nlti hc53_50 rfl rfl
                    have z593 : 122 < p1.toInt := own_lti hc66_57 rfl rfl
                    have z594 : 192 ≤ p1.toInt := own_nlti hc53_62 rfl rfl
                    have z595 : 214 < p1.toInt := own_lti hc66_71 rfl rfl
                    have z596 : 216 ≤ p1.toInt := own_nlti hc53_76 rfl rfl
                    have z597 : p1.toInt ≤ 246 := own_nlti hc66_87 rfl rfl
                    exact ⟨by rw [if_pos (by unfold own_l; omega)]; rfl, N0, e85⟩
              · -- pc 66: no
                refine own_go (fun t k => XS.icmpNo X69.here hx rfl (hb hby d1_66) rfl (flt hc66_71).2.2.1 k) ?_
                show own_R p e below _ T69 (mkF m 69 #[.val (.int p1), .val (.int (4 : Int32))] [])
                refine own_go (fun t k => XS.iconst X69.here hx rfl (hb hby d1_69) k) ?_
                show own_R p e below _ T69 (mkF m 70 #[.val (.int p1), .val (.int (4 : Int32))] [(.int (1 : Int32))])
                refine own_retN X69 hx Bd.returns (by simp) (BodyLoose.notSynchronized Bd) (hb hby d1_70) (by decide) (by decide) ?_
                have z598 : 128 ≤ p1.toInt := own_nlti hc4_1 rfl rfl
                have z599 : 65 ≤ p1.toInt := own_nlti hc53_40 rfl rfl
                have z600 : 90 < p1.toInt := own_lti hc66_45 rfl rfl
                have z601 : 97 ≤ p1.toInt := own_nlti hc53_50 rfl rfl
                have z602 : 122 < p1.toInt := own_lti hc66_57 rfl rfl
                have z603 : 192 ≤ p1.toInt := own_nlti hc53_62 rfl rfl
                have z604 : p1.toInt ≤ 214 := own_nlti hc66_71 rfl rfl
                exact ⟨by rw [if_pos (by unfold own_l; omega)]; rfl, N0, e69⟩
          · -- pc 66: no
            refine own_go (fun t k => XS.icmpNo X55.here hx rfl (hb hby d1_66) rfl (flt hc66_57).2.2.1 k) ?_
            show own_R p e below _ T55 (mkF m 69 #[.val (.int p1), .val (.int (2 : Int32))] [])
            refine own_go (fun t k => XS.iconst X55.here hx rfl (hb hby d1_69) k) ?_
            show own_R p e below _ T55 (mkF m 70 #[.val (.int p1), .val (.int (2 : Int32))] [(.int (1 : Int32))])
            refine own_retN X55 hx Bd.returns (by simp) (BodyLoose.notSynchronized Bd) (hb hby d1_70) (by decide) (by decide) ?_
            have z605 : 128 ≤ p1.toInt := own_nlti hc4_1 rfl rfl
            have z606 : 65 ≤ p1.toInt := own_nlti hc53_40 rfl rfl
            have z607 : 90 < p1.toInt := own_lti hc66_45 rfl rfl
            have z608 : 97 ≤ p1.toInt := own_nlti hc53_50 rfl rfl
            have z609 : p1.toInt ≤ 122 := own_nlti hc66_57 rfl rfl
            exact ⟨by rw [if_pos (by unfold own_l; omega)]; rfl, N0, e55⟩
      · -- pc 66: no
        refine own_go (fun t k => XS.icmpNo X43.here hx rfl (hb hby d1_66) rfl (flt hc66_45).2.2.1 k) ?_
        show own_R p e below _ T43 (mkF m 69 #[.val (.int p1), .val (.int (0 : Int32))] [])
        refine own_go (fun t k => XS.iconst X43.here hx rfl (hb hby d1_69) k) ?_
        show own_R p e below _ T43 (mkF m 70 #[.val (.int p1), .val (.int (0 : Int32))] [(.int (1 : Int32))])
        refine own_retN X43 hx Bd.returns (by simp) (BodyLoose.notSynchronized Bd) (hb hby d1_70) (by decide) (by decide) ?_
        have z610 : 128 ≤ p1.toInt := own_nlti hc4_1 rfl rfl
        have z611 : 65 ≤ p1.toInt := own_nlti hc53_40 rfl rfl
        have z612 : p1.toInt ≤ 90 := own_nlti hc66_45 rfl rfl
        exact ⟨by rw [if_pos (by unfold own_l; omega)]; rfl, N0, e43⟩
theorem d3_0 : decode method_3_code 0 = .ok (.iload_n 0, 1) := by decide +kernel
theorem d3_1 : decode method_3_code 1 = .ok (.iload_n 1, 1) := by decide +kernel
theorem d3_2 : decode method_3_code 2 = .ok (.if_icmp .lt 12, 3) := by decide +kernel
theorem d3_5 : decode method_3_code 5 = .ok (.iload_n 0, 1) := by decide +kernel
theorem d3_6 : decode method_3_code 6 = .ok (.iload_n 2, 1) := by decide +kernel
theorem d3_7 : decode method_3_code 7 = .ok (.if_icmp .gt 7, 3) := by decide +kernel
theorem d3_10 : decode method_3_code 10 = .ok (.iconst 1, 1) := by decide +kernel
theorem d3_11 : decode method_3_code 11 = .ok (.goto 4, 3) := by decide +kernel
theorem d3_14 : decode method_3_code 14 = .ok (.iconst 0, 1) := by decide +kernel
theorem d3_15 : decode method_3_code 15 = .ok (.ireturn, 1) := by decide +kernel
theorem pn_1 : plainName "com/example/interpretant/interpretant/model/BlankNodeIsLetterPinLaw" = true := by first | (simp [plainName, overriddenIn]; done) | decide +kernel
theorem ef_in3 (m : MethodId) (x0 : Int32) (x1 : Int32) (x2 : Int32) : entryFrame m #[(.int x0), (.int x1), (.int x2)] 3 = mkF m 0 #[.val (.int x0), .val (.int x1), .val (.int x2)] [] := by first | (simp [entryFrame, mkF, argsToLocals, Value.category]; done) | rfl
def Qin3 (Z : State) (p1 : Int32) (p2 : Int32) (p3 : Int32) (h0 : Heap) (n0 : Nat) (v : Option Value) (h : Heap) (L : List Loc) : Prop := v = some (.int (if (Int32.toInt p2 ≤ Int32.toInt p1 ∧ Int32.toInt p1 ≤ Int32.toInt p3) then (1 : Int32) else (0 : Int32))) ∧ Fr n0 L ∧ h = h0
set_option maxRecDepth 65536 in
set_option maxHeartbeats 40000000 in
theorem rmin3 (l : Launch) (Z : State) (a0 : Array Value) (hw : ∀ d ∈ tables_1, d.before a0 Z = true) (ws : List Jvm.Cond) (p1 : Int32) (p2 : Int32) (p3 : Int32) (h0 : Heap) (n0 : Nat) (Z0 : n0 ≤ h0.size) :
    MetFree l (⟨"com/example/interpretant/interpretant/model/BlankNodeIsLetterPinLaw", "in", "(III)Z"⟩ : MethodName) (head1 (Jvm.Cond.code (⟨"com/example/interpretant/interpretant/model/BlankNodeIsLetterPinLaw", "in", "(III)Z"⟩ : MethodName) method_3_code 3 (some .boolean) :: ws) ({ frames := 0, cells := 0, slots := 0, locals := 0 } : Room)) (fun aS U => aS = #[(.int p1), (.int p2), (.int p3)] ∧ Z.Warmed39 U.vm ∧ U.heap = h0) (fun _ _ _ _ _ => True) (fun _ U o U' => ∃ v L, o = .returned v ∧ Qin3 Z p1 p2 p3 h0 n0 v U'.heap L ∧ FrameEnd U o U' L ({ frames := 0, cells := 0, slots := 0, locals := 0 } : Room).cells ({ frames := 0, cells := 0, slots := 0, locals := 0 } : Room).slots) := by
  refine MetFree.of_bodySF (plainFor_of_name pn_1) hisR ?_
  intro p e s m args below meth c s₁ Bd hml0 hP hK
  obtain ⟨rfl, hZ, hh⟩ := hP
  have hx := Bd.exec
  have hby := Bd.bytes
  have hml : c.maxLocals = 3 := hml0
  have hown : s.vm.findClass "com/example/interpretant/interpretant/model/BlankNodeIsLetterPinLaw" = some m.cls := findClass_of_methodNamed Bd.named
  have hnm := (name_of_methodNamed Bd.named Bd.method).1
  have X0 : Stand p l e ({ frames := 0, cells := 0, slots := 0, locals := 0 } : Room) s m #[(.int p1), (.int p2), (.int p3)] below meth c s₁ [] 0 0 := Stand.of_body Bd
  have e0 : s₁.heap = h0 := by rw [← hh, Bd.state]; rfl
  have N0 := Fr.nil n0
  have Kh : Keep h0 h0 [] := Keep.refl _ _
  suffices H : own_R p e below (own_E s below (Qin3 Z p1 p2 p3 h0 n0) ({ frames := 0, cells := 0, slots := 0, locals := 0 } : Room).cells ({ frames := 0, cells := 0, slots := 0, locals := 0 } : Room).slots) s₁ (mkF m 0 #[.val (.int p1), .val (.int p2), .val (.int p3)] []) by
    obtain ⟨t, hst, hrun, v, L, hend, hQ, hF⟩ := H
    exact ⟨t, _, castTop (ef_in3 m p1 p2 p3) hst, hrun, hend, v, L, rfl, hQ, hF⟩
  show own_R p e below _ s₁ (mkF m 0 #[.val (.int p1), .val (.int p2), .val (.int p3)] [])
  refine own_go (fun t k => XS.iloadN X0.here hx rfl (hb hby d3_0) rfl  k) ?_
  show own_R p e below _ s₁ (mkF m 1 #[.val (.int p1), .val (.int p2), .val (.int p3)] [(.int p1)])
  refine own_go (fun t k => XS.iloadN X0.here hx rfl (hb hby d3_1) rfl  k) ?_
  show own_R p e below _ s₁ (mkF m 2 #[.val (.int p1), .val (.int p2), .val (.int p3)] [(.int p2), (.int p1)])
  by_cases hc2_1 : p1 < p2
  · -- pc 2: yes
    refine own_go (fun t k => XS.icmpYes X0.here hx rfl (pc0 := 2) (pc' := 14) rfl (hb hby d3_2) rfl (tlt hc2_1).1 (by decide) (by decide) k) ?_
    show own_R p e below _ s₁ (mkF m 14 #[.val (.int p1), .val (.int p2), .val (.int p3)] [])
    refine own_go (fun t k => XS.iconst X0.here hx rfl (hb hby d3_14) k) ?_
    show own_R p e below _ s₁ (mkF m 15 #[.val (.int p1), .val (.int p2), .val (.int p3)] [(.int (0 : Int32))])
    refine own_retN X0 hx Bd.returns (by simp) (BodyLoose.notSynchronized Bd) (hb hby d3_15) (by decide) (by decide) ?_
    have z2 : p1.toInt < p2.toInt := own_lti hc2_1 rfl rfl
    exact ⟨by rw [if_neg (by omega)]; rfl, N0, e0⟩
  · -- pc 2: no
    refine own_go (fun t k => XS.icmpNo X0.here hx rfl (hb hby d3_2) rfl (flt hc2_1).1 k) ?_
    show own_R p e below _ s₁ (mkF m 5 #[.val (.int p1), .val (.int p2), .val (.int p3)] [])
    refine own_go (fun t k => XS.iloadN X0.here hx rfl (hb hby d3_5) rfl  k) ?_
    show own_R p e below _ s₁ (mkF m 6 #[.val (.int p1), .val (.int p2), .val (.int p3)] [(.int p1)])
    refine own_go (fun t k => XS.iloadN X0.here hx rfl (hb hby d3_6) rfl  k) ?_
    show own_R p e below _ s₁ (mkF m 7 #[.val (.int p1), .val (.int p2), .val (.int p3)] [(.int p3), (.int p1)])
    by_cases hc7_3 : p3 < p1
    · -- pc 7: yes
      refine own_go (fun t k => XS.icmpYes X0.here hx rfl (pc0 := 7) (pc' := 14) rfl (hb hby d3_7) rfl (tlt hc7_3).2.2.1 (by decide) (by decide) k) ?_
      show own_R p e below _ s₁ (mkF m 14 #[.val (.int p1), .val (.int p2), .val (.int p3)] [])
      refine own_go (fun t k => XS.iconst X0.here hx rfl (hb hby d3_14) k) ?_
      show own_R p e below _ s₁ (mkF m 15 #[.val (.int p1), .val (.int p2), .val (.int p3)] [(.int (0 : Int32))])
      refine own_retN X0 hx Bd.returns (by simp) (BodyLoose.notSynchronized Bd) (hb hby d3_15) (by decide) (by decide) ?_
      have z4 : p2.toInt ≤ p1.toInt := own_nlti hc2_1 rfl rfl
      have z5 : p3.toInt < p1.toInt := own_lti hc7_3 rfl rfl
      exact ⟨by rw [if_neg (by omega)]; rfl, N0, e0⟩
    · -- pc 7: no
      refine own_go (fun t k => XS.icmpNo X0.here hx rfl (hb hby d3_7) rfl (flt hc7_3).2.2.1 k) ?_
      show own_R p e below _ s₁ (mkF m 10 #[.val (.int p1), .val (.int p2), .val (.int p3)] [])
      refine own_go (fun t k => XS.iconst X0.here hx rfl (hb hby d3_10) k) ?_
      show own_R p e below _ s₁ (mkF m 11 #[.val (.int p1), .val (.int p2), .val (.int p3)] [(.int (1 : Int32))])
      refine own_go (fun t k => XS.goto X0.here hx rfl (pc0 := 11) (pc' := 15) rfl (hb hby d3_11) (by decide) (by decide) k) ?_
      show own_R p e below _ s₁ (mkF m 15 #[.val (.int p1), .val (.int p2), .val (.int p3)] [(.int (1 : Int32))])
      refine own_retN X0 hx Bd.returns (by simp) (BodyLoose.notSynchronized Bd) (hb hby d3_15) (by decide) (by decide) ?_
      have z6 : p2.toInt ≤ p1.toInt := own_nlti hc2_1 rfl rfl
      have z7 : p1.toInt ≤ p3.toInt := own_nlti hc7_3 rfl rfl
      exact ⟨by rw [if_pos (by omega)]; rfl, N0, e0⟩
theorem d2_0 : decode method_4_code 0 = .ok (.iload_n 0, 1) := by decide +kernel
theorem d2_1 : decode method_4_code 1 = .ok (.bipush 65, 2) := by decide +kernel
theorem d2_3 : decode method_4_code 3 = .ok (.bipush 90, 2) := by decide +kernel
theorem d2_5 : decode method_4_code 5 = .ok (.invokestatic 18, 3) := by decide +kernel
theorem d2_8 : decode method_4_code 8 = .ok (.ifCond .ne 163, 3) := by decide +kernel
theorem d2_11 : decode method_4_code 11 = .ok (.iload_n 0, 1) := by decide +kernel
theorem d2_12 : decode method_4_code 12 = .ok (.bipush 97, 2) := by decide +kernel
theorem d2_14 : decode method_4_code 14 = .ok (.bipush 122, 2) := by decide +kernel
theorem d2_16 : decode method_4_code 16 = .ok (.invokestatic 18, 3) := by decide +kernel
theorem d2_19 : decode method_4_code 19 = .ok (.ifCond .ne 152, 3) := by decide +kernel
theorem d2_22 : decode method_4_code 22 = .ok (.iload_n 0, 1) := by decide +kernel
theorem d2_23 : decode method_4_code 23 = .ok (.sipush 192, 3) := by decide +kernel
theorem d2_26 : decode method_4_code 26 = .ok (.sipush 214, 3) := by decide +kernel
theorem d2_29 : decode method_4_code 29 = .ok (.invokestatic 18, 3) := by decide +kernel
theorem d2_32 : decode method_4_code 32 = .ok (.ifCond .ne 139, 3) := by decide +kernel
theorem d2_35 : decode method_4_code 35 = .ok (.iload_n 0, 1) := by decide +kernel
theorem d2_36 : decode method_4_code 36 = .ok (.sipush 216, 3) := by decide +kernel
theorem d2_39 : decode method_4_code 39 = .ok (.sipush 246, 3) := by decide +kernel
theorem d2_42 : decode method_4_code 42 = .ok (.invokestatic 18, 3) := by decide +kernel
theorem d2_45 : decode method_4_code 45 = .ok (.ifCond .ne 126, 3) := by decide +kernel
theorem d2_48 : decode method_4_code 48 = .ok (.iload_n 0, 1) := by decide +kernel
theorem d2_49 : decode method_4_code 49 = .ok (.sipush 248, 3) := by decide +kernel
theorem d2_52 : decode method_4_code 52 = .ok (.sipush 767, 3) := by decide +kernel
theorem d2_55 : decode method_4_code 55 = .ok (.invokestatic 18, 3) := by decide +kernel
theorem d2_58 : decode method_4_code 58 = .ok (.ifCond .ne 113, 3) := by decide +kernel
theorem d2_61 : decode method_4_code 61 = .ok (.iload_n 0, 1) := by decide +kernel
theorem d2_62 : decode method_4_code 62 = .ok (.sipush 880, 3) := by decide +kernel
theorem d2_65 : decode method_4_code 65 = .ok (.sipush 893, 3) := by decide +kernel
theorem d2_68 : decode method_4_code 68 = .ok (.invokestatic 18, 3) := by decide +kernel
theorem d2_71 : decode method_4_code 71 = .ok (.ifCond .ne 100, 3) := by decide +kernel
theorem d2_74 : decode method_4_code 74 = .ok (.iload_n 0, 1) := by decide +kernel
theorem d2_75 : decode method_4_code 75 = .ok (.sipush 895, 3) := by decide +kernel
theorem d2_78 : decode method_4_code 78 = .ok (.sipush 8191, 3) := by decide +kernel
theorem d2_81 : decode method_4_code 81 = .ok (.invokestatic 18, 3) := by decide +kernel
theorem d2_84 : decode method_4_code 84 = .ok (.ifCond .ne 87, 3) := by decide +kernel
theorem d2_87 : decode method_4_code 87 = .ok (.iload_n 0, 1) := by decide +kernel
theorem d2_88 : decode method_4_code 88 = .ok (.sipush 8204, 3) := by decide +kernel
theorem d2_91 : decode method_4_code 91 = .ok (.sipush 8205, 3) := by decide +kernel
theorem d2_94 : decode method_4_code 94 = .ok (.invokestatic 18, 3) := by decide +kernel
theorem d2_97 : decode method_4_code 97 = .ok (.ifCond .ne 74, 3) := by decide +kernel
theorem d2_100 : decode method_4_code 100 = .ok (.iload_n 0, 1) := by decide +kernel
theorem d2_101 : decode method_4_code 101 = .ok (.sipush 8304, 3) := by decide +kernel
theorem d2_104 : decode method_4_code 104 = .ok (.sipush 8591, 3) := by decide +kernel
theorem d2_107 : decode method_4_code 107 = .ok (.invokestatic 18, 3) := by decide +kernel
theorem d2_110 : decode method_4_code 110 = .ok (.ifCond .ne 61, 3) := by decide +kernel
theorem d2_113 : decode method_4_code 113 = .ok (.iload_n 0, 1) := by decide +kernel
theorem d2_114 : decode method_4_code 114 = .ok (.sipush 11264, 3) := by decide +kernel
theorem d2_117 : decode method_4_code 117 = .ok (.sipush 12271, 3) := by decide +kernel
theorem d2_120 : decode method_4_code 120 = .ok (.invokestatic 18, 3) := by decide +kernel
theorem d2_123 : decode method_4_code 123 = .ok (.ifCond .ne 48, 3) := by decide +kernel
theorem d2_126 : decode method_4_code 126 = .ok (.iload_n 0, 1) := by decide +kernel
theorem d2_127 : decode method_4_code 127 = .ok (.sipush 12289, 3) := by decide +kernel
theorem d2_130 : decode method_4_code 130 = .ok (.ldc 22, 2) := by decide +kernel
theorem d2_132 : decode method_4_code 132 = .ok (.invokestatic 18, 3) := by decide +kernel
theorem d2_135 : decode method_4_code 135 = .ok (.ifCond .ne 36, 3) := by decide +kernel
theorem d2_138 : decode method_4_code 138 = .ok (.iload_n 0, 1) := by decide +kernel
theorem d2_139 : decode method_4_code 139 = .ok (.ldc 23, 2) := by decide +kernel
theorem d2_141 : decode method_4_code 141 = .ok (.ldc 24, 2) := by decide +kernel
theorem d2_143 : decode method_4_code 143 = .ok (.invokestatic 18, 3) := by decide +kernel
theorem d2_146 : decode method_4_code 146 = .ok (.ifCond .ne 25, 3) := by decide +kernel
theorem d2_149 : decode method_4_code 149 = .ok (.iload_n 0, 1) := by decide +kernel
theorem d2_150 : decode method_4_code 150 = .ok (.ldc 25, 2) := by decide +kernel
theorem d2_152 : decode method_4_code 152 = .ok (.ldc 26, 2) := by decide +kernel
theorem d2_154 : decode method_4_code 154 = .ok (.invokestatic 18, 3) := by decide +kernel
theorem d2_157 : decode method_4_code 157 = .ok (.ifCond .ne 14, 3) := by decide +kernel
theorem d2_160 : decode method_4_code 160 = .ok (.iload_n 0, 1) := by decide +kernel
theorem d2_161 : decode method_4_code 161 = .ok (.ldc 27, 2) := by decide +kernel
theorem d2_163 : decode method_4_code 163 = .ok (.ldc 28, 2) := by decide +kernel
theorem d2_165 : decode method_4_code 165 = .ok (.invokestatic 18, 3) := by decide +kernel
theorem d2_168 : decode method_4_code 168 = .ok (.ifCond .eq 7, 3) := by decide +kernel
theorem d2_171 : decode method_4_code 171 = .ok (.iconst 1, 1) := by decide +kernel
theorem d2_172 : decode method_4_code 172 = .ok (.goto 4, 3) := by decide +kernel
theorem d2_175 : decode method_4_code 175 = .ok (.iconst 0, 1) := by decide +kernel
theorem d2_176 : decode method_4_code 176 = .ok (.ireturn, 1) := by decide +kernel
theorem ef_refl (m : MethodId) (x0 : Int32) : entryFrame m #[(.int x0)] 1 = mkF m 0 #[.val (.int x0)] [] := by first | (simp [entryFrame, mkF, argsToLocals, Value.category]; done) | rfl
def Qrefl (Z : State) (p1 : Int32) (h0 : Heap) (n0 : Nat) (v : Option Value) (h : Heap) (L : List Loc) : Prop := v = some (.int (if own_l (Int32.toInt p1) then (1 : Int32) else (0 : Int32))) ∧ Fr n0 L ∧ h = h0
set_option maxRecDepth 65536 in
set_option maxHeartbeats 40000000 in
theorem rmrefl (l : Launch) (Z : State) (a0 : Array Value) (hw : ∀ d ∈ tables_1, d.before a0 Z = true) (ws : List Jvm.Cond) (p1 : Int32) (h0 : Heap) (n0 : Nat) (Z0 : n0 ≤ h0.size) :
    MetFree l (⟨"com/example/interpretant/interpretant/model/BlankNodeIsLetterPinLaw", "reference", "(I)Z"⟩ : MethodName) (head1 (Jvm.Cond.code (⟨"com/example/interpretant/interpretant/model/BlankNodeIsLetterPinLaw", "reference", "(I)Z"⟩ : MethodName) method_4_code 1 (some .boolean) :: ws) ({ frames := 1, cells := 0, slots := 0, locals := 14 } : Room)) (fun aS U => aS = #[(.int p1)] ∧ Z.Warmed39 U.vm ∧ U.heap = h0) (fun _ _ _ _ _ => True) (fun _ U o U' => ∃ v L, o = .returned v ∧ Qrefl Z p1 h0 n0 v U'.heap L ∧ FrameEnd U o U' L ({ frames := 1, cells := 0, slots := 0, locals := 14 } : Room).cells ({ frames := 1, cells := 0, slots := 0, locals := 14 } : Room).slots) := by
  refine MetFree.of_bodySF (plainFor_of_name pn_1) hisR ?_
  intro p e s m args below meth c s₁ Bd hml0 hP hK
  obtain ⟨rfl, hZ, hh⟩ := hP
  have hx := Bd.exec
  have hby := Bd.bytes
  have hml : c.maxLocals = 1 := hml0
  have hown : s.vm.findClass "com/example/interpretant/interpretant/model/BlankNodeIsLetterPinLaw" = some m.cls := findClass_of_methodNamed Bd.named
  have hnm := (name_of_methodNamed Bd.named Bd.method).1
  have X0 : Stand p l e ({ frames := 1, cells := 0, slots := 0, locals := 14 } : Room) s m #[(.int p1)] below meth c s₁ [] 0 0 := Stand.of_body Bd
  have e0 : s₁.heap = h0 := by rw [← hh, Bd.state]; rfl
  have N0 := Fr.nil n0
  have Kh : Keep h0 h0 [] := Keep.refl _ _
  suffices H : own_R p e below (own_E s below (Qrefl Z p1 h0 n0) ({ frames := 1, cells := 0, slots := 0, locals := 14 } : Room).cells ({ frames := 1, cells := 0, slots := 0, locals := 14 } : Room).slots) s₁ (mkF m 0 #[.val (.int p1)] []) by
    obtain ⟨t, hst, hrun, v, L, hend, hQ, hF⟩ := H
    exact ⟨t, _, castTop (ef_refl m p1) hst, hrun, hend, v, L, rfl, hQ, hF⟩
  show own_R p e below _ s₁ (mkF m 0 #[.val (.int p1)] [])
  refine own_go (fun t k => XS.iloadN X0.here hx rfl (hb hby d2_0) rfl  k) ?_
  show own_R p e below _ s₁ (mkF m 1 #[.val (.int p1)] [(.int p1)])
  refine own_go (fun t k => XS.bipush X0.here hx rfl (hb hby d2_1) k) ?_
  show own_R p e below _ s₁ (mkF m 3 #[.val (.int p1)] [(.int (65 : Int32)), (.int p1)])
  refine own_go (fun t k => XS.bipush X0.here hx rfl (hb hby d2_3) k) ?_
  show own_R p e below _ s₁ (mkF m 5 #[.val (.int p1)] [(.int (90 : Int32)), (.int (65 : Int32)), (.int p1)])
  obtain ⟨_, _, ⟨T1, L1, k1, n1⟩, -, X1, ⟨Lc1, hQ1, l1, y1, z1⟩, st1⟩ := Jvm.LawKit.callS X0 hx (y := (⟨"com/example/interpretant/interpretant/model/BlankNodeIsLetterPinLaw", "in", "(III)Z"⟩ : MethodName)) hown (mvT hZ (hw _ (List.mem_of_getElem? (i := 8) rfl))) (mvT hZ (hw _ (List.mem_of_getElem? (i := 9) rfl))) (mvT hZ (hw _ (List.mem_of_getElem? (i := 6) rfl))) (mvT hZ (hw _ (List.mem_of_getElem? (i := 10) rfl))) (by decide) (backOf (W := 0) (rmin3 l Z a0 hw [] p1 (65 : Int32) (90 : Int32) h0 n0 (Nat.le_trans Z0 Kh.1)) hZ (hw _ (List.mem_of_getElem? (i := 10) rfl)) (hw _ (List.mem_of_getElem? (i := 6) rfl)) (by decide) (by decide)) (g := (mkF m 5 #[.val (.int p1)] [(.int (90 : Int32)), (.int (65 : Int32)), (.int p1)])) rfl (by rw [hml]; rfl) (argsL := [(.int p1), (.int (65 : Int32)), (.int (90 : Int32))]) (rest := []) (lenOf pd_1 rfl) rfl (by show 2 * 0 + _ ≤ _; exact Nat.le_of_eq rfl) (hb hby d2_5) (fun _ _ => ⟨rfl, e0, (by decide : 0 + 0 ≤ _), (by decide : 0 + 0 ≤ _)⟩)
  dsimp only [Pt.U, Pt.locs, Pt.cells, Pt.slots] at X1 l1 y1 z1 st1 hQ1
  subst l1 y1 z1
  obtain ⟨rfl, Nq1, e1⟩ := hQ1
  have N1 := Fr.app N0 Nq1
  refine own_go (st1) ?_
  show own_R p e below _ T1 (mkF m 8 #[.val (.int p1)] [(.int (if (Int32.toInt (65 : Int32) ≤ Int32.toInt p1 ∧ Int32.toInt p1 ≤ Int32.toInt (90 : Int32)) then (1 : Int32) else (0 : Int32)))])
  by_cases hc8_2 : (if (Int32.toInt (65 : Int32) ≤ Int32.toInt p1 ∧ Int32.toInt p1 ≤ Int32.toInt (90 : Int32)) then (1 : Int32) else (0 : Int32)) = (0 : Int32)
  · -- pc 8: yes
    refine own_go (fun t k => XS.ifNo X1.here hx rfl (hb hby d2_8) rfl ((if0 _ _).trans (teq hc8_2).2) k) ?_
    show own_R p e below _ T1 (mkF m 11 #[.val (.int p1)] [])
    refine own_go (fun t k => XS.iloadN X1.here hx rfl (hb hby d2_11) rfl  k) ?_
    show own_R p e below _ T1 (mkF m 12 #[.val (.int p1)] [(.int p1)])
    refine own_go (fun t k => XS.bipush X1.here hx rfl (hb hby d2_12) k) ?_
    show own_R p e below _ T1 (mkF m 14 #[.val (.int p1)] [(.int (97 : Int32)), (.int p1)])
    refine own_go (fun t k => XS.bipush X1.here hx rfl (hb hby d2_14) k) ?_
    show own_R p e below _ T1 (mkF m 16 #[.val (.int p1)] [(.int (122 : Int32)), (.int (97 : Int32)), (.int p1)])
    obtain ⟨_, _, ⟨T3, L3, k3, n3⟩, -, X3, ⟨Lc3, hQ3, l3, y3, z3⟩, st3⟩ := Jvm.LawKit.callS X1 hx (y := (⟨"com/example/interpretant/interpretant/model/BlankNodeIsLetterPinLaw", "in", "(III)Z"⟩ : MethodName)) hown (mvT hZ (hw _ (List.mem_of_getElem? (i := 8) rfl))) (mvT hZ (hw _ (List.mem_of_getElem? (i := 9) rfl))) (mvT hZ (hw _ (List.mem_of_getElem? (i := 6) rfl))) (mvT hZ (hw _ (List.mem_of_getElem? (i := 10) rfl))) (by decide) (backOf (W := 0) (rmin3 l Z a0 hw [] p1 (97 : Int32) (122 : Int32) h0 n0 (Nat.le_trans Z0 Kh.1)) hZ (hw _ (List.mem_of_getElem? (i := 10) rfl)) (hw _ (List.mem_of_getElem? (i := 6) rfl)) (by decide) (by decide)) (g := (mkF m 16 #[.val (.int p1)] [(.int (122 : Int32)), (.int (97 : Int32)), (.int p1)])) rfl (by rw [hml]; rfl) (argsL := [(.int p1), (.int (97 : Int32)), (.int (122 : Int32))]) (rest := []) (lenOf pd_1 rfl) rfl (by show 2 * 0 + _ ≤ _; exact Nat.le_of_eq rfl) (hb hby d2_16) (fun _ _ => ⟨rfl, e1, (by decide : 0 + 0 ≤ _), (by decide : 0 + 0 ≤ _)⟩)
    dsimp only [Pt.U, Pt.locs, Pt.cells, Pt.slots] at X3 l3 y3 z3 st3 hQ3
    subst l3 y3 z3
    obtain ⟨rfl, Nq3, e3⟩ := hQ3
    have N3 := Fr.app N1 Nq3
    refine own_go (st3) ?_
    show own_R p e below _ T3 (mkF m 19 #[.val (.int p1)] [(.int (if (Int32.toInt (97 : Int32) ≤ Int32.toInt p1 ∧ Int32.toInt p1 ≤ Int32.toInt (122 : Int32)) then (1 : Int32) else (0 : Int32)))])
    by_cases hc19_4 : (if (Int32.toInt (97 : Int32) ≤ Int32.toInt p1 ∧ Int32.toInt p1 ≤ Int32.toInt (122 : Int32)) then (1 : Int32) else (0 : Int32)) = (0 : Int32)
    · -- pc 19: yes
      refine own_go (fun t k => XS.ifNo X3.here hx rfl (hb hby d2_19) rfl ((if0 _ _).trans (teq hc19_4).2) k) ?_
      show own_R p e below _ T3 (mkF m 22 #[.val (.int p1)] [])
      refine own_go (fun t k => XS.iloadN X3.here hx rfl (hb hby d2_22) rfl  k) ?_
      show own_R p e below _ T3 (mkF m 23 #[.val (.int p1)] [(.int p1)])
      refine own_go (fun t k => XS.sipush X3.here hx rfl (hb hby d2_23) k) ?_
      show own_R p e below _ T3 (mkF m 26 #[.val (.int p1)] [(.int (192 : Int32)), (.int p1)])
      refine own_go (fun t k => XS.sipush X3.here hx rfl (hb hby d2_26) k) ?_
      show own_R p e below _ T3 (mkF m 29 #[.val (.int p1)] [(.int (214 : Int32)), (.int (192 : Int32)), (.int p1)])
      obtain ⟨_, _, ⟨T5, L5, k5, n5⟩, -, X5, ⟨Lc5, hQ5, l5, y5, z5⟩, st5⟩ := Jvm.LawKit.callS X3 hx (y := (⟨"com/example/interpretant/interpretant/model/BlankNodeIsLetterPinLaw", "in", "(III)Z"⟩ : MethodName)) hown (mvT hZ (hw _ (List.mem_of_getElem? (i := 8) rfl))) (mvT hZ (hw _ (List.mem_of_getElem? (i := 9) rfl))) (mvT hZ (hw _ (List.mem_of_getElem? (i := 6) rfl))) (mvT hZ (hw _ (List.mem_of_getElem? (i := 10) rfl))) (by decide) (backOf (W := 0) (rmin3 l Z a0 hw [] p1 (192 : Int32) (214 : Int32) h0 n0 (Nat.le_trans Z0 Kh.1)) hZ (hw _ (List.mem_of_getElem? (i := 10) rfl)) (hw _ (List.mem_of_getElem? (i := 6) rfl)) (by decide) (by decide)) (g := (mkF m 29 #[.val (.int p1)] [(.int (214 : Int32)), (.int (192 : Int32)), (.int p1)])) rfl (by rw [hml]; rfl) (argsL := [(.int p1), (.int (192 : Int32)), (.int (214 : Int32))]) (rest := []) (lenOf pd_1 rfl) rfl (by show 2 * 0 + _ ≤ _; exact Nat.le_of_eq rfl) (hb hby d2_29) (fun _ _ => ⟨rfl, e3, (by decide : 0 + 0 ≤ _), (by decide : 0 + 0 ≤ _)⟩)
      dsimp only [Pt.U, Pt.locs, Pt.cells, Pt.slots] at X5 l5 y5 z5 st5 hQ5
      subst l5 y5 z5
      obtain ⟨rfl, Nq5, e5⟩ := hQ5
      have N5 := Fr.app N3 Nq5
      refine own_go (st5) ?_
      show own_R p e below _ T5 (mkF m 32 #[.val (.int p1)] [(.int (if (Int32.toInt (192 : Int32) ≤ Int32.toInt p1 ∧ Int32.toInt p1 ≤ Int32.toInt (214 : Int32)) then (1 : Int32) else (0 : Int32)))])
      by_cases hc32_6 : (if (Int32.toInt (192 : Int32) ≤ Int32.toInt p1 ∧ Int32.toInt p1 ≤ Int32.toInt (214 : Int32)) then (1 : Int32) else (0 : Int32)) = (0 : Int32)
      · -- pc 32: yes
        refine own_go (fun t k => XS.ifNo X5.here hx rfl (hb hby d2_32) rfl ((if0 _ _).trans (teq hc32_6).2) k) ?_
        show own_R p e below _ T5 (mkF m 35 #[.val (.int p1)] [])
        refine own_go (fun t k => XS.iloadN X5.here hx rfl (hb hby d2_35) rfl  k) ?_
        show own_R p e below _ T5 (mkF m 36 #[.val (.int p1)] [(.int p1)])
        refine own_go (fun t k => XS.sipush X5.here hx rfl (hb hby d2_36) k) ?_
        show own_R p e below _ T5 (mkF m 39 #[.val (.int p1)] [(.int (216 : Int32)), (.int p1)])
        refine own_go (fun t k => XS.sipush X5.here hx rfl (hb hby d2_39) k) ?_
        show own_R p e below _ T5 (mkF m 42 #[.val (.int p1)] [(.int (246 : Int32)), (.int (216 : Int32)), (.int p1)])
        obtain ⟨_, _, ⟨T7, L7, k7, n7⟩, -, X7, ⟨Lc7, hQ7, l7, y7, z7⟩, st7⟩ := Jvm.LawKit.callS X5 hx (y := (⟨"com/example/interpretant/interpretant/model/BlankNodeIsLetterPinLaw", "in", "(III)Z"⟩ : MethodName)) hown (mvT hZ (hw _ (List.mem_of_getElem? (i := 8) rfl))) (mvT hZ (hw _ (List.mem_of_getElem? (i := 9) rfl))) (mvT hZ (hw _ (List.mem_of_getElem? (i := 6) rfl))) (mvT hZ (hw _ (List.mem_of_getElem? (i := 10) rfl))) (by decide) (backOf (W := 0) (rmin3 l Z a0 hw [] p1 (216 : Int32) (246 : Int32) h0 n0 (Nat.le_trans Z0 Kh.1)) hZ (hw _ (List.mem_of_getElem? (i := 10) rfl)) (hw _ (List.mem_of_getElem? (i := 6) rfl)) (by decide) (by decide)) (g := (mkF m 42 #[.val (.int p1)] [(.int (246 : Int32)), (.int (216 : Int32)), (.int p1)])) rfl (by rw [hml]; rfl) (argsL := [(.int p1), (.int (216 : Int32)), (.int (246 : Int32))]) (rest := []) (lenOf pd_1 rfl) rfl (by show 2 * 0 + _ ≤ _; exact Nat.le_of_eq rfl) (hb hby d2_42) (fun _ _ => ⟨rfl, e5, (by decide : 0 + 0 ≤ _), (by decide : 0 + 0 ≤ _)⟩)
        dsimp only [Pt.U, Pt.locs, Pt.cells, Pt.slots] at X7 l7 y7 z7 st7 hQ7
        subst l7 y7 z7
        obtain ⟨rfl, Nq7, e7⟩ := hQ7
        have N7 := Fr.app N5 Nq7
        refine own_go (st7) ?_
        show own_R p e below _ T7 (mkF m 45 #[.val (.int p1)] [(.int (if (Int32.toInt (216 : Int32) ≤ Int32.toInt p1 ∧ Int32.toInt p1 ≤ Int32.toInt (246 : Int32)) then (1 : Int32) else (0 : Int32)))])
        by_cases hc45_8 : (if (Int32.toInt (216 : Int32) ≤ Int32.toInt p1 ∧ Int32.toInt p1 ≤ Int32.toInt (246 : Int32)) then (1 : Int32) else (0 : Int32)) = (0 : Int32)
        · -- pc 45: yes
          refine own_go (fun t k => XS.ifNo X7.here hx rfl (hb hby d2_45) rfl ((if0 _ _).trans (teq hc45_8).2) k) ?_
          show own_R p e below _ T7 (mkF m 48 #[.val (.int p1)] [])
          refine own_go (fun t k => XS.iloadN X7.here hx rfl (hb hby d2_48) rfl  k) ?_
          show own_R p e below _ T7 (mkF m 49 #[.val (.int p1)] [(.int p1)])
          refine own_go (fun t k => XS.sipush X7.here hx rfl (hb hby d2_49) k) ?_
          show own_R p e below _ T7 (mkF m 52 #[.val (.int p1)] [(.int (248 : Int32)), (.int p1)])
          refine own_go (fun t k => XS.sipush X7.here hx rfl (hb hby d2_52) k) ?_
          show own_R p e below _ T7 (mkF m 55 #[.val (.int p1)] [(.int (767 : Int32)), (.int (248 : Int32)), (.int p1)])
          obtain ⟨_, _, ⟨T9, L9, k9, n9⟩, -, X9, ⟨Lc9, hQ9, l9, y9, z9⟩, st9⟩ := Jvm.LawKit.callS X7 hx (y := (⟨"com/example/interpretant/interpretant/model/BlankNodeIsLetterPinLaw", "in", "(III)Z"⟩ : MethodName)) hown (mvT hZ (hw _ (List.mem_of_getElem? (i := 8) rfl))) (mvT hZ (hw _ (List.mem_of_getElem? (i := 9) rfl))) (mvT hZ (hw _ (List.mem_of_getElem? (i := 6) rfl))) (mvT hZ (hw _ (List.mem_of_getElem? (i := 10) rfl))) (by decide) (backOf (W := 0) (rmin3 l Z a0 hw [] p1 (248 : Int32) (767 : Int32) h0 n0 (Nat.le_trans Z0 Kh.1)) hZ (hw _ (List.mem_of_getElem? (i := 10) rfl)) (hw _ (List.mem_of_getElem? (i := 6) rfl)) (by decide) (by decide)) (g := (mkF m 55 #[.val (.int p1)] [(.int (767 : Int32)), (.int (248 : Int32)), (.int p1)])) rfl (by rw [hml]; rfl) (argsL := [(.int p1), (.int (248 : Int32)), (.int (767 : Int32))]) (rest := []) (lenOf pd_1 rfl) rfl (by show 2 * 0 + _ ≤ _; exact Nat.le_of_eq rfl) (hb hby d2_55) (fun _ _ => ⟨rfl, e7, (by decide : 0 + 0 ≤ _), (by decide : 0 + 0 ≤ _)⟩)
          dsimp only [Pt.U, Pt.locs, Pt.cells, Pt.slots] at X9 l9 y9 z9 st9 hQ9
          subst l9 y9 z9
          obtain ⟨rfl, Nq9, e9⟩ := hQ9
          have N9 := Fr.app N7 Nq9
          refine own_go (st9) ?_
          show own_R p e below _ T9 (mkF m 58 #[.val (.int p1)] [(.int (if (Int32.toInt (248 : Int32) ≤ Int32.toInt p1 ∧ Int32.toInt p1 ≤ Int32.toInt (767 : Int32)) then (1 : Int32) else (0 : Int32)))])
          by_cases hc58_10 : (if (Int32.toInt (248 : Int32) ≤ Int32.toInt p1 ∧ Int32.toInt p1 ≤ Int32.toInt (767 : Int32)) then (1 : Int32) else (0 : Int32)) = (0 : Int32)
          · -- pc 58: yes
            refine own_go (fun t k => XS.ifNo X9.here hx rfl (hb hby d2_58) rfl ((if0 _ _).trans (teq hc58_10).2) k) ?_
            show own_R p e below _ T9 (mkF m 61 #[.val (.int p1)] [])
            refine own_go (fun t k => XS.iloadN X9.here hx rfl (hb hby d2_61) rfl  k) ?_
            show own_R p e below _ T9 (mkF m 62 #[.val (.int p1)] [(.int p1)])
            refine own_go (fun t k => XS.sipush X9.here hx rfl (hb hby d2_62) k) ?_
            show own_R p e below _ T9 (mkF m 65 #[.val (.int p1)] [(.int (880 : Int32)), (.int p1)])
            refine own_go (fun t k => XS.sipush X9.here hx rfl (hb hby d2_65) k) ?_
            show own_R p e below _ T9 (mkF m 68 #[.val (.int p1)] [(.int (893 : Int32)), (.int (880 : Int32)), (.int p1)])
            obtain ⟨_, _, ⟨T11, L11, k11, n11⟩, -, X11, ⟨Lc11, hQ11, l11, y11, z11⟩, st11⟩ := Jvm.LawKit.callS X9 hx (y := (⟨"com/example/interpretant/interpretant/model/BlankNodeIsLetterPinLaw", "in", "(III)Z"⟩ : MethodName)) hown (mvT hZ (hw _ (List.mem_of_getElem? (i := 8) rfl))) (mvT hZ (hw _ (List.mem_of_getElem? (i := 9) rfl))) (mvT hZ (hw _ (List.mem_of_getElem? (i := 6) rfl))) (mvT hZ (hw _ (List.mem_of_getElem? (i := 10) rfl))) (by decide) (backOf (W := 0) (rmin3 l Z a0 hw [] p1 (880 : Int32) (893 : Int32) h0 n0 (Nat.le_trans Z0 Kh.1)) hZ (hw _ (List.mem_of_getElem? (i := 10) rfl)) (hw _ (List.mem_of_getElem? (i := 6) rfl)) (by decide) (by decide)) (g := (mkF m 68 #[.val (.int p1)] [(.int (893 : Int32)), (.int (880 : Int32)), (.int p1)])) rfl (by rw [hml]; rfl) (argsL := [(.int p1), (.int (880 : Int32)), (.int (893 : Int32))]) (rest := []) (lenOf pd_1 rfl) rfl (by show 2 * 0 + _ ≤ _; exact Nat.le_of_eq rfl) (hb hby d2_68) (fun _ _ => ⟨rfl, e9, (by decide : 0 + 0 ≤ _), (by decide : 0 + 0 ≤ _)⟩)
            dsimp only [Pt.U, Pt.locs, Pt.cells, Pt.slots] at X11 l11 y11 z11 st11 hQ11
            subst l11 y11 z11
            obtain ⟨rfl, Nq11, e11⟩ := hQ11
            have N11 := Fr.app N9 Nq11
            refine own_go (st11) ?_
            show own_R p e below _ T11 (mkF m 71 #[.val (.int p1)] [(.int (if (Int32.toInt (880 : Int32) ≤ Int32.toInt p1 ∧ Int32.toInt p1 ≤ Int32.toInt (893 : Int32)) then (1 : Int32) else (0 : Int32)))])
            by_cases hc71_12 : (if (Int32.toInt (880 : Int32) ≤ Int32.toInt p1 ∧ Int32.toInt p1 ≤ Int32.toInt (893 : Int32)) then (1 : Int32) else (0 : Int32)) = (0 : Int32)
            · -- pc 71: yes
              refine own_go (fun t k => XS.ifNo X11.here hx rfl (hb hby d2_71) rfl ((if0 _ _).trans (teq hc71_12).2) k) ?_
              show own_R p e below _ T11 (mkF m 74 #[.val (.int p1)] [])
              refine own_go (fun t k => XS.iloadN X11.here hx rfl (hb hby d2_74) rfl  k) ?_
              show own_R p e below _ T11 (mkF m 75 #[.val (.int p1)] [(.int p1)])
              refine own_go (fun t k => XS.sipush X11.here hx rfl (hb hby d2_75) k) ?_
              show own_R p e below _ T11 (mkF m 78 #[.val (.int p1)] [(.int (895 : Int32)), (.int p1)])
              refine own_go (fun t k => XS.sipush X11.here hx rfl (hb hby d2_78) k) ?_
              show own_R p e below _ T11 (mkF m 81 #[.val (.int p1)] [(.int (8191 : Int32)), (.int (895 : Int32)), (.int p1)])
              obtain ⟨_, _, ⟨T13, L13, k13, n13⟩, -, X13, ⟨Lc13, hQ13, l13, y13, z13⟩, st13⟩ := Jvm.LawKit.callS X11 hx (y := (⟨"com/example/interpretant/interpretant/model/BlankNodeIsLetterPinLaw", "in", "(III)Z"⟩ : MethodName)) hown (mvT hZ (hw _ (List.mem_of_getElem? (i := 8) rfl))) (mvT hZ (hw _ (List.mem_of_getElem? (i := 9) rfl))) (mvT hZ (hw _ (List.mem_of_getElem? (i := 6) rfl))) (mvT hZ (hw _ (List.mem_of_getElem? (i := 10) rfl))) (by decide) (backOf (W := 0) (rmin3 l Z a0 hw [] p1 (895 : Int32) (8191 : Int32) h0 n0 (Nat.le_trans Z0 Kh.1)) hZ (hw _ (List.mem_of_getElem? (i := 10) rfl)) (hw _ (List.mem_of_getElem? (i := 6) rfl)) (by decide) (by decide)) (g := (mkF m 81 #[.val (.int p1)] [(.int (8191 : Int32)), (.int (895 : Int32)), (.int p1)])) rfl (by rw [hml]; rfl) (argsL := [(.int p1), (.int (895 : Int32)), (.int (8191 : Int32))]) (rest := []) (lenOf pd_1 rfl) rfl (by show 2 * 0 + _ ≤ _; exact Nat.le_of_eq rfl) (hb hby d2_81) (fun _ _ => ⟨rfl, e11, (by decide : 0 + 0 ≤ _), (by decide : 0 + 0 ≤ _)⟩)
              dsimp only [Pt.U, Pt.locs, Pt.cells, Pt.slots] at X13 l13 y13 z13 st13 hQ13
              subst l13 y13 z13
              obtain ⟨rfl, Nq13, e13⟩ := hQ13
              have N13 := Fr.app N11 Nq13
              refine own_go (st13) ?_
              show own_R p e below _ T13 (mkF m 84 #[.val (.int p1)] [(.int (if (Int32.toInt (895 : Int32) ≤ Int32.toInt p1 ∧ Int32.toInt p1 ≤ Int32.toInt (8191 : Int32)) then (1 : Int32) else (0 : Int32)))])
              by_cases hc84_14 : (if (Int32.toInt (895 : Int32) ≤ Int32.toInt p1 ∧ Int32.toInt p1 ≤ Int32.toInt (8191 : Int32)) then (1 : Int32) else (0 : Int32)) = (0 : Int32)
              · -- pc 84: yes
                refine own_go (fun t k => XS.ifNo X13.here hx rfl (hb hby d2_84) rfl ((if0 _ _).trans (teq hc84_14).2) k) ?_
                show own_R p e below _ T13 (mkF m 87 #[.val (.int p1)] [])
                refine own_go (fun t k => XS.iloadN X13.here hx rfl (hb hby d2_87) rfl  k) ?_
                show own_R p e below _ T13 (mkF m 88 #[.val (.int p1)] [(.int p1)])
                refine own_go (fun t k => XS.sipush X13.here hx rfl (hb hby d2_88) k) ?_
                show own_R p e below _ T13 (mkF m 91 #[.val (.int p1)] [(.int (8204 : Int32)), (.int p1)])
                refine own_go (fun t k => XS.sipush X13.here hx rfl (hb hby d2_91) k) ?_
                show own_R p e below _ T13 (mkF m 94 #[.val (.int p1)] [(.int (8205 : Int32)), (.int (8204 : Int32)), (.int p1)])
                obtain ⟨_, _, ⟨T15, L15, k15, n15⟩, -, X15, ⟨Lc15, hQ15, l15, y15, z15⟩, st15⟩ := Jvm.LawKit.callS X13 hx (y := (⟨"com/example/interpretant/interpretant/model/BlankNodeIsLetterPinLaw", "in", "(III)Z"⟩ : MethodName)) hown (mvT hZ (hw _ (List.mem_of_getElem? (i := 8) rfl))) (mvT hZ (hw _ (List.mem_of_getElem? (i := 9) rfl))) (mvT hZ (hw _ (List.mem_of_getElem? (i := 6) rfl))) (mvT hZ (hw _ (List.mem_of_getElem? (i := 10) rfl))) (by decide) (backOf (W := 0) (rmin3 l Z a0 hw [] p1 (8204 : Int32) (8205 : Int32) h0 n0 (Nat.le_trans Z0 Kh.1)) hZ (hw _ (List.mem_of_getElem? (i := 10) rfl)) (hw _ (List.mem_of_getElem? (i := 6) rfl)) (by decide) (by decide)) (g := (mkF m 94 #[.val (.int p1)] [(.int (8205 : Int32)), (.int (8204 : Int32)), (.int p1)])) rfl (by rw [hml]; rfl) (argsL := [(.int p1), (.int (8204 : Int32)), (.int (8205 : Int32))]) (rest := []) (lenOf pd_1 rfl) rfl (by show 2 * 0 + _ ≤ _; exact Nat.le_of_eq rfl) (hb hby d2_94) (fun _ _ => ⟨rfl, e13, (by decide : 0 + 0 ≤ _), (by decide : 0 + 0 ≤ _)⟩)
                dsimp only [Pt.U, Pt.locs, Pt.cells, Pt.slots] at X15 l15 y15 z15 st15 hQ15
                subst l15 y15 z15
                obtain ⟨rfl, Nq15, e15⟩ := hQ15
                have N15 := Fr.app N13 Nq15
                refine own_go (st15) ?_
                show own_R p e below _ T15 (mkF m 97 #[.val (.int p1)] [(.int (if (Int32.toInt (8204 : Int32) ≤ Int32.toInt p1 ∧ Int32.toInt p1 ≤ Int32.toInt (8205 : Int32)) then (1 : Int32) else (0 : Int32)))])
                by_cases hc97_16 : (if (Int32.toInt (8204 : Int32) ≤ Int32.toInt p1 ∧ Int32.toInt p1 ≤ Int32.toInt (8205 : Int32)) then (1 : Int32) else (0 : Int32)) = (0 : Int32)
                · -- pc 97: yes
                  refine own_go (fun t k => XS.ifNo X15.here hx rfl (hb hby d2_97) rfl ((if0 _ _).trans (teq hc97_16).2) k) ?_
                  show own_R p e below _ T15 (mkF m 100 #[.val (.int p1)] [])
                  refine own_go (fun t k => XS.iloadN X15.here hx rfl (hb hby d2_100) rfl  k) ?_
                  show own_R p e below _ T15 (mkF m 101 #[.val (.int p1)] [(.int p1)])
                  refine own_go (fun t k => XS.sipush X15.here hx rfl (hb hby d2_101) k) ?_
                  show own_R p e below _ T15 (mkF m 104 #[.val (.int p1)] [(.int (8304 : Int32)), (.int p1)])
                  refine own_go (fun t k => XS.sipush X15.here hx rfl (hb hby d2_104) k) ?_
                  show own_R p e below _ T15 (mkF m 107 #[.val (.int p1)] [(.int (8591 : Int32)), (.int (8304 : Int32)), (.int p1)])
                  obtain ⟨_, _, ⟨T17, L17, k17, n17⟩, -, X17, ⟨Lc17, hQ17, l17, y17, z17⟩, st17⟩ := Jvm.LawKit.callS X15 hx (y := (⟨"com/example/interpretant/interpretant/model/BlankNodeIsLetterPinLaw", "in", "(III)Z"⟩ : MethodName)) hown (mvT hZ (hw _ (List.mem_of_getElem? (i := 8) rfl))) (mvT hZ (hw _ (List.mem_of_getElem? (i := 9) rfl))) (mvT hZ (hw _ (List.mem_of_getElem? (i := 6) rfl))) (mvT hZ (hw _ (List.mem_of_getElem? (i := 10) rfl))) (by decide) (backOf (W := 0) (rmin3 l Z a0 hw [] p1 (8304 : Int32) (8591 : Int32) h0 n0 (Nat.le_trans Z0 Kh.1)) hZ (hw _ (List.mem_of_getElem? (i := 10) rfl)) (hw _ (List.mem_of_getElem? (i := 6) rfl)) (by decide) (by decide)) (g := (mkF m 107 #[.val (.int p1)] [(.int (8591 : Int32)), (.int (8304 : Int32)), (.int p1)])) rfl (by rw [hml]; rfl) (argsL := [(.int p1), (.int (8304 : Int32)), (.int (8591 : Int32))]) (rest := []) (lenOf pd_1 rfl) rfl (by show 2 * 0 + _ ≤ _; exact Nat.le_of_eq rfl) (hb hby d2_107) (fun _ _ => ⟨rfl, e15, (by decide : 0 + 0 ≤ _), (by decide : 0 + 0 ≤ _)⟩)
                  dsimp only [Pt.U, Pt.locs, Pt.cells, Pt.slots] at X17 l17 y17 z17 st17 hQ17
                  subst l17 y17 z17
                  obtain ⟨rfl, Nq17, e17⟩ := hQ17
                  have N17 := Fr.app N15 Nq17
                  refine own_go (st17) ?_
                  show own_R p e below _ T17 (mkF m 110 #[.val (.int p1)] [(.int (if (Int32.toInt (8304 : Int32) ≤ Int32.toInt p1 ∧ Int32.toInt p1 ≤ Int32.toInt (8591 : Int32)) then (1 : Int32) else (0 : Int32)))])
                  by_cases hc110_18 : (if (Int32.toInt (8304 : Int32) ≤ Int32.toInt p1 ∧ Int32.toInt p1 ≤ Int32.toInt (8591 : Int32)) then (1 : Int32) else (0 : Int32)) = (0 : Int32)
                  · -- pc 110: yes
                    refine own_go (fun t k => XS.ifNo X17.here hx rfl (hb hby d2_110) rfl ((if0 _ _).trans (teq hc110_18).2) k) ?_
                    show own_R p e below _ T17 (mkF m 113 #[.val (.int p1)] [])
                    refine own_go (fun t k => XS.iloadN X17.here hx rfl (hb hby d2_113) rfl  k) ?_
                    show own_R p e below _ T17 (mkF m 114 #[.val (.int p1)] [(.int p1)])
                    refine own_go (fun t k => XS.sipush X17.here hx rfl (hb hby d2_114) k) ?_
                    show own_R p e below _ T17 (mkF m 117 #[.val (.int p1)] [(.int (11264 : Int32)), (.int p1)])
                    refine own_go (fun t k => XS.sipush X17.here hx rfl (hb hby d2_117) k) ?_
                    show own_R p e below _ T17 (mkF m 120 #[.val (.int p1)] [(.int (12271 : Int32)), (.int (11264 : Int32)), (.int p1)])
                    obtain ⟨_, _, ⟨T19, L19, k19, n19⟩, -, X19, ⟨Lc19, hQ19, l19, y19, z19⟩, st19⟩ := Jvm.LawKit.callS X17 hx (y := (⟨"com/example/interpretant/interpretant/model/BlankNodeIsLetterPinLaw", "in", "(III)Z"⟩ : MethodName)) hown (mvT hZ (hw _ (List.mem_of_getElem? (i := 8) rfl))) (mvT hZ (hw _ (List.mem_of_getElem? (i := 9) rfl))) (mvT hZ (hw _ (List.mem_of_getElem? (i := 6) rfl))) (mvT hZ (hw _ (List.mem_of_getElem? (i := 10) rfl))) (by decide) (backOf (W := 0) (rmin3 l Z a0 hw [] p1 (11264 : Int32) (12271 : Int32) h0 n0 (Nat.le_trans Z0 Kh.1)) hZ (hw _ (List.mem_of_getElem? (i := 10) rfl)) (hw _ (List.mem_of_getElem? (i := 6) rfl)) (by decide) (by decide)) (g := (mkF m 120 #[.val (.int p1)] [(.int (12271 : Int32)), (.int (11264 : Int32)), (.int p1)])) rfl (by rw [hml]; rfl) (argsL := [(.int p1), (.int (11264 : Int32)), (.int (12271 : Int32))]) (rest := []) (lenOf pd_1 rfl) rfl (by show 2 * 0 + _ ≤ _; exact Nat.le_of_eq rfl) (hb hby d2_120) (fun _ _ => ⟨rfl, e17, (by decide : 0 + 0 ≤ _), (by decide : 0 + 0 ≤ _)⟩)
                    dsimp only [Pt.U, Pt.locs, Pt.cells, Pt.slots] at X19 l19 y19 z19 st19 hQ19
                    subst l19 y19 z19
                    obtain ⟨rfl, Nq19, e19⟩ := hQ19
                    have N19 := Fr.app N17 Nq19
                    refine own_go (st19) ?_
                    show own_R p e below _ T19 (mkF m 123 #[.val (.int p1)] [(.int (if (Int32.toInt (11264 : Int32) ≤ Int32.toInt p1 ∧ Int32.toInt p1 ≤ Int32.toInt (12271 : Int32)) then (1 : Int32) else (0 : Int32)))])
                    by_cases hc123_20 : (if (Int32.toInt (11264 : Int32) ≤ Int32.toInt p1 ∧ Int32.toInt p1 ≤ Int32.toInt (12271 : Int32)) then (1 : Int32) else (0 : Int32)) = (0 : Int32)
                    · -- pc 123: yes
                      refine own_go (fun t k => XS.ifNo X19.here hx rfl (hb hby d2_123) rfl ((if0 _ _).trans (teq hc123_20).2) k) ?_
                      show own_R p e below _ T19 (mkF m 126 #[.val (.int p1)] [])
                      refine own_go (fun t k => XS.iloadN X19.here hx rfl (hb hby d2_126) rfl  k) ?_
                      show own_R p e below _ T19 (mkF m 127 #[.val (.int p1)] [(.int p1)])
                      refine own_go (fun t k => XS.sipush X19.here hx rfl (hb hby d2_127) k) ?_
                      show own_R p e below _ T19 (mkF m 130 #[.val (.int p1)] [(.int (12289 : Int32)), (.int p1)])
                      refine own_go (X19.ldcInt hx hown (mvT hZ (hw _ (List.mem_of_getElem? (i := 11) rfl))) (g := (mkF m 130 #[.val (.int p1)] [(.int (12289 : Int32)), (.int p1)])) rfl (hb hby d2_130)) ?_
                      show own_R p e below _ T19 (mkF m 132 #[.val (.int p1)] [(.int (55295 : Int32)), (.int (12289 : Int32)), (.int p1)])
                      obtain ⟨_, _, ⟨T21, L21, k21, n21⟩, -, X21, ⟨Lc21, hQ21, l21, y21, z21⟩, st21⟩ := Jvm.LawKit.callS X19 hx (y := (⟨"com/example/interpretant/interpretant/model/BlankNodeIsLetterPinLaw", "in", "(III)Z"⟩ : MethodName)) hown (mvT hZ (hw _ (List.mem_of_getElem? (i := 8) rfl))) (mvT hZ (hw _ (List.mem_of_getElem? (i := 9) rfl))) (mvT hZ (hw _ (List.mem_of_getElem? (i := 6) rfl))) (mvT hZ (hw _ (List.mem_of_getElem? (i := 10) rfl))) (by decide) (backOf (W := 0) (rmin3 l Z a0 hw [] p1 (12289 : Int32) (55295 : Int32) h0 n0 (Nat.le_trans Z0 Kh.1)) hZ (hw _ (List.mem_of_getElem? (i := 10) rfl)) (hw _ (List.mem_of_getElem? (i := 6) rfl)) (by decide) (by decide)) (g := (mkF m 132 #[.val (.int p1)] [(.int (55295 : Int32)), (.int (12289 : Int32)), (.int p1)])) rfl (by rw [hml]; rfl) (argsL := [(.int p1), (.int (12289 : Int32)), (.int (55295 : Int32))]) (rest := []) (lenOf pd_1 rfl) rfl (by show 2 * 0 + _ ≤ _; exact Nat.le_of_eq rfl) (hb hby d2_132) (fun _ _ => ⟨rfl, e19, (by decide : 0 + 0 ≤ _), (by decide : 0 + 0 ≤ _)⟩)
                      dsimp only [Pt.U, Pt.locs, Pt.cells, Pt.slots] at X21 l21 y21 z21 st21 hQ21
                      subst l21 y21 z21
                      obtain ⟨rfl, Nq21, e21⟩ := hQ21
                      have N21 := Fr.app N19 Nq21
                      refine own_go (st21) ?_
                      show own_R p e below _ T21 (mkF m 135 #[.val (.int p1)] [(.int (if (Int32.toInt (12289 : Int32) ≤ Int32.toInt p1 ∧ Int32.toInt p1 ≤ Int32.toInt (55295 : Int32)) then (1 : Int32) else (0 : Int32)))])
                      by_cases hc135_22 : (if (Int32.toInt (12289 : Int32) ≤ Int32.toInt p1 ∧ Int32.toInt p1 ≤ Int32.toInt (55295 : Int32)) then (1 : Int32) else (0 : Int32)) = (0 : Int32)
                      · -- pc 135: yes
                        refine own_go (fun t k => XS.ifNo X21.here hx rfl (hb hby d2_135) rfl ((if0 _ _).trans (teq hc135_22).2) k) ?_
                        show own_R p e below _ T21 (mkF m 138 #[.val (.int p1)] [])
                        refine own_go (fun t k => XS.iloadN X21.here hx rfl (hb hby d2_138) rfl  k) ?_
                        show own_R p e below _ T21 (mkF m 139 #[.val (.int p1)] [(.int p1)])
                        refine own_go (X21.ldcInt hx hown (mvT hZ (hw _ (List.mem_of_getElem? (i := 12) rfl))) (g := (mkF m 139 #[.val (.int p1)] [(.int p1)])) rfl (hb hby d2_139)) ?_
                        show own_R p e below _ T21 (mkF m 141 #[.val (.int p1)] [(.int (63744 : Int32)), (.int p1)])
                        refine own_go (X21.ldcInt hx hown (mvT hZ (hw _ (List.mem_of_getElem? (i := 13) rfl))) (g := (mkF m 141 #[.val (.int p1)] [(.int (63744 : Int32)), (.int p1)])) rfl (hb hby d2_141)) ?_
                        show own_R p e below _ T21 (mkF m 143 #[.val (.int p1)] [(.int (64975 : Int32)), (.int (63744 : Int32)), (.int p1)])
                        obtain ⟨_, _, ⟨T23, L23, k23, n23⟩, -, X23, ⟨Lc23, hQ23, l23, y23, z23⟩, st23⟩ := Jvm.LawKit.callS X21 hx (y := (⟨"com/example/interpretant/interpretant/model/BlankNodeIsLetterPinLaw", "in", "(III)Z"⟩ : MethodName)) hown (mvT hZ (hw _ (List.mem_of_getElem? (i := 8) rfl))) (mvT hZ (hw _ (List.mem_of_getElem? (i := 9) rfl))) (mvT hZ (hw _ (List.mem_of_getElem? (i := 6) rfl))) (mvT hZ (hw _ (List.mem_of_getElem? (i := 10) rfl))) (by decide) (backOf (W := 0) (rmin3 l Z a0 hw [] p1 (63744 : Int32) (64975 : Int32) h0 n0 (Nat.le_trans Z0 Kh.1)) hZ (hw _ (List.mem_of_getElem? (i := 10) rfl)) (hw _ (List.mem_of_getElem? (i := 6) rfl)) (by decide) (by decide)) (g := (mkF m 143 #[.val (.int p1)] [(.int (64975 : Int32)), (.int (63744 : Int32)), (.int p1)])) rfl (by rw [hml]; rfl) (argsL := [(.int p1), (.int (63744 : Int32)), (.int (64975 : Int32))]) (rest := []) (lenOf pd_1 rfl) rfl (by show 2 * 0 + _ ≤ _; exact Nat.le_of_eq rfl) (hb hby d2_143) (fun _ _ => ⟨rfl, e21, (by decide : 0 + 0 ≤ _), (by decide : 0 + 0 ≤ _)⟩)
                        dsimp only [Pt.U, Pt.locs, Pt.cells, Pt.slots] at X23 l23 y23 z23 st23 hQ23
                        subst l23 y23 z23
                        obtain ⟨rfl, Nq23, e23⟩ := hQ23
                        have N23 := Fr.app N21 Nq23
                        refine own_go (st23) ?_
                        show own_R p e below _ T23 (mkF m 146 #[.val (.int p1)] [(.int (if (Int32.toInt (63744 : Int32) ≤ Int32.toInt p1 ∧ Int32.toInt p1 ≤ Int32.toInt (64975 : Int32)) then (1 : Int32) else (0 : Int32)))])
                        by_cases hc146_24 : (if (Int32.toInt (63744 : Int32) ≤ Int32.toInt p1 ∧ Int32.toInt p1 ≤ Int32.toInt (64975 : Int32)) then (1 : Int32) else (0 : Int32)) = (0 : Int32)
                        · -- pc 146: yes
                          refine own_go (fun t k => XS.ifNo X23.here hx rfl (hb hby d2_146) rfl ((if0 _ _).trans (teq hc146_24).2) k) ?_
                          show own_R p e below _ T23 (mkF m 149 #[.val (.int p1)] [])
                          refine own_go (fun t k => XS.iloadN X23.here hx rfl (hb hby d2_149) rfl  k) ?_
                          show own_R p e below _ T23 (mkF m 150 #[.val (.int p1)] [(.int p1)])
                          refine own_go (X23.ldcInt hx hown (mvT hZ (hw _ (List.mem_of_getElem? (i := 14) rfl))) (g := (mkF m 150 #[.val (.int p1)] [(.int p1)])) rfl (hb hby d2_150)) ?_
                          show own_R p e below _ T23 (mkF m 152 #[.val (.int p1)] [(.int (65008 : Int32)), (.int p1)])
                          refine own_go (X23.ldcInt hx hown (mvT hZ (hw _ (List.mem_of_getElem? (i := 15) rfl))) (g := (mkF m 152 #[.val (.int p1)] [(.int (65008 : Int32)), (.int p1)])) rfl (hb hby d2_152)) ?_
                          show own_R p e below _ T23 (mkF m 154 #[.val (.int p1)] [(.int (65533 : Int32)), (.int (65008 : Int32)), (.int p1)])
                          obtain ⟨_, _, ⟨T25, L25, k25, n25⟩, -, X25, ⟨Lc25, hQ25, l25, y25, z25⟩, st25⟩ := Jvm.LawKit.callS X23 hx (y := (⟨"com/example/interpretant/interpretant/model/BlankNodeIsLetterPinLaw", "in", "(III)Z"⟩ : MethodName)) hown (mvT hZ (hw _ (List.mem_of_getElem? (i := 8) rfl))) (mvT hZ (hw _ (List.mem_of_getElem? (i := 9) rfl))) (mvT hZ (hw _ (List.mem_of_getElem? (i := 6) rfl))) (mvT hZ (hw _ (List.mem_of_getElem? (i := 10) rfl))) (by decide) (backOf (W := 0) (rmin3 l Z a0 hw [] p1 (65008 : Int32) (65533 : Int32) h0 n0 (Nat.le_trans Z0 Kh.1)) hZ (hw _ (List.mem_of_getElem? (i := 10) rfl)) (hw _ (List.mem_of_getElem? (i := 6) rfl)) (by decide) (by decide)) (g := (mkF m 154 #[.val (.int p1)] [(.int (65533 : Int32)), (.int (65008 : Int32)), (.int p1)])) rfl (by rw [hml]; rfl) (argsL := [(.int p1), (.int (65008 : Int32)), (.int (65533 : Int32))]) (rest := []) (lenOf pd_1 rfl) rfl (by show 2 * 0 + _ ≤ _; exact Nat.le_of_eq rfl) (hb hby d2_154) (fun _ _ => ⟨rfl, e23, (by decide : 0 + 0 ≤ _), (by decide : 0 + 0 ≤ _)⟩)
                          dsimp only [Pt.U, Pt.locs, Pt.cells, Pt.slots] at X25 l25 y25 z25 st25 hQ25
                          subst l25 y25 z25
                          obtain ⟨rfl, Nq25, e25⟩ := hQ25
                          have N25 := Fr.app N23 Nq25
                          refine own_go (st25) ?_
                          show own_R p e below _ T25 (mkF m 157 #[.val (.int p1)] [(.int (if (Int32.toInt (65008 : Int32) ≤ Int32.toInt p1 ∧ Int32.toInt p1 ≤ Int32.toInt (65533 : Int32)) then (1 : Int32) else (0 : Int32)))])
                          by_cases hc157_26 : (if (Int32.toInt (65008 : Int32) ≤ Int32.toInt p1 ∧ Int32.toInt p1 ≤ Int32.toInt (65533 : Int32)) then (1 : Int32) else (0 : Int32)) = (0 : Int32)
                          · -- pc 157: yes
                            refine own_go (fun t k => XS.ifNo X25.here hx rfl (hb hby d2_157) rfl ((if0 _ _).trans (teq hc157_26).2) k) ?_
                            show own_R p e below _ T25 (mkF m 160 #[.val (.int p1)] [])
                            refine own_go (fun t k => XS.iloadN X25.here hx rfl (hb hby d2_160) rfl  k) ?_
                            show own_R p e below _ T25 (mkF m 161 #[.val (.int p1)] [(.int p1)])
                            refine own_go (X25.ldcInt hx hown (mvT hZ (hw _ (List.mem_of_getElem? (i := 16) rfl))) (g := (mkF m 161 #[.val (.int p1)] [(.int p1)])) rfl (hb hby d2_161)) ?_
                            show own_R p e below _ T25 (mkF m 163 #[.val (.int p1)] [(.int (65536 : Int32)), (.int p1)])
                            refine own_go (X25.ldcInt hx hown (mvT hZ (hw _ (List.mem_of_getElem? (i := 17) rfl))) (g := (mkF m 163 #[.val (.int p1)] [(.int (65536 : Int32)), (.int p1)])) rfl (hb hby d2_163)) ?_
                            show own_R p e below _ T25 (mkF m 165 #[.val (.int p1)] [(.int (983039 : Int32)), (.int (65536 : Int32)), (.int p1)])
                            obtain ⟨_, _, ⟨T27, L27, k27, n27⟩, -, X27, ⟨Lc27, hQ27, l27, y27, z27⟩, st27⟩ := Jvm.LawKit.callS X25 hx (y := (⟨"com/example/interpretant/interpretant/model/BlankNodeIsLetterPinLaw", "in", "(III)Z"⟩ : MethodName)) hown (mvT hZ (hw _ (List.mem_of_getElem? (i := 8) rfl))) (mvT hZ (hw _ (List.mem_of_getElem? (i := 9) rfl))) (mvT hZ (hw _ (List.mem_of_getElem? (i := 6) rfl))) (mvT hZ (hw _ (List.mem_of_getElem? (i := 10) rfl))) (by decide) (backOf (W := 0) (rmin3 l Z a0 hw [] p1 (65536 : Int32) (983039 : Int32) h0 n0 (Nat.le_trans Z0 Kh.1)) hZ (hw _ (List.mem_of_getElem? (i := 10) rfl)) (hw _ (List.mem_of_getElem? (i := 6) rfl)) (by decide) (by decide)) (g := (mkF m 165 #[.val (.int p1)] [(.int (983039 : Int32)), (.int (65536 : Int32)), (.int p1)])) rfl (by rw [hml]; rfl) (argsL := [(.int p1), (.int (65536 : Int32)), (.int (983039 : Int32))]) (rest := []) (lenOf pd_1 rfl) rfl (by show 2 * 0 + _ ≤ _; exact Nat.le_of_eq rfl) (hb hby d2_165) (fun _ _ => ⟨rfl, e25, (by decide : 0 + 0 ≤ _), (by decide : 0 + 0 ≤ _)⟩)
                            dsimp only [Pt.U, Pt.locs, Pt.cells, Pt.slots] at X27 l27 y27 z27 st27 hQ27
                            subst l27 y27 z27
                            obtain ⟨rfl, Nq27, e27⟩ := hQ27
                            have N27 := Fr.app N25 Nq27
                            refine own_go (st27) ?_
                            show own_R p e below _ T27 (mkF m 168 #[.val (.int p1)] [(.int (if (Int32.toInt (65536 : Int32) ≤ Int32.toInt p1 ∧ Int32.toInt p1 ≤ Int32.toInt (983039 : Int32)) then (1 : Int32) else (0 : Int32)))])
                            by_cases hc168_28 : (if (Int32.toInt (65536 : Int32) ≤ Int32.toInt p1 ∧ Int32.toInt p1 ≤ Int32.toInt (983039 : Int32)) then (1 : Int32) else (0 : Int32)) = (0 : Int32)
                            · -- pc 168: yes
                              refine own_go (fun t k => XS.ifYes X27.here hx rfl (pc0 := 168) (pc' := 175) rfl (hb hby d2_168) rfl ((if0 _ _).trans (teq hc168_28).1) (by decide) (by decide) k) ?_
                              show own_R p e below _ T27 (mkF m 175 #[.val (.int p1)] [])
                              refine own_go (fun t k => XS.iconst X27.here hx rfl (hb hby d2_175) k) ?_
                              show own_R p e below _ T27 (mkF m 176 #[.val (.int p1)] [(.int (0 : Int32))])
                              refine own_retN X27 hx Bd.returns (by simp) (BodyLoose.notSynchronized Bd) (hb hby d2_176) (by decide) (by decide) ?_
                              have z29 : ¬ (65 ≤ p1.toInt ∧ p1.toInt ≤ 90) := own_if0 hc8_2
                              have z30 : ¬ (97 ≤ p1.toInt ∧ p1.toInt ≤ 122) := own_if0 hc19_4
                              have z31 : ¬ (192 ≤ p1.toInt ∧ p1.toInt ≤ 214) := own_if0 hc32_6
                              have z32 : ¬ (216 ≤ p1.toInt ∧ p1.toInt ≤ 246) := own_if0 hc45_8
                              have z33 : ¬ (248 ≤ p1.toInt ∧ p1.toInt ≤ 767) := own_if0 hc58_10
                              have z34 : ¬ (880 ≤ p1.toInt ∧ p1.toInt ≤ 893) := own_if0 hc71_12
                              have z35 : ¬ (895 ≤ p1.toInt ∧ p1.toInt ≤ 8191) := own_if0 hc84_14
                              have z36 : ¬ (8204 ≤ p1.toInt ∧ p1.toInt ≤ 8205) := own_if0 hc97_16
                              have z37 : ¬ (8304 ≤ p1.toInt ∧ p1.toInt ≤ 8591) := own_if0 hc110_18
                              have z38 : ¬ (11264 ≤ p1.toInt ∧ p1.toInt ≤ 12271) := own_if0 hc123_20
                              have z39 : ¬ (12289 ≤ p1.toInt ∧ p1.toInt ≤ 55295) := own_if0 hc135_22
                              have z40 : ¬ (63744 ≤ p1.toInt ∧ p1.toInt ≤ 64975) := own_if0 hc146_24
                              have z41 : ¬ (65008 ≤ p1.toInt ∧ p1.toInt ≤ 65533) := own_if0 hc157_26
                              have z42 : ¬ (65536 ≤ p1.toInt ∧ p1.toInt ≤ 983039) := own_if0 hc168_28
                              exact ⟨by rw [if_neg (by unfold own_l; omega)]; rfl, N27, e27⟩
                            · -- pc 168: no
                              refine own_go (fun t k => XS.ifNo X27.here hx rfl (hb hby d2_168) rfl ((if0 _ _).trans (feq hc168_28).1) k) ?_
                              show own_R p e below _ T27 (mkF m 171 #[.val (.int p1)] [])
                              refine own_go (fun t k => XS.iconst X27.here hx rfl (hb hby d2_171) k) ?_
                              show own_R p e below _ T27 (mkF m 172 #[.val (.int p1)] [(.int (1 : Int32))])
                              refine own_go (fun t k => XS.goto X27.here hx rfl (pc0 := 172) (pc' := 176) rfl (hb hby d2_172) (by decide) (by decide) k) ?_
                              show own_R p e below _ T27 (mkF m 176 #[.val (.int p1)] [(.int (1 : Int32))])
                              refine own_retN X27 hx Bd.returns (by simp) (BodyLoose.notSynchronized Bd) (hb hby d2_176) (by decide) (by decide) ?_
                              have z43 : ¬ (65 ≤ p1.toInt ∧ p1.toInt ≤ 90) := own_if0 hc8_2
                              have z44 : ¬ (97 ≤ p1.toInt ∧ p1.toInt ≤ 122) := own_if0 hc19_4
                              have z45 : ¬ (192 ≤ p1.toInt ∧ p1.toInt ≤ 214) := own_if0 hc32_6
                              have z46 : ¬ (216 ≤ p1.toInt ∧ p1.toInt ≤ 246) := own_if0 hc45_8
                              have z47 : ¬ (248 ≤ p1.toInt ∧ p1.toInt ≤ 767) := own_if0 hc58_10
                              have z48 : ¬ (880 ≤ p1.toInt ∧ p1.toInt ≤ 893) := own_if0 hc71_12
                              have z49 : ¬ (895 ≤ p1.toInt ∧ p1.toInt ≤ 8191) := own_if0 hc84_14
                              have z50 : ¬ (8204 ≤ p1.toInt ∧ p1.toInt ≤ 8205) := own_if0 hc97_16
                              have z51 : ¬ (8304 ≤ p1.toInt ∧ p1.toInt ≤ 8591) := own_if0 hc110_18
                              have z52 : ¬ (11264 ≤ p1.toInt ∧ p1.toInt ≤ 12271) := own_if0 hc123_20
                              have z53 : ¬ (12289 ≤ p1.toInt ∧ p1.toInt ≤ 55295) := own_if0 hc135_22
                              have z54 : ¬ (63744 ≤ p1.toInt ∧ p1.toInt ≤ 64975) := own_if0 hc146_24
                              have z55 : ¬ (65008 ≤ p1.toInt ∧ p1.toInt ≤ 65533) := own_if0 hc157_26
                              have z56 : (65536 ≤ p1.toInt ∧ p1.toInt ≤ 983039) := own_if1 hc168_28
                              exact ⟨by rw [if_pos (by unfold own_l; omega)]; rfl, N27, e27⟩
                          · -- pc 157: no
                            refine own_go (fun t k => XS.ifYes X25.here hx rfl (pc0 := 157) (pc' := 171) rfl (hb hby d2_157) rfl ((if0 _ _).trans (feq hc157_26).2) (by decide) (by decide) k) ?_
                            show own_R p e below _ T25 (mkF m 171 #[.val (.int p1)] [])
                            refine own_go (fun t k => XS.iconst X25.here hx rfl (hb hby d2_171) k) ?_
                            show own_R p e below _ T25 (mkF m 172 #[.val (.int p1)] [(.int (1 : Int32))])
                            refine own_go (fun t k => XS.goto X25.here hx rfl (pc0 := 172) (pc' := 176) rfl (hb hby d2_172) (by decide) (by decide) k) ?_
                            show own_R p e below _ T25 (mkF m 176 #[.val (.int p1)] [(.int (1 : Int32))])
                            refine own_retN X25 hx Bd.returns (by simp) (BodyLoose.notSynchronized Bd) (hb hby d2_176) (by decide) (by decide) ?_
                            have z57 : ¬ (65 ≤ p1.toInt ∧ p1.toInt ≤ 90) := own_if0 hc8_2
                            have z58 : ¬ (97 ≤ p1.toInt ∧ p1.toInt ≤ 122) := own_if0 hc19_4
                            have z59 : ¬ (192 ≤ p1.toInt ∧ p1.toInt ≤ 214) := own_if0 hc32_6
                            have z60 : ¬ (216 ≤ p1.toInt ∧ p1.toInt ≤ 246) := own_if0 hc45_8
                            have z61 : ¬ (248 ≤ p1.toInt ∧ p1.toInt ≤ 767) := own_if0 hc58_10
                            have z62 : ¬ (880 ≤ p1.toInt ∧ p1.toInt ≤ 893) := own_if0 hc71_12
                            have z63 : ¬ (895 ≤ p1.toInt ∧ p1.toInt ≤ 8191) := own_if0 hc84_14
                            have z64 : ¬ (8204 ≤ p1.toInt ∧ p1.toInt ≤ 8205) := own_if0 hc97_16
                            have z65 : ¬ (8304 ≤ p1.toInt ∧ p1.toInt ≤ 8591) := own_if0 hc110_18
                            have z66 : ¬ (11264 ≤ p1.toInt ∧ p1.toInt ≤ 12271) := own_if0 hc123_20
                            have z67 : ¬ (12289 ≤ p1.toInt ∧ p1.toInt ≤ 55295) := own_if0 hc135_22
                            have z68 : ¬ (63744 ≤ p1.toInt ∧ p1.toInt ≤ 64975) := own_if0 hc146_24
                            have z69 : (65008 ≤ p1.toInt ∧ p1.toInt ≤ 65533) := own_if1 hc157_26
                            exact ⟨by rw [if_pos (by unfold own_l; omega)]; rfl, N25, e25⟩
                        · -- pc 146: no
                          refine own_go (fun t k => XS.ifYes X23.here hx rfl (pc0 := 146) (pc' := 171) rfl (hb hby d2_146) rfl ((if0 _ _).trans (feq hc146_24).2) (by decide) (by decide) k) ?_
                          show own_R p e below _ T23 (mkF m 171 #[.val (.int p1)] [])
                          refine own_go (fun t k => XS.iconst X23.here hx rfl (hb hby d2_171) k) ?_
                          show own_R p e below _ T23 (mkF m 172 #[.val (.int p1)] [(.int (1 : Int32))])
                          refine own_go (fun t k => XS.goto X23.here hx rfl (pc0 := 172) (pc' := 176) rfl (hb hby d2_172) (by decide) (by decide) k) ?_
                          show own_R p e below _ T23 (mkF m 176 #[.val (.int p1)] [(.int (1 : Int32))])
                          refine own_retN X23 hx Bd.returns (by simp) (BodyLoose.notSynchronized Bd) (hb hby d2_176) (by decide) (by decide) ?_
                          have z70 : ¬ (65 ≤ p1.toInt ∧ p1.toInt ≤ 90) := own_if0 hc8_2
                          have z71 : ¬ (97 ≤ p1.toInt ∧ p1.toInt ≤ 122) := own_if0 hc19_4
                          have z72 : ¬ (192 ≤ p1.toInt ∧ p1.toInt ≤ 214) := own_if0 hc32_6
                          have z73 : ¬ (216 ≤ p1.toInt ∧ p1.toInt ≤ 246) := own_if0 hc45_8
                          have z74 : ¬ (248 ≤ p1.toInt ∧ p1.toInt ≤ 767) := own_if0 hc58_10
                          have z75 : ¬ (880 ≤ p1.toInt ∧ p1.toInt ≤ 893) := own_if0 hc71_12
                          have z76 : ¬ (895 ≤ p1.toInt ∧ p1.toInt ≤ 8191) := own_if0 hc84_14
                          have z77 : ¬ (8204 ≤ p1.toInt ∧ p1.toInt ≤ 8205) := own_if0 hc97_16
                          have z78 : ¬ (8304 ≤ p1.toInt ∧ p1.toInt ≤ 8591) := own_if0 hc110_18
                          have z79 : ¬ (11264 ≤ p1.toInt ∧ p1.toInt ≤ 12271) := own_if0 hc123_20
                          have z80 : ¬ (12289 ≤ p1.toInt ∧ p1.toInt ≤ 55295) := own_if0 hc135_22
                          have z81 : (63744 ≤ p1.toInt ∧ p1.toInt ≤ 64975) := own_if1 hc146_24
                          exact ⟨by rw [if_pos (by unfold own_l; omega)]; rfl, N23, e23⟩
                      · -- pc 135: no
                        refine own_go (fun t k => XS.ifYes X21.here hx rfl (pc0 := 135) (pc' := 171) rfl (hb hby d2_135) rfl ((if0 _ _).trans (feq hc135_22).2) (by decide) (by decide) k) ?_
                        show own_R p e below _ T21 (mkF m 171 #[.val (.int p1)] [])
                        refine own_go (fun t k => XS.iconst X21.here hx rfl (hb hby d2_171) k) ?_
                        show own_R p e below _ T21 (mkF m 172 #[.val (.int p1)] [(.int (1 : Int32))])
                        refine own_go (fun t k => XS.goto X21.here hx rfl (pc0 := 172) (pc' := 176) rfl (hb hby d2_172) (by decide) (by decide) k) ?_
                        show own_R p e below _ T21 (mkF m 176 #[.val (.int p1)] [(.int (1 : Int32))])
                        refine own_retN X21 hx Bd.returns (by simp) (BodyLoose.notSynchronized Bd) (hb hby d2_176) (by decide) (by decide) ?_
                        have z82 : ¬ (65 ≤ p1.toInt ∧ p1.toInt ≤ 90) := own_if0 hc8_2
                        have z83 : ¬ (97 ≤ p1.toInt ∧ p1.toInt ≤ 122) := own_if0 hc19_4
                        have z84 : ¬ (192 ≤ p1.toInt ∧ p1.toInt ≤ 214) := own_if0 hc32_6
                        have z85 : ¬ (216 ≤ p1.toInt ∧ p1.toInt ≤ 246) := own_if0 hc45_8
                        have z86 : ¬ (248 ≤ p1.toInt ∧ p1.toInt ≤ 767) := own_if0 hc58_10
                        have z87 : ¬ (880 ≤ p1.toInt ∧ p1.toInt ≤ 893) := own_if0 hc71_12
                        have z88 : ¬ (895 ≤ p1.toInt ∧ p1.toInt ≤ 8191) := own_if0 hc84_14
                        have z89 : ¬ (8204 ≤ p1.toInt ∧ p1.toInt ≤ 8205) := own_if0 hc97_16
                        have z90 : ¬ (8304 ≤ p1.toInt ∧ p1.toInt ≤ 8591) := own_if0 hc110_18
                        have z91 : ¬ (11264 ≤ p1.toInt ∧ p1.toInt ≤ 12271) := own_if0 hc123_20
                        have z92 : (12289 ≤ p1.toInt ∧ p1.toInt ≤ 55295) := own_if1 hc135_22
                        exact ⟨by rw [if_pos (by unfold own_l; omega)]; rfl, N21, e21⟩
                    · -- pc 123: no
                      refine own_go (fun t k => XS.ifYes X19.here hx rfl (pc0 := 123) (pc' := 171) rfl (hb hby d2_123) rfl ((if0 _ _).trans (feq hc123_20).2) (by decide) (by decide) k) ?_
                      show own_R p e below _ T19 (mkF m 171 #[.val (.int p1)] [])
                      refine own_go (fun t k => XS.iconst X19.here hx rfl (hb hby d2_171) k) ?_
                      show own_R p e below _ T19 (mkF m 172 #[.val (.int p1)] [(.int (1 : Int32))])
                      refine own_go (fun t k => XS.goto X19.here hx rfl (pc0 := 172) (pc' := 176) rfl (hb hby d2_172) (by decide) (by decide) k) ?_
                      show own_R p e below _ T19 (mkF m 176 #[.val (.int p1)] [(.int (1 : Int32))])
                      refine own_retN X19 hx Bd.returns (by simp) (BodyLoose.notSynchronized Bd) (hb hby d2_176) (by decide) (by decide) ?_
                      have z93 : ¬ (65 ≤ p1.toInt ∧ p1.toInt ≤ 90) := own_if0 hc8_2
                      have z94 : ¬ (97 ≤ p1.toInt ∧ p1.toInt ≤ 122) := own_if0 hc19_4
                      have z95 : ¬ (192 ≤ p1.toInt ∧ p1.toInt ≤ 214) := own_if0 hc32_6
                      have z96 : ¬ (216 ≤ p1.toInt ∧ p1.toInt ≤ 246) := own_if0 hc45_8
                      have z97 : ¬ (248 ≤ p1.toInt ∧ p1.toInt ≤ 767) := own_if0 hc58_10
                      have z98 : ¬ (880 ≤ p1.toInt ∧ p1.toInt ≤ 893) := own_if0 hc71_12
                      have z99 : ¬ (895 ≤ p1.toInt ∧ p1.toInt ≤ 8191) := own_if0 hc84_14
                      have z100 : ¬ (8204 ≤ p1.toInt ∧ p1.toInt ≤ 8205) := own_if0 hc97_16
                      have z101 : ¬ (8304 ≤ p1.toInt ∧ p1.toInt ≤ 8591) := own_if0 hc110_18
                      have z102 : (11264 ≤ p1.toInt ∧ p1.toInt ≤ 12271) := own_if1 hc123_20
                      exact ⟨by rw [if_pos (by unfold own_l; omega)]; rfl, N19, e19⟩
                  · -- pc 110: no
                    refine own_go (fun t k => XS.ifYes X17.here hx rfl (pc0 := 110) (pc' := 171) rfl (hb hby d2_110) rfl ((if0 _ _).trans (feq hc110_18).2) (by decide) (by decide) k) ?_
                    show own_R p e below _ T17 (mkF m 171 #[.val (.int p1)] [])
                    refine own_go (fun t k => XS.iconst X17.here hx rfl (hb hby d2_171) k) ?_
                    show own_R p e below _ T17 (mkF m 172 #[.val (.int p1)] [(.int (1 : Int32))])
                    refine own_go (fun t k => XS.goto X17.here hx rfl (pc0 := 172) (pc' := 176) rfl (hb hby d2_172) (by decide) (by decide) k) ?_
                    show own_R p e below _ T17 (mkF m 176 #[.val (.int p1)] [(.int (1 : Int32))])
                    refine own_retN X17 hx Bd.returns (by simp) (BodyLoose.notSynchronized Bd) (hb hby d2_176) (by decide) (by decide) ?_
                    have z103 : ¬ (65 ≤ p1.toInt ∧ p1.toInt ≤ 90) := own_if0 hc8_2
                    have z104 : ¬ (97 ≤ p1.toInt ∧ p1.toInt ≤ 122) := own_if0 hc19_4
                    have z105 : ¬ (192 ≤ p1.toInt ∧ p1.toInt ≤ 214) := own_if0 hc32_6
                    have z106 : ¬ (216 ≤ p1.toInt ∧ p1.toInt ≤ 246) := own_if0 hc45_8
                    have z107 : ¬ (248 ≤ p1.toInt ∧ p1.toInt ≤ 767) := own_if0 hc58_10
                    have z108 : ¬ (880 ≤ p1.toInt ∧ p1.toInt ≤ 893) := own_if0 hc71_12
                    have z109 : ¬ (895 ≤ p1.toInt ∧ p1.toInt ≤ 8191) := own_if0 hc84_14
                    have z110 : ¬ (8204 ≤ p1.toInt ∧ p1.toInt ≤ 8205) := own_if0 hc97_16
                    have z111 : (8304 ≤ p1.toInt ∧ p1.toInt ≤ 8591) := own_if1 hc110_18
                    exact ⟨by rw [if_pos (by unfold own_l; omega)]; rfl, N17, e17⟩
                · -- pc 97: no
                  refine own_go (fun t k => XS.ifYes X15.here hx rfl (pc0 := 97) (pc' := 171) rfl (hb hby d2_97) rfl ((if0 _ _).trans (feq hc97_16).2) (by decide) (by decide) k) ?_
                  show own_R p e below _ T15 (mkF m 171 #[.val (.int p1)] [])
                  refine own_go (fun t k => XS.iconst X15.here hx rfl (hb hby d2_171) k) ?_
                  show own_R p e below _ T15 (mkF m 172 #[.val (.int p1)] [(.int (1 : Int32))])
                  refine own_go (fun t k => XS.goto X15.here hx rfl (pc0 := 172) (pc' := 176) rfl (hb hby d2_172) (by decide) (by decide) k) ?_
                  show own_R p e below _ T15 (mkF m 176 #[.val (.int p1)] [(.int (1 : Int32))])
                  refine own_retN X15 hx Bd.returns (by simp) (BodyLoose.notSynchronized Bd) (hb hby d2_176) (by decide) (by decide) ?_
                  have z112 : ¬ (65 ≤ p1.toInt ∧ p1.toInt ≤ 90) := own_if0 hc8_2
                  have z113 : ¬ (97 ≤ p1.toInt ∧ p1.toInt ≤ 122) := own_if0 hc19_4
                  have z114 : ¬ (192 ≤ p1.toInt ∧ p1.toInt ≤ 214) := own_if0 hc32_6
                  have z115 : ¬ (216 ≤ p1.toInt ∧ p1.toInt ≤ 246) := own_if0 hc45_8
                  have z116 : ¬ (248 ≤ p1.toInt ∧ p1.toInt ≤ 767) := own_if0 hc58_10
                  have z117 : ¬ (880 ≤ p1.toInt ∧ p1.toInt ≤ 893) := own_if0 hc71_12
                  have z118 : ¬ (895 ≤ p1.toInt ∧ p1.toInt ≤ 8191) := own_if0 hc84_14
                  have z119 : (8204 ≤ p1.toInt ∧ p1.toInt ≤ 8205) := own_if1 hc97_16
                  exact ⟨by rw [if_pos (by unfold own_l; omega)]; rfl, N15, e15⟩
              · -- pc 84: no
                refine own_go (fun t k => XS.ifYes X13.here hx rfl (pc0 := 84) (pc' := 171) rfl (hb hby d2_84) rfl ((if0 _ _).trans (feq hc84_14).2) (by decide) (by decide) k) ?_
                show own_R p e below _ T13 (mkF m 171 #[.val (.int p1)] [])
                refine own_go (fun t k => XS.iconst X13.here hx rfl (hb hby d2_171) k) ?_
                show own_R p e below _ T13 (mkF m 172 #[.val (.int p1)] [(.int (1 : Int32))])
                refine own_go (fun t k => XS.goto X13.here hx rfl (pc0 := 172) (pc' := 176) rfl (hb hby d2_172) (by decide) (by decide) k) ?_
                show own_R p e below _ T13 (mkF m 176 #[.val (.int p1)] [(.int (1 : Int32))])
                refine own_retN X13 hx Bd.returns (by simp) (BodyLoose.notSynchronized Bd) (hb hby d2_176) (by decide) (by decide) ?_
                have z120 : ¬ (65 ≤ p1.toInt ∧ p1.toInt ≤ 90) := own_if0 hc8_2
                have z121 : ¬ (97 ≤ p1.toInt ∧ p1.toInt ≤ 122) := own_if0 hc19_4
                have z122 : ¬ (192 ≤ p1.toInt ∧ p1.toInt ≤ 214) := own_if0 hc32_6
                have z123 : ¬ (216 ≤ p1.toInt ∧ p1.toInt ≤ 246) := own_if0 hc45_8
                have z124 : ¬ (248 ≤ p1.toInt ∧ p1.toInt ≤ 767) := own_if0 hc58_10
                have z125 : ¬ (880 ≤ p1.toInt ∧ p1.toInt ≤ 893) := own_if0 hc71_12
                have z126 : (895 ≤ p1.toInt ∧ p1.toInt ≤ 8191) := own_if1 hc84_14
                exact ⟨by rw [if_pos (by unfold own_l; omega)]; rfl, N13, e13⟩
            · -- pc 71: no
              refine own_go (fun t k => XS.ifYes X11.here hx rfl (pc0 := 71) (pc' := 171) rfl (hb hby d2_71) rfl ((if0 _ _).trans (feq hc71_12).2) (by decide) (by decide) k) ?_
              show own_R p e below _ T11 (mkF m 171 #[.val (.int p1)] [])
              refine own_go (fun t k => XS.iconst X11.here hx rfl (hb hby d2_171) k) ?_
              show own_R p e below _ T11 (mkF m 172 #[.val (.int p1)] [(.int (1 : Int32))])
              refine own_go (fun t k => XS.goto X11.here hx rfl (pc0 := 172) (pc' := 176) rfl (hb hby d2_172) (by decide) (by decide) k) ?_
              show own_R p e below _ T11 (mkF m 176 #[.val (.int p1)] [(.int (1 : Int32))])
              refine own_retN X11 hx Bd.returns (by simp) (BodyLoose.notSynchronized Bd) (hb hby d2_176) (by decide) (by decide) ?_
              have z127 : ¬ (65 ≤ p1.toInt ∧ p1.toInt ≤ 90) := own_if0 hc8_2
              have z128 : ¬ (97 ≤ p1.toInt ∧ p1.toInt ≤ 122) := own_if0 hc19_4
              have z129 : ¬ (192 ≤ p1.toInt ∧ p1.toInt ≤ 214) := own_if0 hc32_6
              have z130 : ¬ (216 ≤ p1.toInt ∧ p1.toInt ≤ 246) := own_if0 hc45_8
              have z131 : ¬ (248 ≤ p1.toInt ∧ p1.toInt ≤ 767) := own_if0 hc58_10
              have z132 : (880 ≤ p1.toInt ∧ p1.toInt ≤ 893) := own_if1 hc71_12
              exact ⟨by rw [if_pos (by unfold own_l; omega)]; rfl, N11, e11⟩
          · -- pc 58: no
            refine own_go (fun t k => XS.ifYes X9.here hx rfl (pc0 := 58) (pc' := 171) rfl (hb hby d2_58) rfl ((if0 _ _).trans (feq hc58_10).2) (by decide) (by decide) k) ?_
            show own_R p e below _ T9 (mkF m 171 #[.val (.int p1)] [])
            refine own_go (fun t k => XS.iconst X9.here hx rfl (hb hby d2_171) k) ?_
            show own_R p e below _ T9 (mkF m 172 #[.val (.int p1)] [(.int (1 : Int32))])
            refine own_go (fun t k => XS.goto X9.here hx rfl (pc0 := 172) (pc' := 176) rfl (hb hby d2_172) (by decide) (by decide) k) ?_
            show own_R p e below _ T9 (mkF m 176 #[.val (.int p1)] [(.int (1 : Int32))])
            refine own_retN X9 hx Bd.returns (by simp) (BodyLoose.notSynchronized Bd) (hb hby d2_176) (by decide) (by decide) ?_
            have z133 : ¬ (65 ≤ p1.toInt ∧ p1.toInt ≤ 90) := own_if0 hc8_2
            have z134 : ¬ (97 ≤ p1.toInt ∧ p1.toInt ≤ 122) := own_if0 hc19_4
            have z135 : ¬ (192 ≤ p1.toInt ∧ p1.toInt ≤ 214) := own_if0 hc32_6
            have z136 : ¬ (216 ≤ p1.toInt ∧ p1.toInt ≤ 246) := own_if0 hc45_8
            have z137 : (248 ≤ p1.toInt ∧ p1.toInt ≤ 767) := own_if1 hc58_10
            exact ⟨by rw [if_pos (by unfold own_l; omega)]; rfl, N9, e9⟩
        · -- pc 45: no
          refine own_go (fun t k => XS.ifYes X7.here hx rfl (pc0 := 45) (pc' := 171) rfl (hb hby d2_45) rfl ((if0 _ _).trans (feq hc45_8).2) (by decide) (by decide) k) ?_
          show own_R p e below _ T7 (mkF m 171 #[.val (.int p1)] [])
          refine own_go (fun t k => XS.iconst X7.here hx rfl (hb hby d2_171) k) ?_
          show own_R p e below _ T7 (mkF m 172 #[.val (.int p1)] [(.int (1 : Int32))])
          refine own_go (fun t k => XS.goto X7.here hx rfl (pc0 := 172) (pc' := 176) rfl (hb hby d2_172) (by decide) (by decide) k) ?_
          show own_R p e below _ T7 (mkF m 176 #[.val (.int p1)] [(.int (1 : Int32))])
          refine own_retN X7 hx Bd.returns (by simp) (BodyLoose.notSynchronized Bd) (hb hby d2_176) (by decide) (by decide) ?_
          have z138 : ¬ (65 ≤ p1.toInt ∧ p1.toInt ≤ 90) := own_if0 hc8_2
          have z139 : ¬ (97 ≤ p1.toInt ∧ p1.toInt ≤ 122) := own_if0 hc19_4
          have z140 : ¬ (192 ≤ p1.toInt ∧ p1.toInt ≤ 214) := own_if0 hc32_6
          have z141 : (216 ≤ p1.toInt ∧ p1.toInt ≤ 246) := own_if1 hc45_8
          exact ⟨by rw [if_pos (by unfold own_l; omega)]; rfl, N7, e7⟩
      · -- pc 32: no
        refine own_go (fun t k => XS.ifYes X5.here hx rfl (pc0 := 32) (pc' := 171) rfl (hb hby d2_32) rfl ((if0 _ _).trans (feq hc32_6).2) (by decide) (by decide) k) ?_
        show own_R p e below _ T5 (mkF m 171 #[.val (.int p1)] [])
        refine own_go (fun t k => XS.iconst X5.here hx rfl (hb hby d2_171) k) ?_
        show own_R p e below _ T5 (mkF m 172 #[.val (.int p1)] [(.int (1 : Int32))])
        refine own_go (fun t k => XS.goto X5.here hx rfl (pc0 := 172) (pc' := 176) rfl (hb hby d2_172) (by decide) (by decide) k) ?_
        show own_R p e below _ T5 (mkF m 176 #[.val (.int p1)] [(.int (1 : Int32))])
        refine own_retN X5 hx Bd.returns (by simp) (BodyLoose.notSynchronized Bd) (hb hby d2_176) (by decide) (by decide) ?_
        have z142 : ¬ (65 ≤ p1.toInt ∧ p1.toInt ≤ 90) := own_if0 hc8_2
        have z143 : ¬ (97 ≤ p1.toInt ∧ p1.toInt ≤ 122) := own_if0 hc19_4
        have z144 : (192 ≤ p1.toInt ∧ p1.toInt ≤ 214) := own_if1 hc32_6
        exact ⟨by rw [if_pos (by unfold own_l; omega)]; rfl, N5, e5⟩
    · -- pc 19: no
      refine own_go (fun t k => XS.ifYes X3.here hx rfl (pc0 := 19) (pc' := 171) rfl (hb hby d2_19) rfl ((if0 _ _).trans (feq hc19_4).2) (by decide) (by decide) k) ?_
      show own_R p e below _ T3 (mkF m 171 #[.val (.int p1)] [])
      refine own_go (fun t k => XS.iconst X3.here hx rfl (hb hby d2_171) k) ?_
      show own_R p e below _ T3 (mkF m 172 #[.val (.int p1)] [(.int (1 : Int32))])
      refine own_go (fun t k => XS.goto X3.here hx rfl (pc0 := 172) (pc' := 176) rfl (hb hby d2_172) (by decide) (by decide) k) ?_
      show own_R p e below _ T3 (mkF m 176 #[.val (.int p1)] [(.int (1 : Int32))])
      refine own_retN X3 hx Bd.returns (by simp) (BodyLoose.notSynchronized Bd) (hb hby d2_176) (by decide) (by decide) ?_
      have z145 : ¬ (65 ≤ p1.toInt ∧ p1.toInt ≤ 90) := own_if0 hc8_2
      have z146 : (97 ≤ p1.toInt ∧ p1.toInt ≤ 122) := own_if1 hc19_4
      exact ⟨by rw [if_pos (by unfold own_l; omega)]; rfl, N3, e3⟩
  · -- pc 8: no
    refine own_go (fun t k => XS.ifYes X1.here hx rfl (pc0 := 8) (pc' := 171) rfl (hb hby d2_8) rfl ((if0 _ _).trans (feq hc8_2).2) (by decide) (by decide) k) ?_
    show own_R p e below _ T1 (mkF m 171 #[.val (.int p1)] [])
    refine own_go (fun t k => XS.iconst X1.here hx rfl (hb hby d2_171) k) ?_
    show own_R p e below _ T1 (mkF m 172 #[.val (.int p1)] [(.int (1 : Int32))])
    refine own_go (fun t k => XS.goto X1.here hx rfl (pc0 := 172) (pc' := 176) rfl (hb hby d2_172) (by decide) (by decide) k) ?_
    show own_R p e below _ T1 (mkF m 176 #[.val (.int p1)] [(.int (1 : Int32))])
    refine own_retN X1 hx Bd.returns (by simp) (BodyLoose.notSynchronized Bd) (hb hby d2_176) (by decide) (by decide) ?_
    have z147 : (65 ≤ p1.toInt ∧ p1.toInt ≤ 90) := own_if1 hc8_2
    exact ⟨by rw [if_pos (by unfold own_l; omega)]; rfl, N1, e1⟩
theorem ef_0 (m : MethodId) (x0 : Int32) : entryFrame m #[(.int x0)] maxLocals = mkF m 0 #[.val (.int x0)] [] := by first | (simp [entryFrame, mkF, argsToLocals, Value.category, maxLocals]; done) | rfl
def Q0 (Z : State) (p1 : Int32) (w : Addr) (kw : ClassId) (h0 : Heap) (n0 : Nat) (v : Option Value) (h : Heap) (L : List Loc) : Prop := v = some (.int (1 : Int32)) ∧ Fr n0 L
set_option maxRecDepth 65536 in
set_option maxHeartbeats 40000000 in
theorem rm0 (l : Launch) (Z : State) (a0 : Array Value) (hw : ∀ d ∈ tables_1, d.before a0 Z = true) (ws : List Jvm.Cond) (p1 : Int32) (w : Addr) (kw : ClassId) (h0 : Heap) (n0 : Nat) (Z0 : n0 ≤ h0.size) (V_w : Arv Z h0 w kw .int (28 : Int32) [(.int (65 : Int32)), (.int (90 : Int32)), (.int (97 : Int32)), (.int (122 : Int32)), (.int (192 : Int32)), (.int (214 : Int32)), (.int (216 : Int32)), (.int (246 : Int32)), (.int (248 : Int32)), (.int (767 : Int32)), (.int (880 : Int32)), (.int (893 : Int32)), (.int (895 : Int32)), (.int (8191 : Int32)), (.int (8204 : Int32)), (.int (8205 : Int32)), (.int (8304 : Int32)), (.int (8591 : Int32)), (.int (11264 : Int32)), (.int (12271 : Int32)), (.int (12289 : Int32)), (.int (55295 : Int32)), (.int (63744 : Int32)), (.int (64975 : Int32)), (.int (65008 : Int32)), (.int (65533 : Int32)), (.int (65536 : Int32)), (.int (983039 : Int32))] (.int (0 : Int32))) (S_LETTERS : Sta Z h0 "com/example/interpretant/interpretant/model/BlankNode" "LETTERS" "[I" (.ref w)) :
    MetFree l x (head1 (Jvm.Cond.code x code maxLocals ret :: ws) room_1) (fun aS U => aS = #[(.int p1)] ∧ Z.Warmed39 U.vm ∧ U.heap = h0) (fun _ _ _ _ _ => True) (fun _ U o U' => ∃ v L, o = .returned v ∧ Q0 Z p1 w kw h0 n0 v U'.heap L ∧ FrameEnd U o U' L room_1.cells room_1.slots) := by
  refine MetFree.of_bodySF (plainFor_of_name pn_1) hisR ?_
  intro p e s m args below meth c s₁ Bd hml0 hP hK
  obtain ⟨rfl, hZ, hh⟩ := hP
  have hx := Bd.exec
  have hby := Bd.bytes
  have hml : c.maxLocals = 1 := hml0
  have hown : s.vm.findClass "com/example/interpretant/interpretant/model/BlankNodeIsLetterPinLaw" = some m.cls := findClass_of_methodNamed Bd.named
  have hnm := (name_of_methodNamed Bd.named Bd.method).1
  have X0 : Stand p l e room_1 s m #[(.int p1)] below meth c s₁ [] 0 0 := Stand.of_body Bd
  have e0 : s₁.heap = h0 := by rw [← hh, Bd.state]; rfl
  have N0 := Fr.nil n0
  have Kh : Keep h0 h0 [] := Keep.refl _ _
  suffices H : own_R p e below (own_E s below (Q0 Z p1 w kw h0 n0) room_1.cells room_1.slots) s₁ (mkF m 0 #[.val (.int p1)] []) by
    obtain ⟨t, hst, hrun, v, L, hend, hQ, hF⟩ := H
    exact ⟨t, _, castTop (ef_0 m p1) hst, hrun, hend, v, L, rfl, hQ, hF⟩
  show own_R p e below _ s₁ (mkF m 0 #[.val (.int p1)] [])
  refine own_go (fun t k => XS.iloadN X0.here hx rfl (hb hby at_0) rfl  k) ?_
  show own_R p e below _ s₁ (mkF m 1 #[.val (.int p1)] [(.int p1)])
  obtain ⟨_, _, ⟨T1, L1, k1, n1⟩, -, X1, ⟨Lc1, hQ1, l1, y1, z1⟩, st1⟩ := Jvm.LawKit.callS X0 hx (y := (⟨"com/example/interpretant/interpretant/model/BlankNode", "isLetter", "(I)Z"⟩ : MethodName)) hown (mvT hZ (hw _ (List.mem_of_getElem? (i := 0) rfl))) (mvT hZ (hw _ (List.mem_of_getElem? (i := 1) rfl))) (mvT hZ (hw _ (List.mem_of_getElem? (i := 2) rfl))) (mvT hZ (hw _ (List.mem_of_getElem? (i := 3) rfl))) (by decide) (backOf (W := 0) (rmisl l Z a0 hw [] p1 w kw h0 n0 (Nat.le_trans Z0 Kh.1) V_w S_LETTERS) hZ (hw _ (List.mem_of_getElem? (i := 3) rfl)) (hw _ (List.mem_of_getElem? (i := 2) rfl)) (by decide) (by decide)) (g := (mkF m 1 #[.val (.int p1)] [(.int p1)])) rfl (by rw [hml]; rfl) (argsL := [(.int p1)]) (rest := []) (lenOf pd_0 rfl) rfl (by show 2 * 0 + _ ≤ _; exact Nat.le_of_eq rfl) (hb hby at_1) (fun _ _ => ⟨rfl, e0, (by decide : 0 + 0 ≤ _), (by decide : 0 + 0 ≤ _)⟩)
  dsimp only [Pt.U, Pt.locs, Pt.cells, Pt.slots] at X1 l1 y1 z1 st1 hQ1
  subst l1 y1 z1
  obtain ⟨rfl, Nq1, e1⟩ := hQ1
  have N1 := Fr.app N0 Nq1
  refine own_go (st1) ?_
  show own_R p e below _ T1 (mkF m 4 #[.val (.int p1)] [(.int (if own_l (Int32.toInt p1) then (1 : Int32) else (0 : Int32)))])
  refine own_go (fun t k => XS.iloadN X1.here hx rfl (hb hby at_4) rfl  k) ?_
  show own_R p e below _ T1 (mkF m 5 #[.val (.int p1)] [(.int p1), (.int (if own_l (Int32.toInt p1) then (1 : Int32) else (0 : Int32)))])
  obtain ⟨_, _, ⟨T2, L2, k2, n2⟩, -, X2, ⟨Lc2, hQ2, l2, y2, z2⟩, st2⟩ := Jvm.LawKit.callS X1 hx (y := (⟨"com/example/interpretant/interpretant/model/BlankNodeIsLetterPinLaw", "reference", "(I)Z"⟩ : MethodName)) hown (mvT hZ (hw _ (List.mem_of_getElem? (i := 4) rfl))) (mvT hZ (hw _ (List.mem_of_getElem? (i := 5) rfl))) (mvT hZ (hw _ (List.mem_of_getElem? (i := 6) rfl))) (mvT hZ (hw _ (List.mem_of_getElem? (i := 7) rfl))) (by decide) (backOf (W := 1) (rmrefl l Z a0 hw [] p1 h0 n0 (Nat.le_trans Z0 Kh.1)) hZ (hw _ (List.mem_of_getElem? (i := 7) rfl)) (hw _ (List.mem_of_getElem? (i := 6) rfl)) (by decide) (by decide)) (g := (mkF m 5 #[.val (.int p1)] [(.int p1), (.int (if own_l (Int32.toInt p1) then (1 : Int32) else (0 : Int32)))])) rfl (by rw [hml]; rfl) (argsL := [(.int p1)]) (rest := [(.int (if own_l (Int32.toInt p1) then (1 : Int32) else (0 : Int32)))]) (lenOf pd_0 rfl) rfl (by show 2 * 0 + _ ≤ _; exact Nat.le_of_eq rfl) (hb hby at_5) (fun _ _ => ⟨rfl, e1, (by decide : 0 + 0 ≤ _), (by decide : 0 + 0 ≤ _)⟩)
  dsimp only [Pt.U, Pt.locs, Pt.cells, Pt.slots] at X2 l2 y2 z2 st2 hQ2
  subst l2 y2 z2
  obtain ⟨rfl, Nq2, e2⟩ := hQ2
  have N2 := Fr.app N1 Nq2
  refine own_go (st2) ?_
  show own_R p e below _ T2 (mkF m 8 #[.val (.int p1)] [(.int (if own_l (Int32.toInt p1) then (1 : Int32) else (0 : Int32))), (.int (if own_l (Int32.toInt p1) then (1 : Int32) else (0 : Int32)))])
  refine own_go (fun t k => XS.icmpNo X2.here hx rfl (hb hby at_8) rfl (teq (rfl : (if own_l (Int32.toInt p1) then (1 : Int32) else (0 : Int32)) = (if own_l (Int32.toInt p1) then (1 : Int32) else (0 : Int32)))).2 k) ?_
  show own_R p e below _ T2 (mkF m 11 #[.val (.int p1)] [])
  refine own_go (fun t k => XS.iconst X2.here hx rfl (hb hby at_11) k) ?_
  show own_R p e below _ T2 (mkF m 12 #[.val (.int p1)] [(.int (1 : Int32))])
  refine own_go (fun t k => XS.goto X2.here hx rfl (pc0 := 12) (pc' := 16) rfl (hb hby at_12) (by decide) (by decide) k) ?_
  show own_R p e below _ T2 (mkF m 16 #[.val (.int p1)] [(.int (1 : Int32))])
  refine own_retN X2 hx Bd.returns (by simp) (BodyLoose.notSynchronized Bd) (hb hby at_16) (by decide) (by decide) ?_
  exact ⟨rfl, N2⟩
set_option maxRecDepth 65536 in
set_option maxHeartbeats 40000000 in
theorem comes_1 {Post : Tables → Env → Array Value → State → Outcome → State → Prop} (hpost : ∀ tb e args s v u, (limb_1_1.after args s (.returned v) u = true ∧ limb_1_2.after args s (.returned v) u = true ∧ True) → FrameEnd s (.returned v) u (Jvm.fieldLocs frame_1_writes args s ++ Jvm.arrayLocs frame_1_arrays args s ++ Jvm.staticLocs frame_1_statics s) 0 0 → Post tb e args s (.returned v) u) :
    ArmFor flags0 classFile x code maxLocals ret World_1 tables_1 room_1 Calls_1 rest_1 Pre_1 Post := by
  intro l hfl _ _ p e ha hc hk s m args below hf hA hF happ hP
  obtain ⟨hcalls, hrest, hpre⟩ := hP
  obtain ⟨-, -, -, hnamed, -, -, -, hat⟩ := (Spec.applies_iff hf).mp happ
  obtain ⟨hg, hn⟩ := and_e (Cond.before_iff.mp (show (Jvm.Cond.and given_1 narrow_1).before args s = true from hpre))
  obtain ⟨g0, gr0⟩ := and_e hg
  have ga0 := gr0
  obtain ⟨w0, rfl⟩ : ∃ w0 : Value, args = #[w0] := by
    have hs : args.size = 1 := by simpa [Cond.value, given_1] using g0
    obtain ⟨L⟩ := args
    match L, hs with
    | [w0], _ => exact ⟨w0, rfl⟩
  have hw := fun d (hd : d ∈ tables_1) => atoms_spec (ws := Jvm.Cond.code x code maxLocals ret :: tables_1) hat d (List.mem_cons_of_mem _ hd)
  have hfit : Fit s := fun {y c} hc i hi => by
    obtain ⟨ha, rfl⟩ := Array.getElem?_eq_some_iff.mp hc
    have q := List.all_eq_true.mp ((Array.all_eq_true_iff_forall_mem.mp hF) _ (Array.getElem_mem ha)) i (List.mem_range.mpr hi)
    simpa [Array.getElem?_eq_getElem hi] using q
  obtain ⟨i0, ei0⟩ := is_v ga0
  obtain rfl : w0 = (.int i0) := Option.some.inj ei0
  obtain ⟨na, nr⟩ := and_e hn
  obtain ⟨nl, nr0⟩ := and_e nr
  obtain ⟨ne0, nr1⟩ := and_e nr0
  obtain ⟨ne1, nr2⟩ := and_e nr1
  obtain ⟨ne2, nr3⟩ := and_e nr2
  obtain ⟨ne3, nr4⟩ := and_e nr3
  obtain ⟨ne4, nr5⟩ := and_e nr4
  obtain ⟨ne5, nr6⟩ := and_e nr5
  obtain ⟨ne6, nr7⟩ := and_e nr6
  obtain ⟨ne7, nr8⟩ := and_e nr7
  obtain ⟨ne8, nr9⟩ := and_e nr8
  obtain ⟨ne9, nr10⟩ := and_e nr9
  obtain ⟨ne10, nr11⟩ := and_e nr10
  obtain ⟨ne11, nr12⟩ := and_e nr11
  obtain ⟨ne12, nr13⟩ := and_e nr12
  obtain ⟨ne13, nr14⟩ := and_e nr13
  obtain ⟨ne14, nr15⟩ := and_e nr14
  obtain ⟨ne15, nr16⟩ := and_e nr15
  obtain ⟨ne16, nr17⟩ := and_e nr16
  obtain ⟨ne17, nr18⟩ := and_e nr17
  obtain ⟨ne18, nr19⟩ := and_e nr18
  obtain ⟨ne19, nr20⟩ := and_e nr19
  obtain ⟨ne20, nr21⟩ := and_e nr20
  obtain ⟨ne21, nr22⟩ := and_e nr21
  obtain ⟨ne22, nr23⟩ := and_e nr22
  obtain ⟨ne23, nr24⟩ := and_e nr23
  obtain ⟨ne24, nr25⟩ := and_e nr24
  obtain ⟨ne25, nr26⟩ := and_e nr25
  obtain ⟨ne26, nr27⟩ := and_e nr26
  have ne27 := nr27
  obtain ⟨w, ew⟩ := arr_v na
  obtain ⟨cl, A⟩ := Arr.start ew na
  have Vw := own_arv (n := 28) (vs := [65, 90, 97, 122, 192, 214, 216, 246, 248, 767, 880, 893, 895, 8191, 8204, 8205, 8304, 8591, 11264, 12271, 12289, 55295, 63744, 64975, 65008, 65533, 65536, 983039]) hfit ew A (by decide) (Cond.eq_int (Cond.before_iff.mpr nl) rfl) rfl (fun i hi => by
    have hc : i = 0 ∨ i = 1 ∨ i = 2 ∨ i = 3 ∨ i = 4 ∨ i = 5 ∨ i = 6 ∨ i = 7 ∨ i = 8 ∨ i = 9 ∨ i = 10 ∨ i = 11 ∨ i = 12 ∨ i = 13 ∨ i = 14 ∨ i = 15 ∨ i = 16 ∨ i = 17 ∨ i = 18 ∨ i = 19 ∨ i = 20 ∨ i = 21 ∨ i = 22 ∨ i = 23 ∨ i = 24 ∨ i = 25 ∨ i = 26 ∨ i = 27 := by omega
    rcases hc with rfl | rfl | rfl | rfl | rfl | rfl | rfl | rfl | rfl | rfl | rfl | rfl | rfl | rfl | rfl | rfl | rfl | rfl | rfl | rfl | rfl | rfl | rfl | rfl | rfl | rfl | rfl | rfl
    · exact Cond.eq_int (Cond.before_iff.mpr ne0) rfl
    · exact Cond.eq_int (Cond.before_iff.mpr ne1) rfl
    · exact Cond.eq_int (Cond.before_iff.mpr ne2) rfl
    · exact Cond.eq_int (Cond.before_iff.mpr ne3) rfl
    · exact Cond.eq_int (Cond.before_iff.mpr ne4) rfl
    · exact Cond.eq_int (Cond.before_iff.mpr ne5) rfl
    · exact Cond.eq_int (Cond.before_iff.mpr ne6) rfl
    · exact Cond.eq_int (Cond.before_iff.mpr ne7) rfl
    · exact Cond.eq_int (Cond.before_iff.mpr ne8) rfl
    · exact Cond.eq_int (Cond.before_iff.mpr ne9) rfl
    · exact Cond.eq_int (Cond.before_iff.mpr ne10) rfl
    · exact Cond.eq_int (Cond.before_iff.mpr ne11) rfl
    · exact Cond.eq_int (Cond.before_iff.mpr ne12) rfl
    · exact Cond.eq_int (Cond.before_iff.mpr ne13) rfl
    · exact Cond.eq_int (Cond.before_iff.mpr ne14) rfl
    · exact Cond.eq_int (Cond.before_iff.mpr ne15) rfl
    · exact Cond.eq_int (Cond.before_iff.mpr ne16) rfl
    · exact Cond.eq_int (Cond.before_iff.mpr ne17) rfl
    · exact Cond.eq_int (Cond.before_iff.mpr ne18) rfl
    · exact Cond.eq_int (Cond.before_iff.mpr ne19) rfl
    · exact Cond.eq_int (Cond.before_iff.mpr ne20) rfl
    · exact Cond.eq_int (Cond.before_iff.mpr ne21) rfl
    · exact Cond.eq_int (Cond.before_iff.mpr ne22) rfl
    · exact Cond.eq_int (Cond.before_iff.mpr ne23) rfl
    · exact Cond.eq_int (Cond.before_iff.mpr ne24) rfl
    · exact Cond.eq_int (Cond.before_iff.mpr ne25) rfl
    · exact Cond.eq_int (Cond.before_iff.mpr ne26) rfl
    · exact Cond.eq_int (Cond.before_iff.mpr ne27) rfl)
  have Sw := Sta.start ew (Or.inr ⟨hw _ (List.mem_of_getElem? (i := 2) rfl), hw _ (List.mem_of_getElem? (i := 19) rfl)⟩)
  obtain ⟨n, o, h1, h2, h3, _, L, rfl, ⟨rfl, N⟩, hq⟩ := rm0 l s _ hw tables_1 i0 w cl.cls s.heap s.heap.size (Nat.le_refl _) Vw Sw p e ha hc hk s m _ below hf ((Spec.applies_iff_loose hf).mp happ).1 ⟨rfl, State.Warmed39.refl s, rfl⟩ trivial
  refine ⟨n, _, h1, h2, h3, hpost _ _ _ _ _ _ ⟨Cond.after_iff.mpr rfl, Cond.after_iff.mpr (eq_i res_at (Term.int_eval (1)) rfl), trivial⟩ ⟨hq.1, hq.2.1, (hq.2.2.sift fun y hy => Or.inr (N y hy)).mono (by decide) (by decide)⟩⟩
theorem main_1_1 : Claimed_1_1 := comes_1 fun _ _ _ _ _ _ h hF => ⟨h.1, hF⟩
theorem main_1_2 : Claimed_1_2 := comes_1 fun _ _ _ _ _ _ h hF => ⟨h.2.1, hF⟩
end Jvm.Pilot.@@N@@
namespace Jvm.Pilot.@@N@@
open Jvm Jvm.ClassFile Sem Op Lib Jvm.Free Jvm.Stand Jvm.Pilot.@@N@@.Jvm.D
/-! MADE BY PROGRAM (witnessworld.py) out of the Statement's table words and the real class files: 13 classes; the members and pool entries that the words name. The judged class is class 1, her method 1. -/
namespace start1
open Jvm.ClassFile
def u (s : String) : CpInfo := .utf8 (stringToUtf16 s)
/-- a pool by its gaps: so many unusable entries, then the entry; so many at the end -/
def gap : Nat → List CpInfo → List CpInfo
  | 0, r => r
  | n + 1, r => .unusable :: gap n r
def poolList (es : List (Nat × CpInfo)) (last : Nat) : List CpInfo := es.foldr (fun e r => gap e.1 (e.2 :: r)) (gap last [])
def pool (es : List (Nat × CpInfo)) (last : Nat) : Array CpInfo := ⟨poolList es last⟩
def fileOf (pool : Array CpInfo) (this : Nat) (attrs : Array Attribute := #[]) (ms : Array MethodInfo := #[]) (fl : Nat := 33) (sup : Nat := 0) (ifs : Array Nat := #[]) (fds : Array FieldInfo := #[]) : ClassFile where
  minorVersion := 0
  majorVersion := 65
  constantPool := pool
  accessFlags := fl
  thisClass := this
  superClass := sup
  interfaces := ifs
  fields := fds
  methods := ms
  attributes := attrs
def plain (name : String) (sup : Option ClassId) : Class where
  name := name
  kind := .ordinary
  loader := none
  accessFlags := 33
  super := sup
  interfaces := #[]
  cf := none
  fields := #[]
  methods := #[]
  instanceTypes := #[]
  staticTypes := #[]
  resolved := #[]
  callSites := []
  init := .initialized
  statics := none
  mirror := none

def pool0 : Array CpInfo := pool [(5, u "<init>"), (0, u "()V"), (1, .class_ 10), (1, u "java/lang/Object")] 113

def k0m0 : Method := { name := "<init>", desc := "()V", sig := { parameters := [], returnType := none }, accessFlags := 1, code := none }
/-- java/lang/Object -/
def k0 : Class := { plain "java/lang/Object" none with
  accessFlags := 33
  interfaces := #[]
  cf := some (fileOf pool0 8 #[] #[{ accessFlags := 1, nameIndex := 5, descriptorIndex := 6, attributes := #[] }] 33 0 #[] #[])
  fields := #[]
  methods := #[k0m0]
  instanceTypes := #[]
  staticTypes := #[]
  resolved := Array.replicate 124 none
  statics := none }

def pool1 : Array CpInfo := pool [(2, .class_ 4), (1, u "java/lang/Object"), (0, u "<init>"), (0, u "()V"), (0, .methodref 8 9), (0, .class_ 10), (0, .nameAndType 11 12), (0, u "com/example/interpretant/interpretant/model/BlankNode"), (0, u "isLetter"), (0, u "(I)Z"), (0, .methodref 14 15), (0, .class_ 16), (0, .nameAndType 17 12), (0, u "com/example/interpretant/interpretant/model/BlankNodeIsLetterPinLaw"), (0, u "reference"), (0, .methodref 14 19), (0, .nameAndType 20 21), (0, u "in"), (0, u "(III)Z"), (0, .integer 55295), (0, .integer 63744), (0, .integer 64975), (0, .integer 65008), (0, .integer 65533), (0, .integer 65536), (0, .integer 983039), (2, u "law")] 3

def k1m0 : Method := { name := "<init>", desc := "()V", sig := { parameters := [], returnType := none }, accessFlags := 2, code := none }
def k1c1 : Code := { maxStack := 2, maxLocals := 1, code := code, exceptionTable := #[], attributes := #[] }
def k1m1 : Method := { name := "law", desc := "(I)Z", sig := { parameters := [.int], returnType := some .boolean }, accessFlags := 9, code := some k1c1 }
def k1c2 : Code := { maxStack := 2, maxLocals := 3, code := method_3_code, exceptionTable := #[], attributes := #[] }
def k1m2 : Method := { name := "in", desc := "(III)Z", sig := { parameters := [.int, .int, .int], returnType := some .boolean }, accessFlags := 10, code := some k1c2 }
def k1c3 : Code := { maxStack := 3, maxLocals := 1, code := method_4_code, exceptionTable := #[], attributes := #[] }
def k1m3 : Method := { name := "reference", desc := "(I)Z", sig := { parameters := [.int], returnType := some .boolean }, accessFlags := 10, code := some k1c3 }
/-- com/example/interpretant/interpretant/model/BlankNodeIsLetterPinLaw -/
def k1 : Class := { plain "com/example/interpretant/interpretant/model/BlankNodeIsLetterPinLaw" (some 0) with
  accessFlags := 49
  interfaces := #[]
  cf := some (fileOf pool1 14 #[] #[{ accessFlags := 2, nameIndex := 5, descriptorIndex := 6, attributes := #[] }, { accessFlags := 9, nameIndex := 31, descriptorIndex := 12, attributes := #[] }, { accessFlags := 10, nameIndex := 20, descriptorIndex := 21, attributes := #[] }, { accessFlags := 10, nameIndex := 17, descriptorIndex := 12, attributes := #[] }] 49 2 #[] #[])
  fields := #[]
  methods := #[k1m0, k1m1, k1m2, k1m3]
  instanceTypes := #[]
  staticTypes := #[]
  resolved := Array.replicate 35 none
  statics := none }

def pool2 : Array CpInfo := pool [(2, .class_ 4), (1, u "java/lang/Object"), (0, u "<init>"), (0, u "()V"), (0, .class_ 8), (0, u "java/lang/Record")] 13

def k2m0 : Method := { name := "<init>", desc := "()V", sig := { parameters := [], returnType := none }, accessFlags := 4, code := none }
/-- java/lang/Record -/
def k2 : Class := { plain "java/lang/Record" (some 0) with
  accessFlags := 1057
  interfaces := #[]
  cf := some (fileOf pool2 7 #[] #[{ accessFlags := 4, nameIndex := 5, descriptorIndex := 6, attributes := #[] }] 1057 2 #[] #[])
  fields := #[]
  methods := #[k2m0]
  instanceTypes := #[]
  staticTypes := #[]
  resolved := Array.replicate 22 none
  statics := none }

def pool3 : Array CpInfo := pool [(1, .class_ 2), (0, u "java/lang/Comparable"), (0, .class_ 4), (0, u "java/lang/Object")] 7

/-- java/lang/Comparable -/
def k3 : Class := { plain "java/lang/Comparable" (some 0) with
  accessFlags := 1537
  interfaces := #[]
  cf := some (fileOf pool3 1 #[] #[] 1537 3 #[] #[])
  fields := #[]
  methods := #[]
  instanceTypes := #[]
  staticTypes := #[]
  resolved := Array.replicate 12 none
  statics := none }

def pool4 : Array CpInfo := pool [(2, .class_ 4), (1, u "com/example/interpretant/interpretant/model/Term"), (43, .class_ 49), (0, u "java/lang/Object"), (0, .class_ 51), (0, u "java/lang/Comparable")] 12

/-- com/example/interpretant/interpretant/model/Term -/
def k4 : Class := { plain "com/example/interpretant/interpretant/model/Term" (some 0) with
  accessFlags := 1537
  interfaces := #[3]
  cf := some (fileOf pool4 2 #[] #[] 1537 48 #[50] #[])
  fields := #[]
  methods := #[]
  instanceTypes := #[]
  staticTypes := #[]
  resolved := Array.replicate 64 none
  statics := none }

def pool5 : Array CpInfo := pool [(1, .class_ 2), (0, u "com/example/interpretant/interpretant/model/SubjectTerm"), (0, .class_ 4), (0, u "java/lang/Object"), (0, .class_ 6), (0, u "com/example/interpretant/interpretant/model/Term")] 7

/-- com/example/interpretant/interpretant/model/SubjectTerm -/
def k5 : Class := { plain "com/example/interpretant/interpretant/model/SubjectTerm" (some 0) with
  accessFlags := 1537
  interfaces := #[4]
  cf := some (fileOf pool5 1 #[] #[] 1537 3 #[5] #[])
  fields := #[]
  methods := #[]
  instanceTypes := #[]
  staticTypes := #[]
  resolved := Array.replicate 14 none
  statics := none }

def pool6 : Array CpInfo := pool [(2, .class_ 4), (1, u "java/lang/Record"), (3, u "label"), (24, .class_ 35), (1, u "com/example/interpretant/interpretant/model/BlankNode"), (1, u "(I)Z"), (30, u "Ljava/lang/String;"), (10, u "ASCII_LABEL_CHARS"), (0, u "[Z"), (27, u "isLetter"), (0, .fieldref 33 110), (0, .nameAndType 111 112), (0, u "LETTERS"), (0, u "[I"), (15, .class_ 129), (0, u "com/example/interpretant/interpretant/model/SubjectTerm")] 25

def k6c0 : Code := { maxStack := 4, maxLocals := 2, code := prog_37_method_8_code, exceptionTable := #[], attributes := #[] }
def k6m0 : Method := { name := "isLetter", desc := "(I)Z", sig := { parameters := [.int], returnType := some .boolean }, accessFlags := 9, code := some k6c0 }
/-- com/example/interpretant/interpretant/model/BlankNode -/
def k6 : Class := { plain "com/example/interpretant/interpretant/model/BlankNode" (some 2) with
  accessFlags := 49
  interfaces := #[5]
  cf := some (fileOf pool6 33 #[] #[{ accessFlags := 9, nameIndex := 108, descriptorIndex := 37, attributes := #[] }] 49 2 #[128] #[{ accessFlags := 18, nameIndex := 8, descriptorIndex := 68, attributes := #[] }, { accessFlags := 26, nameIndex := 111, descriptorIndex := 112, attributes := #[] }, { accessFlags := 26, nameIndex := 79, descriptorIndex := 80, attributes := #[] }])
  fields := #[{ name := "label", type := (.object "java/lang/String"), accessFlags := 18, slot := 0, constantValue := 0 }, { name := "LETTERS", type := (.array .int), accessFlags := 26, slot := 0, constantValue := 0 }, { name := "ASCII_LABEL_CHARS", type := (.array .boolean), accessFlags := 26, slot := 1, constantValue := 0 }]
  methods := #[k6m0]
  instanceTypes := #[(.object "java/lang/String")]
  staticTypes := #[(.array .int), (.array .boolean)]
  resolved := Array.replicate 155 none
  statics := some 0 }

def pool7 : Array CpInfo := pool [(1, u "java/lang/Cloneable"), (0, .class_ 1), (0, u "java/lang/Object"), (0, .class_ 3)] 3

/-- java/lang/Cloneable -/
def k7 : Class := { plain "java/lang/Cloneable" (some 0) with
  accessFlags := 1537
  interfaces := #[]
  cf := some (fileOf pool7 2 #[] #[] 1537 4 #[] #[])
  fields := #[]
  methods := #[]
  instanceTypes := #[]
  staticTypes := #[]
  resolved := Array.replicate 8 none
  statics := none }

def pool8 : Array CpInfo := pool [(1, u "java/io/Serializable"), (0, .class_ 1), (0, u "java/lang/Object"), (0, .class_ 3)] 3

/-- java/io/Serializable -/
def k8 : Class := { plain "java/io/Serializable" (some 0) with
  accessFlags := 1537
  interfaces := #[]
  cf := some (fileOf pool8 2 #[] #[] 1537 4 #[] #[])
  fields := #[]
  methods := #[]
  instanceTypes := #[]
  staticTypes := #[]
  resolved := Array.replicate 8 none
  statics := none }

/-- the primitive byte -/
def k9 : Class := { plain "byte" none with kind := .primitive 'B', accessFlags := 0x411 }
/-- [B -/
def k10 : Class := { plain "[B" (some 0) with kind := .array 9 .byte, interfaces := #[7, 8], accessFlags := 1041 }

/-- the primitive int -/
def k11 : Class := { plain "int" none with kind := .primitive 'I', accessFlags := 0x411 }
/-- [I -/
def k12 : Class := { plain "[I" (some 0) with kind := .array 11 .int, interfaces := #[7, 8], accessFlags := 1041 }

def heap : Heap := #[{ cls := 6, slots := #[.ref 1, .null], vm := .statics 6 },
  { cls := 12, slots := #[.int 65, .int 90, .int 97, .int 122, .int 192, .int 214, .int 216, .int 246, .int 248, .int 767, .int 880, .int 893, .int 895, .int 8191, .int 8204, .int 8205, .int 8304, .int 8591, .int 11264, .int 12271, .int 12289, .int 55295, .int 63744, .int 64975, .int 65008, .int 65533, .int 65536, .int 983039], vm := .none }]
def classes : Array Class := #[k0, k1, k2, k3, k4, k5, k6, k7, k8, k9, k10, k11, k12]
def interned : List (Array UInt16 × Addr) := []
def slotsUsed : Nat := 30
def theMethod : MethodId := ⟨1, 1⟩
def args0 : Array Value := #[.int 200]
def aboutOver (below : List Frame) : State where
  vm := { classes := classes, interned := interned.toArray }
  heap := heap
  slotsUsed := slotsUsed
  threads := #[{ frames := .invoking theMethod args0 :: below }]
def below0 : List Frame := [.native { method := ⟨0, 0⟩, args := #[] }]
def about1 : State := aboutOver below0
def p0 : Program := .bare "" "" ""
def e0 : Env := launch0.env 0 0 0
theorem w_frames : about1.frames = Frame.invoking theMethod args0 :: below0 := rfl
set_option maxRecDepth 65536 in
theorem w_args : argsFit about1.vm theMethod args0 = true := by decide +kernel
set_option maxRecDepth 65536 in
theorem w_heap : heapFits about1 = true := by decide +kernel
set_option maxRecDepth 65536 in
theorem w_runnable : about1.curStatus? = some .runnable := by decide +kernel
set_option maxRecDepth 65536 in
theorem w_alone : about1.alone = true := by decide +kernel
set_option maxRecDepth 65536 in
theorem w_named : about1.methodNamed? x = some theMethod := by decide +kernel
set_option maxRecDepth 65536 in
theorem w_hears : about1.hears theMethod below0 = true := by decide +kernel
set_option maxRecDepth 65536 in
theorem w_ripe : about1.ripe theMethod args0 below0 = true := by decide +kernel
theorem w_running : about1.status = .running := rfl
set_option maxRecDepth 65536 in
theorem w_room : about1.hasRoom e0.platform room_1 = true :=
  launch0.hasRoom_least _ room_1 (by decide +kernel) (by decide +kernel) (by decide +kernel) (by decide +kernel) (by decide +kernel) (by decide +kernel)
theorem allAtoms_all (ts : List Jvm.Cond) (a : Array Jvm.Value) (st : Jvm.State) : (allAtoms ts).before a st = ts.all (fun c => c.before a st) := by
  induction ts with
  | nil => rfl
  | cons c t ih =>
    show (Jvm.Cond.and c (allAtoms t)).before a st = _
    rw [Jvm.Cond.before_and, ih, List.all_cons]
def words1 : List Jvm.Cond := Jvm.Cond.code x code maxLocals ret :: tables_1
/-- a 'code' word, met by the world's own term for the bytes: nothing is compared byte by byte -/
theorem code_word {y : MethodName} {bytes : ByteArray} {mx : Nat} {rt : Option FieldType} {a : Array Value} {s : State} {m : MethodId} {meth : Method} {c : Code} (h1 : s.methodNamed? y = some m) (h2 : s.vm.method? m = some meth) (h3 : meth.code = some c) (h4 : c.code = bytes)
    (h5 : (c.maxLocals == mx && c.exceptionTable.isEmpty && decide (c.maxStack ≤ mostOperands) && decide (meth.sig.returnType = rt) && !meth.locks && decide (parseMethodDescriptor y.desc = some meth.sig)) = true) : (Jvm.Cond.code y bytes mx rt).before a s = true := by
  simp only [Bool.and_eq_true, beq_iff_eq, Bool.not_eq_true', decide_eq_true_eq] at h5
  obtain ⟨⟨⟨⟨⟨g1, g2⟩, g3⟩, g4⟩, g5⟩, g6⟩ := h5
  simp [Cond.before, Cond.holds, Cond.value, h1, h2, h3, h4, g1, g2, g3, g4, g5, g6]
def isCode : Jvm.Cond → Bool
  | .code _ _ _ _ => true
  | _ => false
theorem all_split {L : List Jvm.Cond} {P : Jvm.Cond → Bool} (h1 : L.all (fun c => isCode c || P c) = true) (h2 : ∀ c ∈ L.filter isCode, P c = true) : L.all P = true := by
  refine List.all_eq_true.mpr fun c hc => ?_
  have h := List.all_eq_true.mp h1 c hc
  rcases Bool.eq_false_or_eq_true (isCode c) with hi | hi
  · exact h2 c (List.mem_filter.mpr ⟨hc, hi⟩)
  · simpa [hi] using h
set_option maxRecDepth 65536 in
theorem w_c0 : (Jvm.Cond.code x code maxLocals ret).before args0 about1 = true := code_word (m := ⟨1, 1⟩) (meth := k1m1) (c := k1c1) (by decide +kernel) rfl rfl rfl (by decide +kernel)
set_option maxRecDepth 65536 in
theorem w_c1 : (Jvm.Cond.code ({ cls := "com/example/interpretant/interpretant/model/BlankNode", name := "isLetter", desc := "(I)Z" } : Jvm.MethodName) prog_37_method_8_code (2 : Nat) (Option.some Jvm.ClassFile.FieldType.boolean)).before args0 about1 = true := code_word (m := ⟨6, 0⟩) (meth := k6m0) (c := k6c0) (by decide +kernel) rfl rfl rfl (by decide +kernel)
set_option maxRecDepth 65536 in
theorem w_c2 : (Jvm.Cond.code ({ cls := "com/example/interpretant/interpretant/model/BlankNodeIsLetterPinLaw", name := "reference", desc := "(I)Z" } : Jvm.MethodName) method_4_code (1 : Nat) (Option.some Jvm.ClassFile.FieldType.boolean)).before args0 about1 = true := code_word (m := ⟨1, 3⟩) (meth := k1m3) (c := k1c3) (by decide +kernel) rfl rfl rfl (by decide +kernel)
set_option maxRecDepth 65536 in
theorem w_c3 : (Jvm.Cond.code ({ cls := "com/example/interpretant/interpretant/model/BlankNodeIsLetterPinLaw", name := "in", desc := "(III)Z" } : Jvm.MethodName) method_3_code (3 : Nat) (Option.some Jvm.ClassFile.FieldType.boolean)).before args0 about1 = true := code_word (m := ⟨1, 2⟩) (meth := k1m2) (c := k1c2) (by decide +kernel) rfl rfl rfl (by decide +kernel)
def codes1 : List Jvm.Cond := [Jvm.Cond.code x code maxLocals ret, Jvm.Cond.code ({ cls := "com/example/interpretant/interpretant/model/BlankNode", name := "isLetter", desc := "(I)Z" } : Jvm.MethodName) prog_37_method_8_code (2 : Nat) (Option.some Jvm.ClassFile.FieldType.boolean), Jvm.Cond.code ({ cls := "com/example/interpretant/interpretant/model/BlankNodeIsLetterPinLaw", name := "reference", desc := "(I)Z" } : Jvm.MethodName) method_4_code (1 : Nat) (Option.some Jvm.ClassFile.FieldType.boolean), Jvm.Cond.code ({ cls := "com/example/interpretant/interpretant/model/BlankNodeIsLetterPinLaw", name := "in", desc := "(III)Z" } : Jvm.MethodName) method_3_code (3 : Nat) (Option.some Jvm.ClassFile.FieldType.boolean)]
set_option maxRecDepth 65536 in
theorem codes_eq : words1.filter isCode = codes1 := rfl
theorem w_codes : ∀ c ∈ words1.filter isCode, c.before args0 about1 = true := by
  rw [codes_eq]
  intro c hc
  simp only [codes1, List.mem_cons, List.not_mem_nil, or_false] at hc
  rcases hc with rfl | rfl | rfl | rfl
  · exact w_c0
  · exact w_c1
  · exact w_c2
  · exact w_c3
set_option maxRecDepth 65536 in
theorem w_t1 : words1.all (fun c => isCode c || c.before args0 about1) = true := by decide +kernel
theorem w_tables : (allAtoms (Jvm.Cond.code x code maxLocals ret :: tables_1)).before args0 about1 = true := by
  rw [allAtoms_all]
  show words1.all (fun c => c.before args0 about1) = true
  refine all_split ?_ w_codes
  rw [w_t1]
set_option maxRecDepth 65536 in
theorem w_case : (Jvm.Cond.and given_1 narrow_1).before args0 about1 = true := by decide +kernel
theorem w_applies : (headSpec (Jvm.Cond.code x code maxLocals ret :: tables_1) room_1).applies x e0.platform about1 = true :=
  (Spec.applies_iff w_frames).mpr ⟨w_running, w_runnable, w_alone, w_named, w_hears, w_ripe, w_room, w_tables⟩
theorem atStart : AtStart classFile x code maxLocals ret World_1 tables_1 room_1 Calls_1 rest_1 Pre_1 launch0 p0 e0 about1 theMethod args0 below0 :=
  ⟨lists_1, trivial, launch0.admits_env _ _ _, launch0.least_env, fairChoices_fair.cas, fairChoices_fair.clock, w_frames, w_args, w_heap, w_applies, trivial, trivial, w_case⟩
end start1
theorem witness_1 : WitnessClaimed_1 := ⟨start1.p0, start1.e0, start1.about1, start1.theMethod, start1.args0, start1.below0, start1.atStart⟩
end Jvm.Pilot.@@N@@
