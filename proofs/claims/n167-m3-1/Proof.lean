import JvmDerived
import JvmDerived.Pilot.@@N@@Statement
import JvmDerived.Pilot.@@N@@Code
set_option linter.unusedVariables false
set_option linter.unusedSimpArgs false
namespace Jvm.Pilot.@@N@@
open Jvm Jvm.ClassFile Sem Op Lib Jvm.Free Jvm.Stand Jvm.LawKit Jvm.RoadKit Bundle Jvm.Pilot.@@N@@.Jvm.D
section OwnKit
variable {p : Program} {l : Launch} {e : Env} {R : Room} {s : State} {m : MethodId} {args : Array Value} {below : List Frame} {meth : Method} {c : Code} {T T' : State} {locs : List Loc} {cells slots : Nat} {F F' : JFrame} {K : State → Prop}
/-- from the frame F the run comes to a state that K takes -/
def own_R (p : Program) (e : Env) (below : List Frame) (K : State → Prop) (T : State) (F : JFrame) : Prop := ∃ t, Steps p.tables e below (T.setTop F) t ∧ K t
theorem own_go (h : ∀ t, Steps p.tables e below (T'.setTop F') t → Steps p.tables e below (T.setTop F) t) (r : own_R p e below K T' F') : own_R p e below K T F := by
  obtain ⟨t, h1, h2⟩ := r
  exact ⟨t, h t h1, h2⟩
/-- the end of the body: it returned, and Q holds -/
def own_E (s : State) (below : List Frame) (Q : Option Value → Heap → List Loc → Prop) (k n : Nat) (t : State) : Prop :=
  t.status = .running ∧ ∃ v L, Ended t below (.returned v) ∧ Q v t.heap L ∧ FrameEnd s (.returned v) t L k n
/-- a join: the run stands at F', the heap as I says -/
def own_K (p : Program) (l : Launch) (e : Env) (R : Room) (s : State) (m : MethodId) (args : Array Value) (below : List Frame) (meth : Method) (c : Code) (n0 cells slots : Nat) (I : Heap → Prop) (F' : JFrame) (t : State) : Prop :=
  ∃ (T' : State) (L' : List Loc), t = T'.setTop F' ∧ Stand p l e R s m args below meth c T' L' cells slots ∧ I T'.heap ∧ Fr n0 L'
theorem own_here {n0 : Nat} {I : Heap → Prop} (X : Stand p l e R s m args below meth c T locs cells slots) (i : I T.heap) (N : Fr n0 locs) : own_R p e below (own_K p l e R s m args below meth c n0 cells slots I F) T F :=
  ⟨_, Steps.refl _, T, locs, rfl, X, i, N⟩
theorem own_hide {n0 : Nat} (X : Stand p l e R s m args below meth c T locs cells slots) (N : Fr n0 locs) : ∃ L, Stand p l e R s m args below meth c T L cells slots ∧ Fr n0 L := ⟨_, X, N⟩
theorem own_retN {Q : Option Value → Heap → List Loc → Prop} {k n : Nat} (X : Stand p l e R s m args below meth c T locs cells slots) (hx : p.tables.exec = Jvm.exec) {pc : Nat} {Ls : Array Slot} {z : Int32} {t : FieldType} {rest : List Value} (hret : meth.sig.returnType = some t) (ht : t = .boolean ∨ t = .byte ∨ t = .char ∨ t = .short) (hlk : meth.locks = false)
    (hd : decode c.code pc = .ok (.ireturn, 1)) (hk : cells ≤ k) (hn : slots ≤ n) (hQ : Q (some (.int (nar t z))) T.heap locs) : own_R p e below (own_E s below Q k n) T (mkF m pc Ls (.int z :: rest)) := by
  obtain ⟨fs, hr, hrun, hended, hW, hsame⟩ := X.leave (v := some (.int (nar t z))) (fun h => by rw [hret] at h; cases h) hlk
  exact ⟨_, retN X hx hret ht hd hr, hrun, _, _, hended, hQ, ⟨_, rfl⟩, hW, hsame.mono hk hn⟩
theorem own_retW {Q : Option Value → Heap → List Loc → Prop} {k n : Nat} (X : Stand p l e R s m args below meth c T locs cells slots) (hx : p.tables.exec = Jvm.exec) {pc : Nat} {Ls : Array Slot} {w : Value} {t : FieldType} {i : Instr} {rest : List Value} (hret : meth.sig.returnType = some t) (hnw : narrow t w = w)
    (hi : (i = .ireturn ∧ (t = .int ∨ t = .boolean ∨ t = .byte ∨ t = .char ∨ t = .short) ∧ ∃ z, w = .int z) ∨ (i = .lreturn ∧ t = .long ∧ ∃ z, w = .long z) ∨ (i = .dreturn ∧ t = .double ∧ ∃ z, w = .double z) ∨ (i = .freturn ∧ t = .float ∧ ∃ z, w = .float z) ∨ (i = .areturn ∧ t.isReference = true ∧ w.isRef = true)) (hlk : meth.locks = false)
    (hd : decode c.code pc = .ok (i, 1)) (hk : cells ≤ k) (hn : slots ≤ n) (hQ : Q (some w) T.heap locs) : own_R p e below (own_E s below Q k n) T (mkF m pc Ls (w :: rest)) := by
  obtain ⟨fs, hr, hrun, hended, hW, hsame⟩ := X.leave (v := some w) (fun h => by rw [hret] at h; cases h) hlk
  exact ⟨_, retOut X hx hret hnw hi hd hr, hrun, _, _, hended, hQ, ⟨_, rfl⟩, hW, hsame.mono hk hn⟩
theorem own_retV {Q : Option Value → Heap → List Loc → Prop} {k n : Nat} (X : Stand p l e R s m args below meth c T locs cells slots) (hx : p.tables.exec = Jvm.exec) {pc : Nat} {Ls : Array Slot} (hret : meth.sig.returnType = none) (hlk : meth.locks = false)
    (hd : decode c.code pc = .ok (.return_, 1)) (hk : cells ≤ k) (hn : slots ≤ n) (hQ : Q none T.heap locs) : own_R p e below (own_E s below Q k n) T (mkF m pc Ls []) := by
  obtain ⟨fs, hr, hrun, hended, hW, hsame⟩ := X.leave (v := none) (fun _ => rfl) hlk
  exact ⟨_, X.returnOut hx hret hd hr, hrun, _, _, hended, hQ, ⟨_, rfl⟩, hW, hsame.mono hk hn⟩
theorem own_lti {x y : Int32} {a b : Int} (h : x < y) (ha : x.toInt = a) (hb : y.toInt = b) : a < b := by rw [← ha, ← hb]; exact Int32.lt_iff_toInt_lt.mp h
theorem own_nlti {x y : Int32} {a b : Int} (h : ¬ x < y) (ha : x.toInt = a) (hb : y.toInt = b) : b ≤ a := by rw [← ha, ← hb]; rw [Int32.lt_iff_toInt_lt] at h; omega
theorem own_eqi {x y : Int32} {a b : Int} (h : x = y) (ha : x.toInt = a) (hb : y.toInt = b) : a = b := by rw [← ha, ← hb, h]
theorem own_nei {x y : Int32} {a b : Int} (h : ¬ x = y) (ha : x.toInt = a) (hb : y.toInt = b) : a ≠ b := by rw [← ha, ← hb]; exact fun q => h (Int32.toInt_inj.mp q)
theorem own_if0 {P : Prop} [Decidable P] (h : (if P then (1 : Int32) else (0 : Int32)) = (0 : Int32)) : ¬ P := fun q => by rw [if_pos q] at h; exact absurd h (by decide)
theorem own_if1 {P : Prop} [Decidable P] (h : ¬ (if P then (1 : Int32) else (0 : Int32)) = (0 : Int32)) : P := by
  by_cases q : P
  · exact q
  · exact absurd (if_neg q) h
theorem own_b01 {P : Prop} [Decidable P] : nar .boolean (if P then (1 : Int32) else (0 : Int32)) = (if P then (1 : Int32) else (0 : Int32)) := by split <;> rfl
/-- the end of the body, where a String constant may have been interned -/
def own_EW (s : State) (below : List Frame) (Q : Option Value → Heap → List Loc → Prop) (k n : Nat) (t : State) : Prop :=
  t.status = .running ∧ ∃ v L, Ended t below (.returned v) ∧ Q v t.heap L ∧ ReturnedEndW s (.returned v) t L k n
theorem own_retNW {Q : Option Value → Heap → List Loc → Prop} {k n j : Nat} {vm₁ : Vm} (X : Stand p l e R (s.setVm vm₁) m args below meth c T locs cells slots) (hx : p.tables.exec = Jvm.exec) {pc : Nat} {Ls : Array Slot} {z : Int32} {t : FieldType} {rest : List Value} (hret : meth.sig.returnType = some t) (ht : t = .boolean ∨ t = .byte ∨ t = .char ∨ t = .short) (hlk : meth.locks = false)
    (hd : decode c.code pc = .ok (.ireturn, 1)) (hS : s.Since vm₁ j) (hj : j ≤ T.heap.size) (hk : cells ≤ k) (hn : slots ≤ n) (hQ : Q (some (.int (nar t z))) T.heap locs) : own_R p e below (own_EW s below Q k n) T (mkF m pc Ls (.int z :: rest)) := by
  obtain ⟨fs, hr, hrun, hended, h1, h2, h3, h4⟩ := X.leaveW hS hj (v := some (.int (nar t z))) (fun h => by rw [hret] at h; cases h) hlk
  exact ⟨_, retN X hx hret ht hd hr, hrun, _, _, hended, hQ, h1, h2, h3, h4.mono hk hn⟩
end OwnKit
theorem own_arv {s : State} {args : Array Value} {t : Term} {a : Addr} {cl : Cell} {n : Nat} {vs : List Int32} (hf : Fit s) (ev : t.eval args s none [] s = some (.ref a)) (A : Arr s s.heap a cl .int) (hn : n < 2147483648) (hlen : (Term.length t).eval args s none [] s = some (.int (Int32.ofNat n)))
    (hl : vs.length = n) (hel : ∀ i, i < n → (Term.elem t (.int (Int32.ofNat i))).eval args s none [] s = some (.int (vs.getD i 0))) : Arv s s.heap a cl.cls .int (Int32.ofNat n) (vs.map Value.int) (.int (0 : Int32)) := by
  obtain ⟨sd, SA, hev, harrAt, -⟩ := Term.length_spec hlen
  have h31 := Jvm.Free.SBG.length_lt hev harrAt hlen
  cases Option.some.inj (hev.symm.trans ev)
  cases Option.some.inj (harrAt.symm.trans (Arr.fin (State.Warmed39.refl s).alike A))
  have hsz : cl.slots.size = n := by
    have e := len_f ev harrAt h31
    have h2 : cl.slots.size.toInt32 = Int32.ofNat n := by simpa using Option.some.inj (e.symm.trans hlen)
    have := congrArg Int32.toInt h2
    rw [len_toInt h31, Int32.toInt_ofNat_small hn] at this; omega
  have hz : (Int32.ofNat n).toNatClampNeg = n := by simp only [Int32.toNatClampNeg, Int32.toInt_ofNat_small hn]; rfl
  have hat : ∀ i, i < n → cl.slots[i]? = some (.int (vs.getD i 0)) := fun i hi => by
    have hi' : i < 2147483648 := by omega
    have e := (elem_in (hel i hi) ev rfl A.1).2
    have ei : (Int32.ofNat i).toNatClampNeg = i := by simp only [Int32.toNatClampNeg, Int32.toInt_ofNat_small hi']; rfl
    rw [ei] at e; exact e
  have hg : ∀ i, (vs.map Value.int).getD i (.int (0 : Int32)) = .int (vs.getD i 0) := fun i => by
    simp only [List.getD_eq_getElem?_getD, List.getElem?_map]
    cases vs[i]? <;> rfl
  refine ⟨cl, A, rfl, by rw [hz, hsz], ?_, fun i hi => by rw [hg]; exact hat i (by omega), fun i hi => by rw [hg]; rfl⟩
  rw [Int32.lt_iff_toInt_lt, Int32.toInt_ofNat_small hn]
  have : (0 : Int32).toInt = 0 := rfl
  omega
theorem pd_0 : parseMethodDescriptor "(I)Z" = some ⟨[.int], some .boolean⟩ := by decide +kernel
theorem pd_1 : parseMethodDescriptor "(III)Z" = some ⟨[.int, .int, .int], some .boolean⟩ := by decide +kernel
abbrev own_l (c : Int) : Prop := (58 ≤ c ∧ c ≤ 58) ∨ (95 ≤ c ∧ c ≤ 95) ∨ (65 ≤ c ∧ c ≤ 90) ∨ (97 ≤ c ∧ c ≤ 122) ∨ (192 ≤ c ∧ c ≤ 214) ∨ (216 ≤ c ∧ c ≤ 246) ∨ (248 ≤ c ∧ c ≤ 767) ∨ (880 ≤ c ∧ c ≤ 893) ∨ (895 ≤ c ∧ c ≤ 8191) ∨ (8204 ≤ c ∧ c ≤ 8205) ∨ (8304 ≤ c ∧ c ≤ 8591) ∨ (11264 ≤ c ∧ c ≤ 12271) ∨ (12289 ≤ c ∧ c ≤ 55295) ∨ (63744 ≤ c ∧ c ≤ 64975) ∨ (65008 ≤ c ∧ c ≤ 65533) ∨ (65536 ≤ c ∧ c ≤ 983039)
abbrev own_a (c : Int) : Prop := (58 ≤ c ∧ c ≤ 58) ∨ (95 ≤ c ∧ c ≤ 95) ∨ (65 ≤ c ∧ c ≤ 90) ∨ (97 ≤ c ∧ c ≤ 122)
theorem own_al {c : Int} (h : own_a c) : own_l c := by
  rcases h with h | h | h | h
  · exact Or.inl h
  · exact Or.inr (Or.inl h)
  · exact Or.inr (Or.inr (Or.inl h))
  · exact Or.inr (Or.inr (Or.inr (Or.inl h)))
theorem own_ints (l : List Int32) (vs : List Value) (h : vs = l.map Value.int) (j : Nat) : ∃ z, vs.getD j (.int (0 : Int32)) = .int z := by
  subst h
  simp only [List.getD_eq_getElem?_getD, List.getElem?_map]
  cases l[j]? with
  | none => exact ⟨0, rfl⟩
  | some z => exact ⟨z, rfl⟩
theorem d1_0 : decode prog_116_method_4_code 0 = .ok (.iload_n 0, 1) := by decide +kernel
theorem d1_1 : decode prog_116_method_4_code 1 = .ok (.bipush 58, 2) := by decide +kernel
theorem d1_3 : decode prog_116_method_4_code 3 = .ok (.if_icmp .eq 33, 3) := by decide +kernel
theorem d1_6 : decode prog_116_method_4_code 6 = .ok (.iload_n 0, 1) := by decide +kernel
theorem d1_7 : decode prog_116_method_4_code 7 = .ok (.bipush 95, 2) := by decide +kernel
theorem d1_9 : decode prog_116_method_4_code 9 = .ok (.if_icmp .eq 27, 3) := by decide +kernel
theorem d1_12 : decode prog_116_method_4_code 12 = .ok (.iload_n 0, 1) := by decide +kernel
theorem d1_13 : decode prog_116_method_4_code 13 = .ok (.bipush 65, 2) := by decide +kernel
theorem d1_15 : decode prog_116_method_4_code 15 = .ok (.if_icmp .lt 9, 3) := by decide +kernel
theorem d1_18 : decode prog_116_method_4_code 18 = .ok (.iload_n 0, 1) := by decide +kernel
theorem d1_19 : decode prog_116_method_4_code 19 = .ok (.bipush 90, 2) := by decide +kernel
theorem d1_21 : decode prog_116_method_4_code 21 = .ok (.if_icmp .le 15, 3) := by decide +kernel
theorem d1_24 : decode prog_116_method_4_code 24 = .ok (.iload_n 0, 1) := by decide +kernel
theorem d1_25 : decode prog_116_method_4_code 25 = .ok (.bipush 97, 2) := by decide +kernel
theorem d1_27 : decode prog_116_method_4_code 27 = .ok (.if_icmp .lt 13, 3) := by decide +kernel
theorem d1_30 : decode prog_116_method_4_code 30 = .ok (.iload_n 0, 1) := by decide +kernel
theorem d1_31 : decode prog_116_method_4_code 31 = .ok (.bipush 122, 2) := by decide +kernel
theorem d1_33 : decode prog_116_method_4_code 33 = .ok (.if_icmp .gt 7, 3) := by decide +kernel
theorem d1_36 : decode prog_116_method_4_code 36 = .ok (.iconst 1, 1) := by decide +kernel
theorem d1_37 : decode prog_116_method_4_code 37 = .ok (.goto 4, 3) := by decide +kernel
theorem d1_40 : decode prog_116_method_4_code 40 = .ok (.iconst 0, 1) := by decide +kernel
theorem d1_41 : decode prog_116_method_4_code 41 = .ok (.istore_n 1, 1) := by decide +kernel
theorem d1_42 : decode prog_116_method_4_code 42 = .ok (.iconst 0, 1) := by decide +kernel
theorem d1_43 : decode prog_116_method_4_code 43 = .ok (.istore_n 2, 1) := by decide +kernel
theorem d1_44 : decode prog_116_method_4_code 44 = .ok (.iload_n 1, 1) := by decide +kernel
theorem d1_45 : decode prog_116_method_4_code 45 = .ok (.ifCond .ne 43, 3) := by decide +kernel
theorem d1_48 : decode prog_116_method_4_code 48 = .ok (.iload_n 2, 1) := by decide +kernel
theorem d1_49 : decode prog_116_method_4_code 49 = .ok (.getstatic 12, 3) := by decide +kernel
theorem d1_52 : decode prog_116_method_4_code 52 = .ok (.arraylength, 1) := by decide +kernel
theorem d1_53 : decode prog_116_method_4_code 53 = .ok (.if_icmp .ge 35, 3) := by decide +kernel
theorem d1_56 : decode prog_116_method_4_code 56 = .ok (.iload_n 0, 1) := by decide +kernel
theorem d1_57 : decode prog_116_method_4_code 57 = .ok (.getstatic 12, 3) := by decide +kernel
theorem d1_60 : decode prog_116_method_4_code 60 = .ok (.iload_n 2, 1) := by decide +kernel
theorem d1_61 : decode prog_116_method_4_code 61 = .ok (.iaload, 1) := by decide +kernel
theorem d1_62 : decode prog_116_method_4_code 62 = .ok (.if_icmp .lt 26, 3) := by decide +kernel
theorem d1_65 : decode prog_116_method_4_code 65 = .ok (.iload_n 0, 1) := by decide +kernel
theorem d1_66 : decode prog_116_method_4_code 66 = .ok (.getstatic 12, 3) := by decide +kernel
theorem d1_69 : decode prog_116_method_4_code 69 = .ok (.iload_n 2, 1) := by decide +kernel
theorem d1_70 : decode prog_116_method_4_code 70 = .ok (.iconst 1, 1) := by decide +kernel
theorem d1_71 : decode prog_116_method_4_code 71 = .ok (.iadd, 1) := by decide +kernel
theorem d1_72 : decode prog_116_method_4_code 72 = .ok (.iaload, 1) := by decide +kernel
theorem d1_73 : decode prog_116_method_4_code 73 = .ok (.if_icmp .gt 7, 3) := by decide +kernel
theorem d1_76 : decode prog_116_method_4_code 76 = .ok (.iconst 1, 1) := by decide +kernel
theorem d1_77 : decode prog_116_method_4_code 77 = .ok (.goto 4, 3) := by decide +kernel
theorem d1_80 : decode prog_116_method_4_code 80 = .ok (.iconst 0, 1) := by decide +kernel
theorem d1_81 : decode prog_116_method_4_code 81 = .ok (.istore_n 1, 1) := by decide +kernel
theorem d1_82 : decode prog_116_method_4_code 82 = .ok (.iinc 2 2, 3) := by decide +kernel
theorem d1_85 : decode prog_116_method_4_code 85 = .ok (.goto (-41), 3) := by decide +kernel
theorem d1_88 : decode prog_116_method_4_code 88 = .ok (.iload_n 1, 1) := by decide +kernel
theorem d1_89 : decode prog_116_method_4_code 89 = .ok (.ireturn, 1) := by decide +kernel
theorem pn_0 : plainName "com/example/xtd/xtd/model/XmlCharacters" = true := by first | (simp [plainName, overriddenIn]; done) | decide +kernel
theorem ef_isl (m : MethodId) (x0 : Int32) : entryFrame m #[(.int x0)] 3 = mkF m 0 #[.val (.int x0), .unset, .unset] [] := by first | (simp [entryFrame, mkF, argsToLocals, Value.category]; done) | rfl
def Qisl (Z : State) (p1 : Int32) (w : Addr) (kw : ClassId) (h0 : Heap) (n0 : Nat) (v : Option Value) (h : Heap) (L : List Loc) : Prop := v = some (.int (if own_l (Int32.toInt p1) then (1 : Int32) else (0 : Int32))) ∧ Fr n0 L ∧ h = h0
set_option maxRecDepth 65536 in
set_option maxHeartbeats 40000000 in
theorem rmisl (l : Launch) (Z : State) (a0 : Array Value) (hw : ∀ d ∈ tables_1, d.before a0 Z = true) (ws : List Jvm.Cond) (p1 : Int32) (w : Addr) (kw : ClassId) (h0 : Heap) (n0 : Nat) (Z0 : n0 ≤ h0.size) (V_w : Arv Z h0 w kw .int (24 : Int32) [(.int (192 : Int32)), (.int (214 : Int32)), (.int (216 : Int32)), (.int (246 : Int32)), (.int (248 : Int32)), (.int (767 : Int32)), (.int (880 : Int32)), (.int (893 : Int32)), (.int (895 : Int32)), (.int (8191 : Int32)), (.int (8204 : Int32)), (.int (8205 : Int32)), (.int (8304 : Int32)), (.int (8591 : Int32)), (.int (11264 : Int32)), (.int (12271 : Int32)), (.int (12289 : Int32)), (.int (55295 : Int32)), (.int (63744 : Int32)), (.int (64975 : Int32)), (.int (65008 : Int32)), (.int (65533 : Int32)), (.int (65536 : Int32)), (.int (983039 : Int32))] (.int (0 : Int32))) (S_NAME_START_RANGES : Sta Z h0 "com/example/xtd/xtd/model/XmlCharacters" "NAME_START_RANGES" "[I" (.ref w)) :
    MetFree l (⟨"com/example/xtd/xtd/model/XmlCharacters", "isNameStart", "(I)Z"⟩ : MethodName) (head1 (Jvm.Cond.code (⟨"com/example/xtd/xtd/model/XmlCharacters", "isNameStart", "(I)Z"⟩ : MethodName) prog_116_method_4_code 3 (some .boolean) :: ws) ({ frames := 0, cells := 0, slots := 0, locals := 0 } : Room)) (fun aS U => aS = #[(.int p1)] ∧ Z.Warmed39 U.vm ∧ U.heap = h0) (fun _ _ _ _ _ => True) (fun _ U o U' => ∃ v L, o = .returned v ∧ Qisl Z p1 w kw h0 n0 v U'.heap L ∧ FrameEnd U o U' L ({ frames := 0, cells := 0, slots := 0, locals := 0 } : Room).cells ({ frames := 0, cells := 0, slots := 0, locals := 0 } : Room).slots) := by
  refine MetFree.of_bodySF (plainFor_of_name pn_0) hisR ?_
  intro p e s m args below meth c s₁ Bd hml0 hP hK
  obtain ⟨rfl, hZ, hh⟩ := hP
  have hx := Bd.exec
  have hby := Bd.bytes
  have hml : c.maxLocals = 3 := hml0
  have hown : s.vm.findClass "com/example/xtd/xtd/model/XmlCharacters" = some m.cls := findClass_of_methodNamed Bd.named
  have hnm := (name_of_methodNamed Bd.named Bd.method).1
  have X0 : Stand p l e ({ frames := 0, cells := 0, slots := 0, locals := 0 } : Room) s m #[(.int p1)] below meth c s₁ [] 0 0 := Stand.of_body Bd
  have e0 : s₁.heap = h0 := by rw [← hh, Bd.state]; rfl
  have N0 := Fr.nil n0
  have Kh : Keep h0 h0 [] := Keep.refl _ _
  suffices H : own_R p e below (own_E s below (Qisl Z p1 w kw h0 n0) ({ frames := 0, cells := 0, slots := 0, locals := 0 } : Room).cells ({ frames := 0, cells := 0, slots := 0, locals := 0 } : Room).slots) s₁ (mkF m 0 #[.val (.int p1), .unset, .unset] []) by
    obtain ⟨t, hst, hrun, v, L, hend, hQ, hF⟩ := H
    exact ⟨t, _, castTop (ef_isl m p1) hst, hrun, hend, v, L, rfl, hQ, hF⟩
  show own_R p e below _ s₁ (mkF m 0 #[.val (.int p1), .unset, .unset] [])
  obtain ⟨_, st1, T1, L1, rfl, X1, e1, N1⟩ : own_R p e below (own_K p l e _ s m _ below meth c n0 0 0 (fun h => h = h0) (mkF m 41 #[.val (.int p1), .unset, .unset] [(.int (if own_a p1.toInt then (1 : Int32) else (0 : Int32)))])) s₁ (mkF m 0 #[.val (.int p1), .unset, .unset] []) := by
    refine own_go (fun t k => XS.iloadN X0.here hx rfl (hb hby d1_0) rfl  k) ?_
    show own_R p e below _ s₁ (mkF m 1 #[.val (.int p1), .unset, .unset] [(.int p1)])
    refine own_go (fun t k => XS.bipush X0.here hx rfl (hb hby d1_1) k) ?_
    show own_R p e below _ s₁ (mkF m 3 #[.val (.int p1), .unset, .unset] [(.int (58 : Int32)), (.int p1)])
    by_cases hc3_2 : p1 = (58 : Int32)
    · -- pc 3: yes
      refine own_go (fun t k => XS.icmpYes X0.here hx rfl (pc0 := 3) (pc' := 36) rfl (hb hby d1_3) rfl (teq hc3_2).1 (by decide) (by decide) k) ?_
      show own_R p e below _ s₁ (mkF m 36 #[.val (.int p1), .unset, .unset] [])
      refine own_go (fun t k => XS.iconst X0.here hx rfl (hb hby d1_36) k) ?_
      show own_R p e below _ s₁ (mkF m 37 #[.val (.int p1), .unset, .unset] [(.int (1 : Int32))])
      refine own_go (fun t k => XS.goto X0.here hx rfl (pc0 := 37) (pc' := 41) rfl (hb hby d1_37) (by decide) (by decide) k) ?_
      show own_R p e below _ s₁ (mkF m 41 #[.val (.int p1), .unset, .unset] [(.int (1 : Int32))])
      have z4 : p1.toInt = 58 := own_eqi hc3_2 rfl rfl
      have hv3 : (if own_a p1.toInt then (1 : Int32) else (0 : Int32)) = (1 : Int32) := if_pos (by unfold own_a; omega)
      rw [hv3]
      exact own_here X0 e0 N0
    · -- pc 3: no
      refine own_go (fun t k => XS.icmpNo X0.here hx rfl (hb hby d1_3) rfl (feq hc3_2).1 k) ?_
      show own_R p e below _ s₁ (mkF m 6 #[.val (.int p1), .unset, .unset] [])
      refine own_go (fun t k => XS.iloadN X0.here hx rfl (hb hby d1_6) rfl  k) ?_
      show own_R p e below _ s₁ (mkF m 7 #[.val (.int p1), .unset, .unset] [(.int p1)])
      refine own_go (fun t k => XS.bipush X0.here hx rfl (hb hby d1_7) k) ?_
      show own_R p e below _ s₁ (mkF m 9 #[.val (.int p1), .unset, .unset] [(.int (95 : Int32)), (.int p1)])
      by_cases hc9_5 : p1 = (95 : Int32)
      · -- pc 9: yes
        refine own_go (fun t k => XS.icmpYes X0.here hx rfl (pc0 := 9) (pc' := 36) rfl (hb hby d1_9) rfl (teq hc9_5).1 (by decide) (by decide) k) ?_
        show own_R p e below _ s₁ (mkF m 36 #[.val (.int p1), .unset, .unset] [])
        refine own_go (fun t k => XS.iconst X0.here hx rfl (hb hby d1_36) k) ?_
        show own_R p e below _ s₁ (mkF m 37 #[.val (.int p1), .unset, .unset] [(.int (1 : Int32))])
        refine own_go (fun t k => XS.goto X0.here hx rfl (pc0 := 37) (pc' := 41) rfl (hb hby d1_37) (by decide) (by decide) k) ?_
        show own_R p e below _ s₁ (mkF m 41 #[.val (.int p1), .unset, .unset] [(.int (1 : Int32))])
        have z7 : p1.toInt ≠ 58 := own_nei hc3_2 rfl rfl
        have z8 : p1.toInt = 95 := own_eqi hc9_5 rfl rfl
        have hv6 : (if own_a p1.toInt then (1 : Int32) else (0 : Int32)) = (1 : Int32) := if_pos (by unfold own_a; omega)
        rw [hv6]
        exact own_here X0 e0 N0
      · -- pc 9: no
        refine own_go (fun t k => XS.icmpNo X0.here hx rfl (hb hby d1_9) rfl (feq hc9_5).1 k) ?_
        show own_R p e below _ s₁ (mkF m 12 #[.val (.int p1), .unset, .unset] [])
        refine own_go (fun t k => XS.iloadN X0.here hx rfl (hb hby d1_12) rfl  k) ?_
        show own_R p e below _ s₁ (mkF m 13 #[.val (.int p1), .unset, .unset] [(.int p1)])
        refine own_go (fun t k => XS.bipush X0.here hx rfl (hb hby d1_13) k) ?_
        show own_R p e below _ s₁ (mkF m 15 #[.val (.int p1), .unset, .unset] [(.int (65 : Int32)), (.int p1)])
        by_cases hc15_9 : p1 < (65 : Int32)
        · -- pc 15: yes
          refine own_go (fun t k => XS.icmpYes X0.here hx rfl (pc0 := 15) (pc' := 24) rfl (hb hby d1_15) rfl (tlt hc15_9).1 (by decide) (by decide) k) ?_
          show own_R p e below _ s₁ (mkF m 24 #[.val (.int p1), .unset, .unset] [])
          refine own_go (fun t k => XS.iloadN X0.here hx rfl (hb hby d1_24) rfl  k) ?_
          show own_R p e below _ s₁ (mkF m 25 #[.val (.int p1), .unset, .unset] [(.int p1)])
          refine own_go (fun t k => XS.bipush X0.here hx rfl (hb hby d1_25) k) ?_
          show own_R p e below _ s₁ (mkF m 27 #[.val (.int p1), .unset, .unset] [(.int (97 : Int32)), (.int p1)])
          by_cases hc27_10 : p1 < (97 : Int32)
          · -- pc 27: yes
            refine own_go (fun t k => XS.icmpYes X0.here hx rfl (pc0 := 27) (pc' := 40) rfl (hb hby d1_27) rfl (tlt hc27_10).1 (by decide) (by decide) k) ?_
            show own_R p e below _ s₁ (mkF m 40 #[.val (.int p1), .unset, .unset] [])
            refine own_go (fun t k => XS.iconst X0.here hx rfl (hb hby d1_40) k) ?_
            show own_R p e below _ s₁ (mkF m 41 #[.val (.int p1), .unset, .unset] [(.int (0 : Int32))])
            have z12 : p1.toInt ≠ 58 := own_nei hc3_2 rfl rfl
            have z13 : p1.toInt ≠ 95 := own_nei hc9_5 rfl rfl
            have z14 : p1.toInt < 65 := own_lti hc15_9 rfl rfl
            have z15 : p1.toInt < 97 := own_lti hc27_10 rfl rfl
            have hv11 : (if own_a p1.toInt then (1 : Int32) else (0 : Int32)) = (0 : Int32) := if_neg (by unfold own_a; omega)
            rw [hv11]
            exact own_here X0 e0 N0
          · -- pc 27: no
            refine own_go (fun t k => XS.icmpNo X0.here hx rfl (hb hby d1_27) rfl (flt hc27_10).1 k) ?_
            show own_R p e below _ s₁ (mkF m 30 #[.val (.int p1), .unset, .unset] [])
            refine own_go (fun t k => XS.iloadN X0.here hx rfl (hb hby d1_30) rfl  k) ?_
            show own_R p e below _ s₁ (mkF m 31 #[.val (.int p1), .unset, .unset] [(.int p1)])
            refine own_go (fun t k => XS.bipush X0.here hx rfl (hb hby d1_31) k) ?_
            show own_R p e below _ s₁ (mkF m 33 #[.val (.int p1), .unset, .unset] [(.int (122 : Int32)), (.int p1)])
            by_cases hc33_16 : (122 : Int32) < p1
            · -- pc 33: yes
              refine own_go (fun t k => XS.icmpYes X0.here hx rfl (pc0 := 33) (pc' := 40) rfl (hb hby d1_33) rfl (tlt hc33_16).2.2.1 (by decide) (by decide) k) ?_
              show own_R p e below _ s₁ (mkF m 40 #[.val (.int p1), .unset, .unset] [])
              refine own_go (fun t k => XS.iconst X0.here hx rfl (hb hby d1_40) k) ?_
              show own_R p e below _ s₁ (mkF m 41 #[.val (.int p1), .unset, .unset] [(.int (0 : Int32))])
              have z18 : p1.toInt ≠ 58 := own_nei hc3_2 rfl rfl
              have z19 : p1.toInt ≠ 95 := own_nei hc9_5 rfl rfl
              have z20 : p1.toInt < 65 := own_lti hc15_9 rfl rfl
              have z21 : 97 ≤ p1.toInt := own_nlti hc27_10 rfl rfl
              have z22 : 122 < p1.toInt := own_lti hc33_16 rfl rfl
              have hv17 : (if own_a p1.toInt then (1 : Int32) else (0 : Int32)) = (0 : Int32) := if_neg (by unfold own_a; omega)
              rw [hv17]
              exact own_here X0 e0 N0
            · -- pc 33: no
              refine own_go (fun t k => XS.icmpNo X0.here hx rfl (hb hby d1_33) rfl (flt hc33_16).2.2.1 k) ?_
              show own_R p e below _ s₁ (mkF m 36 #[.val (.int p1), .unset, .unset] [])
              refine own_go (fun t k => XS.iconst X0.here hx rfl (hb hby d1_36) k) ?_
              show own_R p e below _ s₁ (mkF m 37 #[.val (.int p1), .unset, .unset] [(.int (1 : Int32))])
              refine own_go (fun t k => XS.goto X0.here hx rfl (pc0 := 37) (pc' := 41) rfl (hb hby d1_37) (by decide) (by decide) k) ?_
              show own_R p e below _ s₁ (mkF m 41 #[.val (.int p1), .unset, .unset] [(.int (1 : Int32))])
              have z24 : p1.toInt ≠ 58 := own_nei hc3_2 rfl rfl
              have z25 : p1.toInt ≠ 95 := own_nei hc9_5 rfl rfl
              have z26 : p1.toInt < 65 := own_lti hc15_9 rfl rfl
              have z27 : 97 ≤ p1.toInt := own_nlti hc27_10 rfl rfl
              have z28 : p1.toInt ≤ 122 := own_nlti hc33_16 rfl rfl
              have hv23 : (if own_a p1.toInt then (1 : Int32) else (0 : Int32)) = (1 : Int32) := if_pos (by unfold own_a; omega)
              rw [hv23]
              exact own_here X0 e0 N0
        · -- pc 15: no
          refine own_go (fun t k => XS.icmpNo X0.here hx rfl (hb hby d1_15) rfl (flt hc15_9).1 k) ?_
          show own_R p e below _ s₁ (mkF m 18 #[.val (.int p1), .unset, .unset] [])
          refine own_go (fun t k => XS.iloadN X0.here hx rfl (hb hby d1_18) rfl  k) ?_
          show own_R p e below _ s₁ (mkF m 19 #[.val (.int p1), .unset, .unset] [(.int p1)])
          refine own_go (fun t k => XS.bipush X0.here hx rfl (hb hby d1_19) k) ?_
          show own_R p e below _ s₁ (mkF m 21 #[.val (.int p1), .unset, .unset] [(.int (90 : Int32)), (.int p1)])
          by_cases hc21_29 : (90 : Int32) < p1
          · -- pc 21: yes
            refine own_go (fun t k => XS.icmpNo X0.here hx rfl (hb hby d1_21) rfl (tlt hc21_29).2.2.2 k) ?_
            show own_R p e below _ s₁ (mkF m 24 #[.val (.int p1), .unset, .unset] [])
            refine own_go (fun t k => XS.iloadN X0.here hx rfl (hb hby d1_24) rfl  k) ?_
            show own_R p e below _ s₁ (mkF m 25 #[.val (.int p1), .unset, .unset] [(.int p1)])
            refine own_go (fun t k => XS.bipush X0.here hx rfl (hb hby d1_25) k) ?_
            show own_R p e below _ s₁ (mkF m 27 #[.val (.int p1), .unset, .unset] [(.int (97 : Int32)), (.int p1)])
            by_cases hc27_30 : p1 < (97 : Int32)
            · -- pc 27: yes
              refine own_go (fun t k => XS.icmpYes X0.here hx rfl (pc0 := 27) (pc' := 40) rfl (hb hby d1_27) rfl (tlt hc27_30).1 (by decide) (by decide) k) ?_
              show own_R p e below _ s₁ (mkF m 40 #[.val (.int p1), .unset, .unset] [])
              refine own_go (fun t k => XS.iconst X0.here hx rfl (hb hby d1_40) k) ?_
              show own_R p e below _ s₁ (mkF m 41 #[.val (.int p1), .unset, .unset] [(.int (0 : Int32))])
              have z32 : p1.toInt ≠ 58 := own_nei hc3_2 rfl rfl
              have z33 : p1.toInt ≠ 95 := own_nei hc9_5 rfl rfl
              have z34 : 65 ≤ p1.toInt := own_nlti hc15_9 rfl rfl
              have z35 : 90 < p1.toInt := own_lti hc21_29 rfl rfl
              have z36 : p1.toInt < 97 := own_lti hc27_30 rfl rfl
              have hv31 : (if own_a p1.toInt then (1 : Int32) else (0 : Int32)) = (0 : Int32) := if_neg (by unfold own_a; omega)
              rw [hv31]
              exact own_here X0 e0 N0
            · -- pc 27: no
              refine own_go (fun t k => XS.icmpNo X0.here hx rfl (hb hby d1_27) rfl (flt hc27_30).1 k) ?_
              show own_R p e below _ s₁ (mkF m 30 #[.val (.int p1), .unset, .unset] [])
              refine own_go (fun t k => XS.iloadN X0.here hx rfl (hb hby d1_30) rfl  k) ?_
              show own_R p e below _ s₁ (mkF m 31 #[.val (.int p1), .unset, .unset] [(.int p1)])
              refine own_go (fun t k => XS.bipush X0.here hx rfl (hb hby d1_31) k) ?_
              show own_R p e below _ s₁ (mkF m 33 #[.val (.int p1), .unset, .unset] [(.int (122 : Int32)), (.int p1)])
              by_cases hc33_37 : (122 : Int32) < p1
              · -- pc 33: yes
                refine own_go (fun t k => XS.icmpYes X0.here hx rfl (pc0 := 33) (pc' := 40) rfl (hb hby d1_33) rfl (tlt hc33_37).2.2.1 (by decide) (by decide) k) ?_
                show own_R p e below _ s₁ (mkF m 40 #[.val (.int p1), .unset, .unset] [])
                refine own_go (fun t k => XS.iconst X0.here hx rfl (hb hby d1_40) k) ?_
                show own_R p e below _ s₁ (mkF m 41 #[.val (.int p1), .unset, .unset] [(.int (0 : Int32))])
                have z39 : p1.toInt ≠ 58 := own_nei hc3_2 rfl rfl
                have z40 : p1.toInt ≠ 95 := own_nei hc9_5 rfl rfl
                have z41 : 65 ≤ p1.toInt := own_nlti hc15_9 rfl rfl
                have z42 : 90 < p1.toInt := own_lti hc21_29 rfl rfl
                have z43 : 97 ≤ p1.toInt := own_nlti hc27_30 rfl rfl
                have z44 : 122 < p1.toInt := own_lti hc33_37 rfl rfl
                have hv38 : (if own_a p1.toInt then (1 : Int32) else (0 : Int32)) = (0 : Int32) := if_neg (by unfold own_a; omega)
                rw [hv38]
                exact own_here X0 e0 N0
              · -- pc 33: no
                refine own_go (fun t k => XS.icmpNo X0.here hx rfl (hb hby d1_33) rfl (flt hc33_37).2.2.1 k) ?_
                show own_R p e below _ s₁ (mkF m 36 #[.val (.int p1), .unset, .unset] [])
                refine own_go (fun t k => XS.iconst X0.here hx rfl (hb hby d1_36) k) ?_
                show own_R p e below _ s₁ (mkF m 37 #[.val (.int p1), .unset, .unset] [(.int (1 : Int32))])
                refine own_go (fun t k => XS.goto X0.here hx rfl (pc0 := 37) (pc' := 41) rfl (hb hby d1_37) (by decide) (by decide) k) ?_
                show own_R p e below _ s₁ (mkF m 41 #[.val (.int p1), .unset, .unset] [(.int (1 : Int32))])
                have z46 : p1.toInt ≠ 58 := own_nei hc3_2 rfl rfl
                have z47 : p1.toInt ≠ 95 := own_nei hc9_5 rfl rfl
                have z48 : 65 ≤ p1.toInt := own_nlti hc15_9 rfl rfl
                have z49 : 90 < p1.toInt := own_lti hc21_29 rfl rfl
                have z50 : 97 ≤ p1.toInt := own_nlti hc27_30 rfl rfl
                have z51 : p1.toInt ≤ 122 := own_nlti hc33_37 rfl rfl
                have hv45 : (if own_a p1.toInt then (1 : Int32) else (0 : Int32)) = (1 : Int32) := if_pos (by unfold own_a; omega)
                rw [hv45]
                exact own_here X0 e0 N0
          · -- pc 21: no
            refine own_go (fun t k => XS.icmpYes X0.here hx rfl (pc0 := 21) (pc' := 36) rfl (hb hby d1_21) rfl (flt hc21_29).2.2.2 (by decide) (by decide) k) ?_
            show own_R p e below _ s₁ (mkF m 36 #[.val (.int p1), .unset, .unset] [])
            refine own_go (fun t k => XS.iconst X0.here hx rfl (hb hby d1_36) k) ?_
            show own_R p e below _ s₁ (mkF m 37 #[.val (.int p1), .unset, .unset] [(.int (1 : Int32))])
            refine own_go (fun t k => XS.goto X0.here hx rfl (pc0 := 37) (pc' := 41) rfl (hb hby d1_37) (by decide) (by decide) k) ?_
            show own_R p e below _ s₁ (mkF m 41 #[.val (.int p1), .unset, .unset] [(.int (1 : Int32))])
            have z53 : p1.toInt ≠ 58 := own_nei hc3_2 rfl rfl
            have z54 : p1.toInt ≠ 95 := own_nei hc9_5 rfl rfl
            have z55 : 65 ≤ p1.toInt := own_nlti hc15_9 rfl rfl
            have z56 : p1.toInt ≤ 90 := own_nlti hc21_29 rfl rfl
            have hv52 : (if own_a p1.toInt then (1 : Int32) else (0 : Int32)) = (1 : Int32) := if_pos (by unfold own_a; omega)
            rw [hv52]
            exact own_here X0 e0 N0
  refine own_go (fun t k => st1.trans k) ?_
  show own_R p e below _ T1 (mkF m 41 #[.val (.int p1), .unset, .unset] [(.int (if own_a p1.toInt then (1 : Int32) else (0 : Int32)))])
  refine own_go (fun t k => XS.istoreN X1.here hx rfl (hb hby d1_41) rfl (l' := #[.val (.int p1), .val (.int (if own_a p1.toInt then (1 : Int32) else (0 : Int32))), .unset]) rfl k) ?_
  show own_R p e below _ T1 (mkF m 42 #[.val (.int p1), .val (.int (if own_a p1.toInt then (1 : Int32) else (0 : Int32))), .unset] [])
  refine own_go (fun t k => XS.iconst X1.here hx rfl (hb hby d1_42) k) ?_
  show own_R p e below _ T1 (mkF m 43 #[.val (.int p1), .val (.int (if own_a p1.toInt then (1 : Int32) else (0 : Int32))), .unset] [(.int (0 : Int32))])
  refine own_go (fun t k => XS.istoreN X1.here hx rfl (hb hby d1_43) rfl (l' := #[.val (.int p1), .val (.int (if own_a p1.toInt then (1 : Int32) else (0 : Int32))), .val (.int (0 : Int32))]) rfl k) ?_
  show own_R p e below _ T1 (mkF m 44 #[.val (.int p1), .val (.int (if own_a p1.toInt then (1 : Int32) else (0 : Int32))), .val (.int (0 : Int32))] [])
  refine own_go (fun t k => XS.iloadN X1.here hx rfl (hb hby d1_44) rfl  k) ?_
  show own_R p e below _ T1 (mkF m 45 #[.val (.int p1), .val (.int (if own_a p1.toInt then (1 : Int32) else (0 : Int32))), .val (.int (0 : Int32))] [(.int (if own_a p1.toInt then (1 : Int32) else (0 : Int32)))])
  by_cases hA : own_a p1.toInt
  ·
    rw [if_pos hA]
    show own_R p e below _ T1 (mkF m 45 #[.val (.int p1), .val (.int (1 : Int32)), .val (.int (0 : Int32))] [(.int (1 : Int32))])
    refine own_go (fun t k => XS.ifYes X1.here hx rfl (pc0 := 45) (pc' := 88) rfl (hb hby d1_45) rfl ((if0 _ _).trans (feq (by decide : ¬ ((1 : Int32) = (0 : Int32)))).2) (by decide) (by decide) k) ?_
    show own_R p e below _ T1 (mkF m 88 #[.val (.int p1), .val (.int (1 : Int32)), .val (.int (0 : Int32))] [])
    refine own_go (fun t k => XS.iloadN X1.here hx rfl (hb hby d1_88) rfl  k) ?_
    show own_R p e below _ T1 (mkF m 89 #[.val (.int p1), .val (.int (1 : Int32)), .val (.int (0 : Int32))] [(.int (1 : Int32))])
    refine own_retN X1 hx Bd.returns (by simp) (BodyLoose.notSynchronized Bd) (hb hby d1_89) (by decide) (by decide) ?_
    exact ⟨by rw [if_pos (own_al hA)]; rfl, N1, e1⟩
  ·
    rw [if_neg hA]
    show own_R p e below _ T1 (mkF m 45 #[.val (.int p1), .val (.int (0 : Int32)), .val (.int (0 : Int32))] [(.int (0 : Int32))])
    refine own_go (fun t k => XS.ifNo X1.here hx rfl (hb hby d1_45) rfl ((if0 _ _).trans (teq (by decide : (0 : Int32) = (0 : Int32))).2) k) ?_
    show own_R p e below _ T1 (mkF m 48 #[.val (.int p1), .val (.int (0 : Int32)), .val (.int (0 : Int32))] [])
    refine own_go (fun t k => XS.iloadN X1.here hx rfl (hb hby d1_48) rfl  k) ?_
    show own_R p e below _ T1 (mkF m 49 #[.val (.int p1), .val (.int (0 : Int32)), .val (.int (0 : Int32))] [(.int (0 : Int32))])
    obtain ⟨T57, X57, e57, st57⟩ := getS2 X1 hx hZ hown (host := "") (Or.inl (hw _ (List.mem_of_getElem? (i := 15) rfl))) Via.refl e1 S_NAME_START_RANGES (g := (mkF m 49 #[.val (.int p1), .val (.int (0 : Int32)), .val (.int (0 : Int32))] [(.int (0 : Int32))])) rfl (hb hby d1_49)
    refine own_go (st57) ?_
    show own_R p e below _ T57 (mkF m 52 #[.val (.int p1), .val (.int (0 : Int32)), .val (.int (0 : Int32))] [(.ref w), (.int (0 : Int32))])
    obtain ⟨cl58, Ar58, q58, S58, Nn58, Hh58, G58⟩ := id V_w
    refine own_go (X57.arraylength hx (by rw [e57]; exact Ar58.1) (State.isArrayOf_alike hZ.alike Ar58.2.1) (g := (mkF m 52 #[.val (.int p1), .val (.int (0 : Int32)), .val (.int (0 : Int32))] [(.ref w), (.int (0 : Int32))])) rfl rfl (hb hby d1_52)) ?_
    rw [len_of S58 Nn58]
    show own_R p e below _ T57 (mkF m 53 #[.val (.int p1), .val (.int (0 : Int32)), .val (.int (0 : Int32))] [(.int (24 : Int32)), (.int (0 : Int32))])
    refine own_go (fun t k => XS.icmpNo X57.here hx rfl (hb hby d1_53) rfl (tlt (by decide : (0 : Int32) < (24 : Int32))).2.1 k) ?_
    show own_R p e below _ T57 (mkF m 56 #[.val (.int p1), .val (.int (0 : Int32)), .val (.int (0 : Int32))] [])
    refine own_go (fun t k => XS.iloadN X57.here hx rfl (hb hby d1_56) rfl  k) ?_
    show own_R p e below _ T57 (mkF m 57 #[.val (.int p1), .val (.int (0 : Int32)), .val (.int (0 : Int32))] [(.int p1)])
    obtain ⟨T59, X59, e59, st59⟩ := getS2 X57 hx hZ hown (host := "") (Or.inl (hw _ (List.mem_of_getElem? (i := 15) rfl))) Via.refl e57 S_NAME_START_RANGES (g := (mkF m 57 #[.val (.int p1), .val (.int (0 : Int32)), .val (.int (0 : Int32))] [(.int p1)])) rfl (hb hby d1_57)
    refine own_go (st59) ?_
    show own_R p e below _ T59 (mkF m 60 #[.val (.int p1), .val (.int (0 : Int32)), .val (.int (0 : Int32))] [(.ref w), (.int p1)])
    refine own_go (fun t k => XS.iloadN X59.here hx rfl (hb hby d1_60) rfl  k) ?_
    show own_R p e below _ T59 (mkF m 61 #[.val (.int p1), .val (.int (0 : Int32)), .val (.int (0 : Int32))] [(.int (0 : Int32)), (.ref w), (.int p1)])
    obtain ⟨cl60, Ar60, q60, S60, Nn60, Hh60, G60⟩ := id V_w
    have hin60 : ¬ ((0 : Int32) < 0 ∨ cl60.slots.size ≤ ((0 : Int32)).toNatClampNeg) := inb_of S60 ⟨by decide, by decide⟩
    have hat60 : cl60.slots[((0 : Int32)).toNatClampNeg]? = some (.int (192 : Int32)) := Has.at Hh60 hin60 rfl
    refine own_go (X59.iaload hx (j := (0 : Int32)) (v := (.int (192 : Int32))) (by rw [e59]; exact Ar60.1) (State.isArrayOf_alike hZ.alike Ar60.2.1) Ar60.2.2 hin60 hat60 (g := (mkF m 61 #[.val (.int p1), .val (.int (0 : Int32)), .val (.int (0 : Int32))] [(.int (0 : Int32)), (.ref w), (.int p1)])) rfl rfl (hb hby d1_61)) ?_
    show own_R p e below _ T59 (mkF m 62 #[.val (.int p1), .val (.int (0 : Int32)), .val (.int (0 : Int32))] [(.int (192 : Int32)), (.int p1)])
    by_cases hc62_61 : p1 < (192 : Int32)
    · -- pc 62: yes
      refine own_go (fun t k => XS.icmpYes X59.here hx rfl (pc0 := 62) (pc' := 88) rfl (hb hby d1_62) rfl (tlt hc62_61).1 (by decide) (by decide) k) ?_
      show own_R p e below _ T59 (mkF m 88 #[.val (.int p1), .val (.int (0 : Int32)), .val (.int (0 : Int32))] [])
      refine own_go (fun t k => XS.iloadN X59.here hx rfl (hb hby d1_88) rfl  k) ?_
      show own_R p e below _ T59 (mkF m 89 #[.val (.int p1), .val (.int (0 : Int32)), .val (.int (0 : Int32))] [(.int (0 : Int32))])
      refine own_retN X59 hx Bd.returns (by simp) (BodyLoose.notSynchronized Bd) (hb hby d1_89) (by decide) (by decide) ?_
      have z62 : p1.toInt < 192 := own_lti hc62_61 rfl rfl
      have hn : ¬ own_l p1.toInt := by
        intro q
        rcases q with q | q | q | q | q | q | q | q | q | q | q | q | q | q | q | q
        · exact hA (Or.inl (q))
        · exact hA (Or.inr (Or.inl (q)))
        · exact hA (Or.inr (Or.inr (Or.inl (q))))
        · exact hA (Or.inr (Or.inr (Or.inr (q))))
        all_goals (clear hA; omega)
      exact ⟨by rw [if_neg hn]; rfl, N1, e59⟩
    · -- pc 62: no
      refine own_go (fun t k => XS.icmpNo X59.here hx rfl (hb hby d1_62) rfl (flt hc62_61).1 k) ?_
      show own_R p e below _ T59 (mkF m 65 #[.val (.int p1), .val (.int (0 : Int32)), .val (.int (0 : Int32))] [])
      refine own_go (fun t k => XS.iloadN X59.here hx rfl (hb hby d1_65) rfl  k) ?_
      show own_R p e below _ T59 (mkF m 66 #[.val (.int p1), .val (.int (0 : Int32)), .val (.int (0 : Int32))] [(.int p1)])
      obtain ⟨T63, X63, e63, st63⟩ := getS2 X59 hx hZ hown (host := "") (Or.inl (hw _ (List.mem_of_getElem? (i := 15) rfl))) Via.refl e59 S_NAME_START_RANGES (g := (mkF m 66 #[.val (.int p1), .val (.int (0 : Int32)), .val (.int (0 : Int32))] [(.int p1)])) rfl (hb hby d1_66)
      refine own_go (st63) ?_
      show own_R p e below _ T63 (mkF m 69 #[.val (.int p1), .val (.int (0 : Int32)), .val (.int (0 : Int32))] [(.ref w), (.int p1)])
      refine own_go (fun t k => XS.iloadN X63.here hx rfl (hb hby d1_69) rfl  k) ?_
      show own_R p e below _ T63 (mkF m 70 #[.val (.int p1), .val (.int (0 : Int32)), .val (.int (0 : Int32))] [(.int (0 : Int32)), (.ref w), (.int p1)])
      refine own_go (fun t k => XS.iconst X63.here hx rfl (hb hby d1_70) k) ?_
      show own_R p e below _ T63 (mkF m 71 #[.val (.int p1), .val (.int (0 : Int32)), .val (.int (0 : Int32))] [(.int (1 : Int32)), (.int (0 : Int32)), (.ref w), (.int p1)])
      refine own_go (fun t k => XS.iadd X63.here hx rfl (hb hby d1_71) rfl k) ?_
      show own_R p e below _ T63 (mkF m 72 #[.val (.int p1), .val (.int (0 : Int32)), .val (.int (0 : Int32))] [(.int (1 : Int32)), (.ref w), (.int p1)])
      obtain ⟨cl64, Ar64, q64, S64, Nn64, Hh64, G64⟩ := id V_w
      have hin64 : ¬ ((1 : Int32) < 0 ∨ cl64.slots.size ≤ ((1 : Int32)).toNatClampNeg) := inb_of S64 ⟨by decide, by decide⟩
      have hat64 : cl64.slots[((1 : Int32)).toNatClampNeg]? = some (.int (214 : Int32)) := Has.at Hh64 hin64 rfl
      refine own_go (X63.iaload hx (j := (1 : Int32)) (v := (.int (214 : Int32))) (by rw [e63]; exact Ar64.1) (State.isArrayOf_alike hZ.alike Ar64.2.1) Ar64.2.2 hin64 hat64 (g := (mkF m 72 #[.val (.int p1), .val (.int (0 : Int32)), .val (.int (0 : Int32))] [(.int (1 : Int32)), (.ref w), (.int p1)])) rfl rfl (hb hby d1_72)) ?_
      show own_R p e below _ T63 (mkF m 73 #[.val (.int p1), .val (.int (0 : Int32)), .val (.int (0 : Int32))] [(.int (214 : Int32)), (.int p1)])
      by_cases hc73_65 : (214 : Int32) < p1
      · -- pc 73: yes
        refine own_go (fun t k => XS.icmpYes X63.here hx rfl (pc0 := 73) (pc' := 80) rfl (hb hby d1_73) rfl (tlt hc73_65).2.2.1 (by decide) (by decide) k) ?_
        show own_R p e below _ T63 (mkF m 80 #[.val (.int p1), .val (.int (0 : Int32)), .val (.int (0 : Int32))] [])
        refine own_go (fun t k => XS.iconst X63.here hx rfl (hb hby d1_80) k) ?_
        show own_R p e below _ T63 (mkF m 81 #[.val (.int p1), .val (.int (0 : Int32)), .val (.int (0 : Int32))] [(.int (0 : Int32))])
        refine own_go (fun t k => XS.istoreN X63.here hx rfl (hb hby d1_81) rfl (l' := #[.val (.int p1), .val (.int (0 : Int32)), .val (.int (0 : Int32))]) rfl k) ?_
        show own_R p e below _ T63 (mkF m 82 #[.val (.int p1), .val (.int (0 : Int32)), .val (.int (0 : Int32))] [])
        refine own_go (fun t k => XS.iinc X63.here hx rfl (hb hby d1_82) rfl (l' := #[.val (.int p1), .val (.int (0 : Int32)), .val (.int (2 : Int32))]) rfl k) ?_
        show own_R p e below _ T63 (mkF m 85 #[.val (.int p1), .val (.int (0 : Int32)), .val (.int (2 : Int32))] [])
        refine own_go (fun t k => XS.goto X63.here hx rfl (pc0 := 85) (pc' := 44) rfl (hb hby d1_85) (by decide) (by decide) k) ?_
        show own_R p e below _ T63 (mkF m 44 #[.val (.int p1), .val (.int (0 : Int32)), .val (.int (2 : Int32))] [])
        refine own_go (fun t k => XS.iloadN X63.here hx rfl (hb hby d1_44) rfl  k) ?_
        show own_R p e below _ T63 (mkF m 45 #[.val (.int p1), .val (.int (0 : Int32)), .val (.int (2 : Int32))] [(.int (0 : Int32))])
        refine own_go (fun t k => XS.ifNo X63.here hx rfl (hb hby d1_45) rfl ((if0 _ _).trans (teq (by decide : (0 : Int32) = (0 : Int32))).2) k) ?_
        show own_R p e below _ T63 (mkF m 48 #[.val (.int p1), .val (.int (0 : Int32)), .val (.int (2 : Int32))] [])
        refine own_go (fun t k => XS.iloadN X63.here hx rfl (hb hby d1_48) rfl  k) ?_
        show own_R p e below _ T63 (mkF m 49 #[.val (.int p1), .val (.int (0 : Int32)), .val (.int (2 : Int32))] [(.int (2 : Int32))])
        obtain ⟨T66, X66, e66, st66⟩ := getS2 X63 hx hZ hown (host := "") (Or.inl (hw _ (List.mem_of_getElem? (i := 15) rfl))) Via.refl e63 S_NAME_START_RANGES (g := (mkF m 49 #[.val (.int p1), .val (.int (0 : Int32)), .val (.int (2 : Int32))] [(.int (2 : Int32))])) rfl (hb hby d1_49)
        refine own_go (st66) ?_
        show own_R p e below _ T66 (mkF m 52 #[.val (.int p1), .val (.int (0 : Int32)), .val (.int (2 : Int32))] [(.ref w), (.int (2 : Int32))])
        obtain ⟨cl67, Ar67, q67, S67, Nn67, Hh67, G67⟩ := id V_w
        refine own_go (X66.arraylength hx (by rw [e66]; exact Ar67.1) (State.isArrayOf_alike hZ.alike Ar67.2.1) (g := (mkF m 52 #[.val (.int p1), .val (.int (0 : Int32)), .val (.int (2 : Int32))] [(.ref w), (.int (2 : Int32))])) rfl rfl (hb hby d1_52)) ?_
        rw [len_of S67 Nn67]
        show own_R p e below _ T66 (mkF m 53 #[.val (.int p1), .val (.int (0 : Int32)), .val (.int (2 : Int32))] [(.int (24 : Int32)), (.int (2 : Int32))])
        refine own_go (fun t k => XS.icmpNo X66.here hx rfl (hb hby d1_53) rfl (tlt (by decide : (2 : Int32) < (24 : Int32))).2.1 k) ?_
        show own_R p e below _ T66 (mkF m 56 #[.val (.int p1), .val (.int (0 : Int32)), .val (.int (2 : Int32))] [])
        refine own_go (fun t k => XS.iloadN X66.here hx rfl (hb hby d1_56) rfl  k) ?_
        show own_R p e below _ T66 (mkF m 57 #[.val (.int p1), .val (.int (0 : Int32)), .val (.int (2 : Int32))] [(.int p1)])
        obtain ⟨T68, X68, e68, st68⟩ := getS2 X66 hx hZ hown (host := "") (Or.inl (hw _ (List.mem_of_getElem? (i := 15) rfl))) Via.refl e66 S_NAME_START_RANGES (g := (mkF m 57 #[.val (.int p1), .val (.int (0 : Int32)), .val (.int (2 : Int32))] [(.int p1)])) rfl (hb hby d1_57)
        refine own_go (st68) ?_
        show own_R p e below _ T68 (mkF m 60 #[.val (.int p1), .val (.int (0 : Int32)), .val (.int (2 : Int32))] [(.ref w), (.int p1)])
        refine own_go (fun t k => XS.iloadN X68.here hx rfl (hb hby d1_60) rfl  k) ?_
        show own_R p e below _ T68 (mkF m 61 #[.val (.int p1), .val (.int (0 : Int32)), .val (.int (2 : Int32))] [(.int (2 : Int32)), (.ref w), (.int p1)])
        obtain ⟨cl69, Ar69, q69, S69, Nn69, Hh69, G69⟩ := id V_w
        have hin69 : ¬ ((2 : Int32) < 0 ∨ cl69.slots.size ≤ ((2 : Int32)).toNatClampNeg) := inb_of S69 ⟨by decide, by decide⟩
        have hat69 : cl69.slots[((2 : Int32)).toNatClampNeg]? = some (.int (216 : Int32)) := Has.at Hh69 hin69 rfl
        refine own_go (X68.iaload hx (j := (2 : Int32)) (v := (.int (216 : Int32))) (by rw [e68]; exact Ar69.1) (State.isArrayOf_alike hZ.alike Ar69.2.1) Ar69.2.2 hin69 hat69 (g := (mkF m 61 #[.val (.int p1), .val (.int (0 : Int32)), .val (.int (2 : Int32))] [(.int (2 : Int32)), (.ref w), (.int p1)])) rfl rfl (hb hby d1_61)) ?_
        show own_R p e below _ T68 (mkF m 62 #[.val (.int p1), .val (.int (0 : Int32)), .val (.int (2 : Int32))] [(.int (216 : Int32)), (.int p1)])
        by_cases hc62_70 : p1 < (216 : Int32)
        · -- pc 62: yes
          refine own_go (fun t k => XS.icmpYes X68.here hx rfl (pc0 := 62) (pc' := 88) rfl (hb hby d1_62) rfl (tlt hc62_70).1 (by decide) (by decide) k) ?_
          show own_R p e below _ T68 (mkF m 88 #[.val (.int p1), .val (.int (0 : Int32)), .val (.int (2 : Int32))] [])
          refine own_go (fun t k => XS.iloadN X68.here hx rfl (hb hby d1_88) rfl  k) ?_
          show own_R p e below _ T68 (mkF m 89 #[.val (.int p1), .val (.int (0 : Int32)), .val (.int (2 : Int32))] [(.int (0 : Int32))])
          refine own_retN X68 hx Bd.returns (by simp) (BodyLoose.notSynchronized Bd) (hb hby d1_89) (by decide) (by decide) ?_
          have z71 : 192 ≤ p1.toInt := own_nlti hc62_61 rfl rfl
          have z72 : 214 < p1.toInt := own_lti hc73_65 rfl rfl
          have z73 : p1.toInt < 216 := own_lti hc62_70 rfl rfl
          have hn : ¬ own_l p1.toInt := by
            intro q
            rcases q with q | q | q | q | q | q | q | q | q | q | q | q | q | q | q | q
            · exact hA (Or.inl (q))
            · exact hA (Or.inr (Or.inl (q)))
            · exact hA (Or.inr (Or.inr (Or.inl (q))))
            · exact hA (Or.inr (Or.inr (Or.inr (q))))
            all_goals (clear hA; omega)
          exact ⟨by rw [if_neg hn]; rfl, N1, e68⟩
        · -- pc 62: no
          refine own_go (fun t k => XS.icmpNo X68.here hx rfl (hb hby d1_62) rfl (flt hc62_70).1 k) ?_
          show own_R p e below _ T68 (mkF m 65 #[.val (.int p1), .val (.int (0 : Int32)), .val (.int (2 : Int32))] [])
          refine own_go (fun t k => XS.iloadN X68.here hx rfl (hb hby d1_65) rfl  k) ?_
          show own_R p e below _ T68 (mkF m 66 #[.val (.int p1), .val (.int (0 : Int32)), .val (.int (2 : Int32))] [(.int p1)])
          obtain ⟨T74, X74, e74, st74⟩ := getS2 X68 hx hZ hown (host := "") (Or.inl (hw _ (List.mem_of_getElem? (i := 15) rfl))) Via.refl e68 S_NAME_START_RANGES (g := (mkF m 66 #[.val (.int p1), .val (.int (0 : Int32)), .val (.int (2 : Int32))] [(.int p1)])) rfl (hb hby d1_66)
          refine own_go (st74) ?_
          show own_R p e below _ T74 (mkF m 69 #[.val (.int p1), .val (.int (0 : Int32)), .val (.int (2 : Int32))] [(.ref w), (.int p1)])
          refine own_go (fun t k => XS.iloadN X74.here hx rfl (hb hby d1_69) rfl  k) ?_
          show own_R p e below _ T74 (mkF m 70 #[.val (.int p1), .val (.int (0 : Int32)), .val (.int (2 : Int32))] [(.int (2 : Int32)), (.ref w), (.int p1)])
          refine own_go (fun t k => XS.iconst X74.here hx rfl (hb hby d1_70) k) ?_
          show own_R p e below _ T74 (mkF m 71 #[.val (.int p1), .val (.int (0 : Int32)), .val (.int (2 : Int32))] [(.int (1 : Int32)), (.int (2 : Int32)), (.ref w), (.int p1)])
          refine own_go (fun t k => XS.iadd X74.here hx rfl (hb hby d1_71) rfl k) ?_
          show own_R p e below _ T74 (mkF m 72 #[.val (.int p1), .val (.int (0 : Int32)), .val (.int (2 : Int32))] [(.int (3 : Int32)), (.ref w), (.int p1)])
          obtain ⟨cl75, Ar75, q75, S75, Nn75, Hh75, G75⟩ := id V_w
          have hin75 : ¬ ((3 : Int32) < 0 ∨ cl75.slots.size ≤ ((3 : Int32)).toNatClampNeg) := inb_of S75 ⟨by decide, by decide⟩
          have hat75 : cl75.slots[((3 : Int32)).toNatClampNeg]? = some (.int (246 : Int32)) := Has.at Hh75 hin75 rfl
          refine own_go (X74.iaload hx (j := (3 : Int32)) (v := (.int (246 : Int32))) (by rw [e74]; exact Ar75.1) (State.isArrayOf_alike hZ.alike Ar75.2.1) Ar75.2.2 hin75 hat75 (g := (mkF m 72 #[.val (.int p1), .val (.int (0 : Int32)), .val (.int (2 : Int32))] [(.int (3 : Int32)), (.ref w), (.int p1)])) rfl rfl (hb hby d1_72)) ?_
          show own_R p e below _ T74 (mkF m 73 #[.val (.int p1), .val (.int (0 : Int32)), .val (.int (2 : Int32))] [(.int (246 : Int32)), (.int p1)])
          by_cases hc73_76 : (246 : Int32) < p1
          · -- pc 73: yes
            refine own_go (fun t k => XS.icmpYes X74.here hx rfl (pc0 := 73) (pc' := 80) rfl (hb hby d1_73) rfl (tlt hc73_76).2.2.1 (by decide) (by decide) k) ?_
            show own_R p e below _ T74 (mkF m 80 #[.val (.int p1), .val (.int (0 : Int32)), .val (.int (2 : Int32))] [])
            refine own_go (fun t k => XS.iconst X74.here hx rfl (hb hby d1_80) k) ?_
            show own_R p e below _ T74 (mkF m 81 #[.val (.int p1), .val (.int (0 : Int32)), .val (.int (2 : Int32))] [(.int (0 : Int32))])
            refine own_go (fun t k => XS.istoreN X74.here hx rfl (hb hby d1_81) rfl (l' := #[.val (.int p1), .val (.int (0 : Int32)), .val (.int (2 : Int32))]) rfl k) ?_
            show own_R p e below _ T74 (mkF m 82 #[.val (.int p1), .val (.int (0 : Int32)), .val (.int (2 : Int32))] [])
            refine own_go (fun t k => XS.iinc X74.here hx rfl (hb hby d1_82) rfl (l' := #[.val (.int p1), .val (.int (0 : Int32)), .val (.int (4 : Int32))]) rfl k) ?_
            show own_R p e below _ T74 (mkF m 85 #[.val (.int p1), .val (.int (0 : Int32)), .val (.int (4 : Int32))] [])
            refine own_go (fun t k => XS.goto X74.here hx rfl (pc0 := 85) (pc' := 44) rfl (hb hby d1_85) (by decide) (by decide) k) ?_
            show own_R p e below _ T74 (mkF m 44 #[.val (.int p1), .val (.int (0 : Int32)), .val (.int (4 : Int32))] [])
            refine own_go (fun t k => XS.iloadN X74.here hx rfl (hb hby d1_44) rfl  k) ?_
            show own_R p e below _ T74 (mkF m 45 #[.val (.int p1), .val (.int (0 : Int32)), .val (.int (4 : Int32))] [(.int (0 : Int32))])
            refine own_go (fun t k => XS.ifNo X74.here hx rfl (hb hby d1_45) rfl ((if0 _ _).trans (teq (by decide : (0 : Int32) = (0 : Int32))).2) k) ?_
            show own_R p e below _ T74 (mkF m 48 #[.val (.int p1), .val (.int (0 : Int32)), .val (.int (4 : Int32))] [])
            refine own_go (fun t k => XS.iloadN X74.here hx rfl (hb hby d1_48) rfl  k) ?_
            show own_R p e below _ T74 (mkF m 49 #[.val (.int p1), .val (.int (0 : Int32)), .val (.int (4 : Int32))] [(.int (4 : Int32))])
            obtain ⟨T77, X77, e77, st77⟩ := getS2 X74 hx hZ hown (host := "") (Or.inl (hw _ (List.mem_of_getElem? (i := 15) rfl))) Via.refl e74 S_NAME_START_RANGES (g := (mkF m 49 #[.val (.int p1), .val (.int (0 : Int32)), .val (.int (4 : Int32))] [(.int (4 : Int32))])) rfl (hb hby d1_49)
            refine own_go (st77) ?_
            show own_R p e below _ T77 (mkF m 52 #[.val (.int p1), .val (.int (0 : Int32)), .val (.int (4 : Int32))] [(.ref w), (.int (4 : Int32))])
            obtain ⟨cl78, Ar78, q78, S78, Nn78, Hh78, G78⟩ := id V_w
            refine own_go (X77.arraylength hx (by rw [e77]; exact Ar78.1) (State.isArrayOf_alike hZ.alike Ar78.2.1) (g := (mkF m 52 #[.val (.int p1), .val (.int (0 : Int32)), .val (.int (4 : Int32))] [(.ref w), (.int (4 : Int32))])) rfl rfl (hb hby d1_52)) ?_
            rw [len_of S78 Nn78]
            show own_R p e below _ T77 (mkF m 53 #[.val (.int p1), .val (.int (0 : Int32)), .val (.int (4 : Int32))] [(.int (24 : Int32)), (.int (4 : Int32))])
            refine own_go (fun t k => XS.icmpNo X77.here hx rfl (hb hby d1_53) rfl (tlt (by decide : (4 : Int32) < (24 : Int32))).2.1 k) ?_
            show own_R p e below _ T77 (mkF m 56 #[.val (.int p1), .val (.int (0 : Int32)), .val (.int (4 : Int32))] [])
            refine own_go (fun t k => XS.iloadN X77.here hx rfl (hb hby d1_56) rfl  k) ?_
            show own_R p e below _ T77 (mkF m 57 #[.val (.int p1), .val (.int (0 : Int32)), .val (.int (4 : Int32))] [(.int p1)])
            obtain ⟨T79, X79, e79, st79⟩ := getS2 X77 hx hZ hown (host := "") (Or.inl (hw _ (List.mem_of_getElem? (i := 15) rfl))) Via.refl e77 S_NAME_START_RANGES (g := (mkF m 57 #[.val (.int p1), .val (.int (0 : Int32)), .val (.int (4 : Int32))] [(.int p1)])) rfl (hb hby d1_57)
            refine own_go (st79) ?_
            show own_R p e below _ T79 (mkF m 60 #[.val (.int p1), .val (.int (0 : Int32)), .val (.int (4 : Int32))] [(.ref w), (.int p1)])
            refine own_go (fun t k => XS.iloadN X79.here hx rfl (hb hby d1_60) rfl  k) ?_
            show own_R p e below _ T79 (mkF m 61 #[.val (.int p1), .val (.int (0 : Int32)), .val (.int (4 : Int32))] [(.int (4 : Int32)), (.ref w), (.int p1)])
            obtain ⟨cl80, Ar80, q80, S80, Nn80, Hh80, G80⟩ := id V_w
            have hin80 : ¬ ((4 : Int32) < 0 ∨ cl80.slots.size ≤ ((4 : Int32)).toNatClampNeg) := inb_of S80 ⟨by decide, by decide⟩
            have hat80 : cl80.slots[((4 : Int32)).toNatClampNeg]? = some (.int (248 : Int32)) := Has.at Hh80 hin80 rfl
            refine own_go (X79.iaload hx (j := (4 : Int32)) (v := (.int (248 : Int32))) (by rw [e79]; exact Ar80.1) (State.isArrayOf_alike hZ.alike Ar80.2.1) Ar80.2.2 hin80 hat80 (g := (mkF m 61 #[.val (.int p1), .val (.int (0 : Int32)), .val (.int (4 : Int32))] [(.int (4 : Int32)), (.ref w), (.int p1)])) rfl rfl (hb hby d1_61)) ?_
            show own_R p e below _ T79 (mkF m 62 #[.val (.int p1), .val (.int (0 : Int32)), .val (.int (4 : Int32))] [(.int (248 : Int32)), (.int p1)])
            by_cases hc62_81 : p1 < (248 : Int32)
            · -- pc 62: yes
              refine own_go (fun t k => XS.icmpYes X79.here hx rfl (pc0 := 62) (pc' := 88) rfl (hb hby d1_62) rfl (tlt hc62_81).1 (by decide) (by decide) k) ?_
              show own_R p e below _ T79 (mkF m 88 #[.val (.int p1), .val (.int (0 : Int32)), .val (.int (4 : Int32))] [])
              refine own_go (fun t k => XS.iloadN X79.here hx rfl (hb hby d1_88) rfl  k) ?_
              show own_R p e below _ T79 (mkF m 89 #[.val (.int p1), .val (.int (0 : Int32)), .val (.int (4 : Int32))] [(.int (0 : Int32))])
              refine own_retN X79 hx Bd.returns (by simp) (BodyLoose.notSynchronized Bd) (hb hby d1_89) (by decide) (by decide) ?_
              have z82 : 192 ≤ p1.toInt := own_nlti hc62_61 rfl rfl
              have z83 : 214 < p1.toInt := own_lti hc73_65 rfl rfl
              have z84 : 216 ≤ p1.toInt := own_nlti hc62_70 rfl rfl
              have z85 : 246 < p1.toInt := own_lti hc73_76 rfl rfl
              have z86 : p1.toInt < 248 := own_lti hc62_81 rfl rfl
              have hn : ¬ own_l p1.toInt := by
                intro q
                rcases q with q | q | q | q | q | q | q | q | q | q | q | q | q | q | q | q
                · exact hA (Or.inl (q))
                · exact hA (Or.inr (Or.inl (q)))
                · exact hA (Or.inr (Or.inr (Or.inl (q))))
                · exact hA (Or.inr (Or.inr (Or.inr (q))))
                all_goals (clear hA; omega)
              exact ⟨by rw [if_neg hn]; rfl, N1, e79⟩
            · -- pc 62: no
              refine own_go (fun t k => XS.icmpNo X79.here hx rfl (hb hby d1_62) rfl (flt hc62_81).1 k) ?_
              show own_R p e below _ T79 (mkF m 65 #[.val (.int p1), .val (.int (0 : Int32)), .val (.int (4 : Int32))] [])
              refine own_go (fun t k => XS.iloadN X79.here hx rfl (hb hby d1_65) rfl  k) ?_
              show own_R p e below _ T79 (mkF m 66 #[.val (.int p1), .val (.int (0 : Int32)), .val (.int (4 : Int32))] [(.int p1)])
              obtain ⟨T87, X87, e87, st87⟩ := getS2 X79 hx hZ hown (host := "") (Or.inl (hw _ (List.mem_of_getElem? (i := 15) rfl))) Via.refl e79 S_NAME_START_RANGES (g := (mkF m 66 #[.val (.int p1), .val (.int (0 : Int32)), .val (.int (4 : Int32))] [(.int p1)])) rfl (hb hby d1_66)
              refine own_go (st87) ?_
              show own_R p e below _ T87 (mkF m 69 #[.val (.int p1), .val (.int (0 : Int32)), .val (.int (4 : Int32))] [(.ref w), (.int p1)])
              refine own_go (fun t k => XS.iloadN X87.here hx rfl (hb hby d1_69) rfl  k) ?_
              show own_R p e below _ T87 (mkF m 70 #[.val (.int p1), .val (.int (0 : Int32)), .val (.int (4 : Int32))] [(.int (4 : Int32)), (.ref w), (.int p1)])
              refine own_go (fun t k => XS.iconst X87.here hx rfl (hb hby d1_70) k) ?_
              show own_R p e below _ T87 (mkF m 71 #[.val (.int p1), .val (.int (0 : Int32)), .val (.int (4 : Int32))] [(.int (1 : Int32)), (.int (4 : Int32)), (.ref w), (.int p1)])
              refine own_go (fun t k => XS.iadd X87.here hx rfl (hb hby d1_71) rfl k) ?_
              show own_R p e below _ T87 (mkF m 72 #[.val (.int p1), .val (.int (0 : Int32)), .val (.int (4 : Int32))] [(.int (5 : Int32)), (.ref w), (.int p1)])
              obtain ⟨cl88, Ar88, q88, S88, Nn88, Hh88, G88⟩ := id V_w
              have hin88 : ¬ ((5 : Int32) < 0 ∨ cl88.slots.size ≤ ((5 : Int32)).toNatClampNeg) := inb_of S88 ⟨by decide, by decide⟩
              have hat88 : cl88.slots[((5 : Int32)).toNatClampNeg]? = some (.int (767 : Int32)) := Has.at Hh88 hin88 rfl
              refine own_go (X87.iaload hx (j := (5 : Int32)) (v := (.int (767 : Int32))) (by rw [e87]; exact Ar88.1) (State.isArrayOf_alike hZ.alike Ar88.2.1) Ar88.2.2 hin88 hat88 (g := (mkF m 72 #[.val (.int p1), .val (.int (0 : Int32)), .val (.int (4 : Int32))] [(.int (5 : Int32)), (.ref w), (.int p1)])) rfl rfl (hb hby d1_72)) ?_
              show own_R p e below _ T87 (mkF m 73 #[.val (.int p1), .val (.int (0 : Int32)), .val (.int (4 : Int32))] [(.int (767 : Int32)), (.int p1)])
              by_cases hc73_89 : (767 : Int32) < p1
              · -- pc 73: yes
                refine own_go (fun t k => XS.icmpYes X87.here hx rfl (pc0 := 73) (pc' := 80) rfl (hb hby d1_73) rfl (tlt hc73_89).2.2.1 (by decide) (by decide) k) ?_
                show own_R p e below _ T87 (mkF m 80 #[.val (.int p1), .val (.int (0 : Int32)), .val (.int (4 : Int32))] [])
                refine own_go (fun t k => XS.iconst X87.here hx rfl (hb hby d1_80) k) ?_
                show own_R p e below _ T87 (mkF m 81 #[.val (.int p1), .val (.int (0 : Int32)), .val (.int (4 : Int32))] [(.int (0 : Int32))])
                refine own_go (fun t k => XS.istoreN X87.here hx rfl (hb hby d1_81) rfl (l' := #[.val (.int p1), .val (.int (0 : Int32)), .val (.int (4 : Int32))]) rfl k) ?_
                show own_R p e below _ T87 (mkF m 82 #[.val (.int p1), .val (.int (0 : Int32)), .val (.int (4 : Int32))] [])
                refine own_go (fun t k => XS.iinc X87.here hx rfl (hb hby d1_82) rfl (l' := #[.val (.int p1), .val (.int (0 : Int32)), .val (.int (6 : Int32))]) rfl k) ?_
                show own_R p e below _ T87 (mkF m 85 #[.val (.int p1), .val (.int (0 : Int32)), .val (.int (6 : Int32))] [])
                refine own_go (fun t k => XS.goto X87.here hx rfl (pc0 := 85) (pc' := 44) rfl (hb hby d1_85) (by decide) (by decide) k) ?_
                show own_R p e below _ T87 (mkF m 44 #[.val (.int p1), .val (.int (0 : Int32)), .val (.int (6 : Int32))] [])
                refine own_go (fun t k => XS.iloadN X87.here hx rfl (hb hby d1_44) rfl  k) ?_
                show own_R p e below _ T87 (mkF m 45 #[.val (.int p1), .val (.int (0 : Int32)), .val (.int (6 : Int32))] [(.int (0 : Int32))])
                refine own_go (fun t k => XS.ifNo X87.here hx rfl (hb hby d1_45) rfl ((if0 _ _).trans (teq (by decide : (0 : Int32) = (0 : Int32))).2) k) ?_
                show own_R p e below _ T87 (mkF m 48 #[.val (.int p1), .val (.int (0 : Int32)), .val (.int (6 : Int32))] [])
                refine own_go (fun t k => XS.iloadN X87.here hx rfl (hb hby d1_48) rfl  k) ?_
                show own_R p e below _ T87 (mkF m 49 #[.val (.int p1), .val (.int (0 : Int32)), .val (.int (6 : Int32))] [(.int (6 : Int32))])
                obtain ⟨T90, X90, e90, st90⟩ := getS2 X87 hx hZ hown (host := "") (Or.inl (hw _ (List.mem_of_getElem? (i := 15) rfl))) Via.refl e87 S_NAME_START_RANGES (g := (mkF m 49 #[.val (.int p1), .val (.int (0 : Int32)), .val (.int (6 : Int32))] [(.int (6 : Int32))])) rfl (hb hby d1_49)
                refine own_go (st90) ?_
                show own_R p e below _ T90 (mkF m 52 #[.val (.int p1), .val (.int (0 : Int32)), .val (.int (6 : Int32))] [(.ref w), (.int (6 : Int32))])
                obtain ⟨cl91, Ar91, q91, S91, Nn91, Hh91, G91⟩ := id V_w
                refine own_go (X90.arraylength hx (by rw [e90]; exact Ar91.1) (State.isArrayOf_alike hZ.alike Ar91.2.1) (g := (mkF m 52 #[.val (.int p1), .val (.int (0 : Int32)), .val (.int (6 : Int32))] [(.ref w), (.int (6 : Int32))])) rfl rfl (hb hby d1_52)) ?_
                rw [len_of S91 Nn91]
                show own_R p e below _ T90 (mkF m 53 #[.val (.int p1), .val (.int (0 : Int32)), .val (.int (6 : Int32))] [(.int (24 : Int32)), (.int (6 : Int32))])
                refine own_go (fun t k => XS.icmpNo X90.here hx rfl (hb hby d1_53) rfl (tlt (by decide : (6 : Int32) < (24 : Int32))).2.1 k) ?_
                show own_R p e below _ T90 (mkF m 56 #[.val (.int p1), .val (.int (0 : Int32)), .val (.int (6 : Int32))] [])
                refine own_go (fun t k => XS.iloadN X90.here hx rfl (hb hby d1_56) rfl  k) ?_
                show own_R p e below _ T90 (mkF m 57 #[.val (.int p1), .val (.int (0 : Int32)), .val (.int (6 : Int32))] [(.int p1)])
                obtain ⟨T92, X92, e92, st92⟩ := getS2 X90 hx hZ hown (host := "") (Or.inl (hw _ (List.mem_of_getElem? (i := 15) rfl))) Via.refl e90 S_NAME_START_RANGES (g := (mkF m 57 #[.val (.int p1), .val (.int (0 : Int32)), .val (.int (6 : Int32))] [(.int p1)])) rfl (hb hby d1_57)
                refine own_go (st92) ?_
                show own_R p e below _ T92 (mkF m 60 #[.val (.int p1), .val (.int (0 : Int32)), .val (.int (6 : Int32))] [(.ref w), (.int p1)])
                refine own_go (fun t k => XS.iloadN X92.here hx rfl (hb hby d1_60) rfl  k) ?_
                show own_R p e below _ T92 (mkF m 61 #[.val (.int p1), .val (.int (0 : Int32)), .val (.int (6 : Int32))] [(.int (6 : Int32)), (.ref w), (.int p1)])
                obtain ⟨cl93, Ar93, q93, S93, Nn93, Hh93, G93⟩ := id V_w
                have hin93 : ¬ ((6 : Int32) < 0 ∨ cl93.slots.size ≤ ((6 : Int32)).toNatClampNeg) := inb_of S93 ⟨by decide, by decide⟩
                have hat93 : cl93.slots[((6 : Int32)).toNatClampNeg]? = some (.int (880 : Int32)) := Has.at Hh93 hin93 rfl
                refine own_go (X92.iaload hx (j := (6 : Int32)) (v := (.int (880 : Int32))) (by rw [e92]; exact Ar93.1) (State.isArrayOf_alike hZ.alike Ar93.2.1) Ar93.2.2 hin93 hat93 (g := (mkF m 61 #[.val (.int p1), .val (.int (0 : Int32)), .val (.int (6 : Int32))] [(.int (6 : Int32)), (.ref w), (.int p1)])) rfl rfl (hb hby d1_61)) ?_
                show own_R p e below _ T92 (mkF m 62 #[.val (.int p1), .val (.int (0 : Int32)), .val (.int (6 : Int32))] [(.int (880 : Int32)), (.int p1)])
                by_cases hc62_94 : p1 < (880 : Int32)
                · -- pc 62: yes
                  refine own_go (fun t k => XS.icmpYes X92.here hx rfl (pc0 := 62) (pc' := 88) rfl (hb hby d1_62) rfl (tlt hc62_94).1 (by decide) (by decide) k) ?_
                  show own_R p e below _ T92 (mkF m 88 #[.val (.int p1), .val (.int (0 : Int32)), .val (.int (6 : Int32))] [])
                  refine own_go (fun t k => XS.iloadN X92.here hx rfl (hb hby d1_88) rfl  k) ?_
                  show own_R p e below _ T92 (mkF m 89 #[.val (.int p1), .val (.int (0 : Int32)), .val (.int (6 : Int32))] [(.int (0 : Int32))])
                  refine own_retN X92 hx Bd.returns (by simp) (BodyLoose.notSynchronized Bd) (hb hby d1_89) (by decide) (by decide) ?_
                  have z95 : 192 ≤ p1.toInt := own_nlti hc62_61 rfl rfl
                  have z96 : 214 < p1.toInt := own_lti hc73_65 rfl rfl
                  have z97 : 216 ≤ p1.toInt := own_nlti hc62_70 rfl rfl
                  have z98 : 246 < p1.toInt := own_lti hc73_76 rfl rfl
                  have z99 : 248 ≤ p1.toInt := own_nlti hc62_81 rfl rfl
                  have z100 : 767 < p1.toInt := own_lti hc73_89 rfl rfl
                  have z101 : p1.toInt < 880 := own_lti hc62_94 rfl rfl
                  have hn : ¬ own_l p1.toInt := by
                    intro q
                    rcases q with q | q | q | q | q | q | q | q | q | q | q | q | q | q | q | q
                    · exact hA (Or.inl (q))
                    · exact hA (Or.inr (Or.inl (q)))
                    · exact hA (Or.inr (Or.inr (Or.inl (q))))
                    · exact hA (Or.inr (Or.inr (Or.inr (q))))
                    all_goals (clear hA; omega)
                  exact ⟨by rw [if_neg hn]; rfl, N1, e92⟩
                · -- pc 62: no
                  refine own_go (fun t k => XS.icmpNo X92.here hx rfl (hb hby d1_62) rfl (flt hc62_94).1 k) ?_
                  show own_R p e below _ T92 (mkF m 65 #[.val (.int p1), .val (.int (0 : Int32)), .val (.int (6 : Int32))] [])
                  refine own_go (fun t k => XS.iloadN X92.here hx rfl (hb hby d1_65) rfl  k) ?_
                  show own_R p e below _ T92 (mkF m 66 #[.val (.int p1), .val (.int (0 : Int32)), .val (.int (6 : Int32))] [(.int p1)])
                  obtain ⟨T102, X102, e102, st102⟩ := getS2 X92 hx hZ hown (host := "") (Or.inl (hw _ (List.mem_of_getElem? (i := 15) rfl))) Via.refl e92 S_NAME_START_RANGES (g := (mkF m 66 #[.val (.int p1), .val (.int (0 : Int32)), .val (.int (6 : Int32))] [(.int p1)])) rfl (hb hby d1_66)
                  refine own_go (st102) ?_
                  show own_R p e below _ T102 (mkF m 69 #[.val (.int p1), .val (.int (0 : Int32)), .val (.int (6 : Int32))] [(.ref w), (.int p1)])
                  refine own_go (fun t k => XS.iloadN X102.here hx rfl (hb hby d1_69) rfl  k) ?_
                  show own_R p e below _ T102 (mkF m 70 #[.val (.int p1), .val (.int (0 : Int32)), .val (.int (6 : Int32))] [(.int (6 : Int32)), (.ref w), (.int p1)])
                  refine own_go (fun t k => XS.iconst X102.here hx rfl (hb hby d1_70) k) ?_
                  show own_R p e below _ T102 (mkF m 71 #[.val (.int p1), .val (.int (0 : Int32)), .val (.int (6 : Int32))] [(.int (1 : Int32)), (.int (6 : Int32)), (.ref w), (.int p1)])
                  refine own_go (fun t k => XS.iadd X102.here hx rfl (hb hby d1_71) rfl k) ?_
                  show own_R p e below _ T102 (mkF m 72 #[.val (.int p1), .val (.int (0 : Int32)), .val (.int (6 : Int32))] [(.int (7 : Int32)), (.ref w), (.int p1)])
                  obtain ⟨cl103, Ar103, q103, S103, Nn103, Hh103, G103⟩ := id V_w
                  have hin103 : ¬ ((7 : Int32) < 0 ∨ cl103.slots.size ≤ ((7 : Int32)).toNatClampNeg) := inb_of S103 ⟨by decide, by decide⟩
                  have hat103 : cl103.slots[((7 : Int32)).toNatClampNeg]? = some (.int (893 : Int32)) := Has.at Hh103 hin103 rfl
                  refine own_go (X102.iaload hx (j := (7 : Int32)) (v := (.int (893 : Int32))) (by rw [e102]; exact Ar103.1) (State.isArrayOf_alike hZ.alike Ar103.2.1) Ar103.2.2 hin103 hat103 (g := (mkF m 72 #[.val (.int p1), .val (.int (0 : Int32)), .val (.int (6 : Int32))] [(.int (7 : Int32)), (.ref w), (.int p1)])) rfl rfl (hb hby d1_72)) ?_
                  show own_R p e below _ T102 (mkF m 73 #[.val (.int p1), .val (.int (0 : Int32)), .val (.int (6 : Int32))] [(.int (893 : Int32)), (.int p1)])
                  by_cases hc73_104 : (893 : Int32) < p1
                  · -- pc 73: yes
                    refine own_go (fun t k => XS.icmpYes X102.here hx rfl (pc0 := 73) (pc' := 80) rfl (hb hby d1_73) rfl (tlt hc73_104).2.2.1 (by decide) (by decide) k) ?_
                    show own_R p e below _ T102 (mkF m 80 #[.val (.int p1), .val (.int (0 : Int32)), .val (.int (6 : Int32))] [])
                    refine own_go (fun t k => XS.iconst X102.here hx rfl (hb hby d1_80) k) ?_
                    show own_R p e below _ T102 (mkF m 81 #[.val (.int p1), .val (.int (0 : Int32)), .val (.int (6 : Int32))] [(.int (0 : Int32))])
                    refine own_go (fun t k => XS.istoreN X102.here hx rfl (hb hby d1_81) rfl (l' := #[.val (.int p1), .val (.int (0 : Int32)), .val (.int (6 : Int32))]) rfl k) ?_
                    show own_R p e below _ T102 (mkF m 82 #[.val (.int p1), .val (.int (0 : Int32)), .val (.int (6 : Int32))] [])
                    refine own_go (fun t k => XS.iinc X102.here hx rfl (hb hby d1_82) rfl (l' := #[.val (.int p1), .val (.int (0 : Int32)), .val (.int (8 : Int32))]) rfl k) ?_
                    show own_R p e below _ T102 (mkF m 85 #[.val (.int p1), .val (.int (0 : Int32)), .val (.int (8 : Int32))] [])
                    refine own_go (fun t k => XS.goto X102.here hx rfl (pc0 := 85) (pc' := 44) rfl (hb hby d1_85) (by decide) (by decide) k) ?_
                    show own_R p e below _ T102 (mkF m 44 #[.val (.int p1), .val (.int (0 : Int32)), .val (.int (8 : Int32))] [])
                    refine own_go (fun t k => XS.iloadN X102.here hx rfl (hb hby d1_44) rfl  k) ?_
                    show own_R p e below _ T102 (mkF m 45 #[.val (.int p1), .val (.int (0 : Int32)), .val (.int (8 : Int32))] [(.int (0 : Int32))])
                    refine own_go (fun t k => XS.ifNo X102.here hx rfl (hb hby d1_45) rfl ((if0 _ _).trans (teq (by decide : (0 : Int32) = (0 : Int32))).2) k) ?_
                    show own_R p e below _ T102 (mkF m 48 #[.val (.int p1), .val (.int (0 : Int32)), .val (.int (8 : Int32))] [])
                    refine own_go (fun t k => XS.iloadN X102.here hx rfl (hb hby d1_48) rfl  k) ?_
                    show own_R p e below _ T102 (mkF m 49 #[.val (.int p1), .val (.int (0 : Int32)), .val (.int (8 : Int32))] [(.int (8 : Int32))])
                    obtain ⟨T105, X105, e105, st105⟩ := getS2 X102 hx hZ hown (host := "") (Or.inl (hw _ (List.mem_of_getElem? (i := 15) rfl))) Via.refl e102 S_NAME_START_RANGES (g := (mkF m 49 #[.val (.int p1), .val (.int (0 : Int32)), .val (.int (8 : Int32))] [(.int (8 : Int32))])) rfl (hb hby d1_49)
                    refine own_go (st105) ?_
                    show own_R p e below _ T105 (mkF m 52 #[.val (.int p1), .val (.int (0 : Int32)), .val (.int (8 : Int32))] [(.ref w), (.int (8 : Int32))])
                    obtain ⟨cl106, Ar106, q106, S106, Nn106, Hh106, G106⟩ := id V_w
                    refine own_go (X105.arraylength hx (by rw [e105]; exact Ar106.1) (State.isArrayOf_alike hZ.alike Ar106.2.1) (g := (mkF m 52 #[.val (.int p1), .val (.int (0 : Int32)), .val (.int (8 : Int32))] [(.ref w), (.int (8 : Int32))])) rfl rfl (hb hby d1_52)) ?_
                    rw [len_of S106 Nn106]
                    show own_R p e below _ T105 (mkF m 53 #[.val (.int p1), .val (.int (0 : Int32)), .val (.int (8 : Int32))] [(.int (24 : Int32)), (.int (8 : Int32))])
                    refine own_go (fun t k => XS.icmpNo X105.here hx rfl (hb hby d1_53) rfl (tlt (by decide : (8 : Int32) < (24 : Int32))).2.1 k) ?_
                    show own_R p e below _ T105 (mkF m 56 #[.val (.int p1), .val (.int (0 : Int32)), .val (.int (8 : Int32))] [])
                    refine own_go (fun t k => XS.iloadN X105.here hx rfl (hb hby d1_56) rfl  k) ?_
                    show own_R p e below _ T105 (mkF m 57 #[.val (.int p1), .val (.int (0 : Int32)), .val (.int (8 : Int32))] [(.int p1)])
                    obtain ⟨T107, X107, e107, st107⟩ := getS2 X105 hx hZ hown (host := "") (Or.inl (hw _ (List.mem_of_getElem? (i := 15) rfl))) Via.refl e105 S_NAME_START_RANGES (g := (mkF m 57 #[.val (.int p1), .val (.int (0 : Int32)), .val (.int (8 : Int32))] [(.int p1)])) rfl (hb hby d1_57)
                    refine own_go (st107) ?_
                    show own_R p e below _ T107 (mkF m 60 #[.val (.int p1), .val (.int (0 : Int32)), .val (.int (8 : Int32))] [(.ref w), (.int p1)])
                    refine own_go (fun t k => XS.iloadN X107.here hx rfl (hb hby d1_60) rfl  k) ?_
                    show own_R p e below _ T107 (mkF m 61 #[.val (.int p1), .val (.int (0 : Int32)), .val (.int (8 : Int32))] [(.int (8 : Int32)), (.ref w), (.int p1)])
                    obtain ⟨cl108, Ar108, q108, S108, Nn108, Hh108, G108⟩ := id V_w
                    have hin108 : ¬ ((8 : Int32) < 0 ∨ cl108.slots.size ≤ ((8 : Int32)).toNatClampNeg) := inb_of S108 ⟨by decide, by decide⟩
                    have hat108 : cl108.slots[((8 : Int32)).toNatClampNeg]? = some (.int (895 : Int32)) := Has.at Hh108 hin108 rfl
                    refine own_go (X107.iaload hx (j := (8 : Int32)) (v := (.int (895 : Int32))) (by rw [e107]; exact Ar108.1) (State.isArrayOf_alike hZ.alike Ar108.2.1) Ar108.2.2 hin108 hat108 (g := (mkF m 61 #[.val (.int p1), .val (.int (0 : Int32)), .val (.int (8 : Int32))] [(.int (8 : Int32)), (.ref w), (.int p1)])) rfl rfl (hb hby d1_61)) ?_
                    show own_R p e below _ T107 (mkF m 62 #[.val (.int p1), .val (.int (0 : Int32)), .val (.int (8 : Int32))] [(.int (895 : Int32)), (.int p1)])
                    by_cases hc62_109 : p1 < (895 : Int32)
                    · -- pc 62: yes
                      refine own_go (fun t k => XS.icmpYes X107.here hx rfl (pc0 := 62) (pc' := 88) rfl (hb hby d1_62) rfl (tlt hc62_109).1 (by decide) (by decide) k) ?_
                      show own_R p e below _ T107 (mkF m 88 #[.val (.int p1), .val (.int (0 : Int32)), .val (.int (8 : Int32))] [])
                      refine own_go (fun t k => XS.iloadN X107.here hx rfl (hb hby d1_88) rfl  k) ?_
                      show own_R p e below _ T107 (mkF m 89 #[.val (.int p1), .val (.int (0 : Int32)), .val (.int (8 : Int32))] [(.int (0 : Int32))])
                      refine own_retN X107 hx Bd.returns (by simp) (BodyLoose.notSynchronized Bd) (hb hby d1_89) (by decide) (by decide) ?_
                      have z110 : 192 ≤ p1.toInt := own_nlti hc62_61 rfl rfl
                      have z111 : 214 < p1.toInt := own_lti hc73_65 rfl rfl
                      have z112 : 216 ≤ p1.toInt := own_nlti hc62_70 rfl rfl
                      have z113 : 246 < p1.toInt := own_lti hc73_76 rfl rfl
                      have z114 : 248 ≤ p1.toInt := own_nlti hc62_81 rfl rfl
                      have z115 : 767 < p1.toInt := own_lti hc73_89 rfl rfl
                      have z116 : 880 ≤ p1.toInt := own_nlti hc62_94 rfl rfl
                      have z117 : 893 < p1.toInt := own_lti hc73_104 rfl rfl
                      have z118 : p1.toInt < 895 := own_lti hc62_109 rfl rfl
                      have hn : ¬ own_l p1.toInt := by
                        intro q
                        rcases q with q | q | q | q | q | q | q | q | q | q | q | q | q | q | q | q
                        · exact hA (Or.inl (q))
                        · exact hA (Or.inr (Or.inl (q)))
                        · exact hA (Or.inr (Or.inr (Or.inl (q))))
                        · exact hA (Or.inr (Or.inr (Or.inr (q))))
                        all_goals (clear hA; omega)
                      exact ⟨by rw [if_neg hn]; rfl, N1, e107⟩
                    · -- pc 62: no
                      refine own_go (fun t k => XS.icmpNo X107.here hx rfl (hb hby d1_62) rfl (flt hc62_109).1 k) ?_
                      show own_R p e below _ T107 (mkF m 65 #[.val (.int p1), .val (.int (0 : Int32)), .val (.int (8 : Int32))] [])
                      refine own_go (fun t k => XS.iloadN X107.here hx rfl (hb hby d1_65) rfl  k) ?_
                      show own_R p e below _ T107 (mkF m 66 #[.val (.int p1), .val (.int (0 : Int32)), .val (.int (8 : Int32))] [(.int p1)])
                      obtain ⟨T119, X119, e119, st119⟩ := getS2 X107 hx hZ hown (host := "") (Or.inl (hw _ (List.mem_of_getElem? (i := 15) rfl))) Via.refl e107 S_NAME_START_RANGES (g := (mkF m 66 #[.val (.int p1), .val (.int (0 : Int32)), .val (.int (8 : Int32))] [(.int p1)])) rfl (hb hby d1_66)
                      refine own_go (st119) ?_
                      show own_R p e below _ T119 (mkF m 69 #[.val (.int p1), .val (.int (0 : Int32)), .val (.int (8 : Int32))] [(.ref w), (.int p1)])
                      refine own_go (fun t k => XS.iloadN X119.here hx rfl (hb hby d1_69) rfl  k) ?_
                      show own_R p e below _ T119 (mkF m 70 #[.val (.int p1), .val (.int (0 : Int32)), .val (.int (8 : Int32))] [(.int (8 : Int32)), (.ref w), (.int p1)])
                      refine own_go (fun t k => XS.iconst X119.here hx rfl (hb hby d1_70) k) ?_
                      show own_R p e below _ T119 (mkF m 71 #[.val (.int p1), .val (.int (0 : Int32)), .val (.int (8 : Int32))] [(.int (1 : Int32)), (.int (8 : Int32)), (.ref w), (.int p1)])
                      refine own_go (fun t k => XS.iadd X119.here hx rfl (hb hby d1_71) rfl k) ?_
                      show own_R p e below _ T119 (mkF m 72 #[.val (.int p1), .val (.int (0 : Int32)), .val (.int (8 : Int32))] [(.int (9 : Int32)), (.ref w), (.int p1)])
                      obtain ⟨cl120, Ar120, q120, S120, Nn120, Hh120, G120⟩ := id V_w
                      have hin120 : ¬ ((9 : Int32) < 0 ∨ cl120.slots.size ≤ ((9 : Int32)).toNatClampNeg) := inb_of S120 ⟨by decide, by decide⟩
                      have hat120 : cl120.slots[((9 : Int32)).toNatClampNeg]? = some (.int (8191 : Int32)) := Has.at Hh120 hin120 rfl
                      refine own_go (X119.iaload hx (j := (9 : Int32)) (v := (.int (8191 : Int32))) (by rw [e119]; exact Ar120.1) (State.isArrayOf_alike hZ.alike Ar120.2.1) Ar120.2.2 hin120 hat120 (g := (mkF m 72 #[.val (.int p1), .val (.int (0 : Int32)), .val (.int (8 : Int32))] [(.int (9 : Int32)), (.ref w), (.int p1)])) rfl rfl (hb hby d1_72)) ?_
                      show own_R p e below _ T119 (mkF m 73 #[.val (.int p1), .val (.int (0 : Int32)), .val (.int (8 : Int32))] [(.int (8191 : Int32)), (.int p1)])
                      by_cases hc73_121 : (8191 : Int32) < p1
                      · -- pc 73: yes
                        refine own_go (fun t k => XS.icmpYes X119.here hx rfl (pc0 := 73) (pc' := 80) rfl (hb hby d1_73) rfl (tlt hc73_121).2.2.1 (by decide) (by decide) k) ?_
                        show own_R p e below _ T119 (mkF m 80 #[.val (.int p1), .val (.int (0 : Int32)), .val (.int (8 : Int32))] [])
                        refine own_go (fun t k => XS.iconst X119.here hx rfl (hb hby d1_80) k) ?_
                        show own_R p e below _ T119 (mkF m 81 #[.val (.int p1), .val (.int (0 : Int32)), .val (.int (8 : Int32))] [(.int (0 : Int32))])
                        refine own_go (fun t k => XS.istoreN X119.here hx rfl (hb hby d1_81) rfl (l' := #[.val (.int p1), .val (.int (0 : Int32)), .val (.int (8 : Int32))]) rfl k) ?_
                        show own_R p e below _ T119 (mkF m 82 #[.val (.int p1), .val (.int (0 : Int32)), .val (.int (8 : Int32))] [])
                        refine own_go (fun t k => XS.iinc X119.here hx rfl (hb hby d1_82) rfl (l' := #[.val (.int p1), .val (.int (0 : Int32)), .val (.int (10 : Int32))]) rfl k) ?_
                        show own_R p e below _ T119 (mkF m 85 #[.val (.int p1), .val (.int (0 : Int32)), .val (.int (10 : Int32))] [])
                        refine own_go (fun t k => XS.goto X119.here hx rfl (pc0 := 85) (pc' := 44) rfl (hb hby d1_85) (by decide) (by decide) k) ?_
                        show own_R p e below _ T119 (mkF m 44 #[.val (.int p1), .val (.int (0 : Int32)), .val (.int (10 : Int32))] [])
                        refine own_go (fun t k => XS.iloadN X119.here hx rfl (hb hby d1_44) rfl  k) ?_
                        show own_R p e below _ T119 (mkF m 45 #[.val (.int p1), .val (.int (0 : Int32)), .val (.int (10 : Int32))] [(.int (0 : Int32))])
                        refine own_go (fun t k => XS.ifNo X119.here hx rfl (hb hby d1_45) rfl ((if0 _ _).trans (teq (by decide : (0 : Int32) = (0 : Int32))).2) k) ?_
                        show own_R p e below _ T119 (mkF m 48 #[.val (.int p1), .val (.int (0 : Int32)), .val (.int (10 : Int32))] [])
                        refine own_go (fun t k => XS.iloadN X119.here hx rfl (hb hby d1_48) rfl  k) ?_
                        show own_R p e below _ T119 (mkF m 49 #[.val (.int p1), .val (.int (0 : Int32)), .val (.int (10 : Int32))] [(.int (10 : Int32))])
                        obtain ⟨T122, X122, e122, st122⟩ := getS2 X119 hx hZ hown (host := "") (Or.inl (hw _ (List.mem_of_getElem? (i := 15) rfl))) Via.refl e119 S_NAME_START_RANGES (g := (mkF m 49 #[.val (.int p1), .val (.int (0 : Int32)), .val (.int (10 : Int32))] [(.int (10 : Int32))])) rfl (hb hby d1_49)
                        refine own_go (st122) ?_
                        show own_R p e below _ T122 (mkF m 52 #[.val (.int p1), .val (.int (0 : Int32)), .val (.int (10 : Int32))] [(.ref w), (.int (10 : Int32))])
                        obtain ⟨cl123, Ar123, q123, S123, Nn123, Hh123, G123⟩ := id V_w
                        refine own_go (X122.arraylength hx (by rw [e122]; exact Ar123.1) (State.isArrayOf_alike hZ.alike Ar123.2.1) (g := (mkF m 52 #[.val (.int p1), .val (.int (0 : Int32)), .val (.int (10 : Int32))] [(.ref w), (.int (10 : Int32))])) rfl rfl (hb hby d1_52)) ?_
                        rw [len_of S123 Nn123]
                        show own_R p e below _ T122 (mkF m 53 #[.val (.int p1), .val (.int (0 : Int32)), .val (.int (10 : Int32))] [(.int (24 : Int32)), (.int (10 : Int32))])
                        refine own_go (fun t k => XS.icmpNo X122.here hx rfl (hb hby d1_53) rfl (tlt (by decide : (10 : Int32) < (24 : Int32))).2.1 k) ?_
                        show own_R p e below _ T122 (mkF m 56 #[.val (.int p1), .val (.int (0 : Int32)), .val (.int (10 : Int32))] [])
                        refine own_go (fun t k => XS.iloadN X122.here hx rfl (hb hby d1_56) rfl  k) ?_
                        show own_R p e below _ T122 (mkF m 57 #[.val (.int p1), .val (.int (0 : Int32)), .val (.int (10 : Int32))] [(.int p1)])
                        obtain ⟨T124, X124, e124, st124⟩ := getS2 X122 hx hZ hown (host := "") (Or.inl (hw _ (List.mem_of_getElem? (i := 15) rfl))) Via.refl e122 S_NAME_START_RANGES (g := (mkF m 57 #[.val (.int p1), .val (.int (0 : Int32)), .val (.int (10 : Int32))] [(.int p1)])) rfl (hb hby d1_57)
                        refine own_go (st124) ?_
                        show own_R p e below _ T124 (mkF m 60 #[.val (.int p1), .val (.int (0 : Int32)), .val (.int (10 : Int32))] [(.ref w), (.int p1)])
                        refine own_go (fun t k => XS.iloadN X124.here hx rfl (hb hby d1_60) rfl  k) ?_
                        show own_R p e below _ T124 (mkF m 61 #[.val (.int p1), .val (.int (0 : Int32)), .val (.int (10 : Int32))] [(.int (10 : Int32)), (.ref w), (.int p1)])
                        obtain ⟨cl125, Ar125, q125, S125, Nn125, Hh125, G125⟩ := id V_w
                        have hin125 : ¬ ((10 : Int32) < 0 ∨ cl125.slots.size ≤ ((10 : Int32)).toNatClampNeg) := inb_of S125 ⟨by decide, by decide⟩
                        have hat125 : cl125.slots[((10 : Int32)).toNatClampNeg]? = some (.int (8204 : Int32)) := Has.at Hh125 hin125 rfl
                        refine own_go (X124.iaload hx (j := (10 : Int32)) (v := (.int (8204 : Int32))) (by rw [e124]; exact Ar125.1) (State.isArrayOf_alike hZ.alike Ar125.2.1) Ar125.2.2 hin125 hat125 (g := (mkF m 61 #[.val (.int p1), .val (.int (0 : Int32)), .val (.int (10 : Int32))] [(.int (10 : Int32)), (.ref w), (.int p1)])) rfl rfl (hb hby d1_61)) ?_
                        show own_R p e below _ T124 (mkF m 62 #[.val (.int p1), .val (.int (0 : Int32)), .val (.int (10 : Int32))] [(.int (8204 : Int32)), (.int p1)])
                        by_cases hc62_126 : p1 < (8204 : Int32)
                        · -- pc 62: yes
                          refine own_go (fun t k => XS.icmpYes X124.here hx rfl (pc0 := 62) (pc' := 88) rfl (hb hby d1_62) rfl (tlt hc62_126).1 (by decide) (by decide) k) ?_
                          show own_R p e below _ T124 (mkF m 88 #[.val (.int p1), .val (.int (0 : Int32)), .val (.int (10 : Int32))] [])
                          refine own_go (fun t k => XS.iloadN X124.here hx rfl (hb hby d1_88) rfl  k) ?_
                          show own_R p e below _ T124 (mkF m 89 #[.val (.int p1), .val (.int (0 : Int32)), .val (.int (10 : Int32))] [(.int (0 : Int32))])
                          refine own_retN X124 hx Bd.returns (by simp) (BodyLoose.notSynchronized Bd) (hb hby d1_89) (by decide) (by decide) ?_
                          have z127 : 192 ≤ p1.toInt := own_nlti hc62_61 rfl rfl
                          have z128 : 214 < p1.toInt := own_lti hc73_65 rfl rfl
                          have z129 : 216 ≤ p1.toInt := own_nlti hc62_70 rfl rfl
                          have z130 : 246 < p1.toInt := own_lti hc73_76 rfl rfl
                          have z131 : 248 ≤ p1.toInt := own_nlti hc62_81 rfl rfl
                          have z132 : 767 < p1.toInt := own_lti hc73_89 rfl rfl
                          have z133 : 880 ≤ p1.toInt := own_nlti hc62_94 rfl rfl
                          have z134 : 893 < p1.toInt := own_lti hc73_104 rfl rfl
                          have z135 : 895 ≤ p1.toInt := own_nlti hc62_109 rfl rfl
                          have z136 : 8191 < p1.toInt := own_lti hc73_121 rfl rfl
                          have z137 : p1.toInt < 8204 := own_lti hc62_126 rfl rfl
                          have hn : ¬ own_l p1.toInt := by
                            intro q
                            rcases q with q | q | q | q | q | q | q | q | q | q | q | q | q | q | q | q
                            · exact hA (Or.inl (q))
                            · exact hA (Or.inr (Or.inl (q)))
                            · exact hA (Or.inr (Or.inr (Or.inl (q))))
                            · exact hA (Or.inr (Or.inr (Or.inr (q))))
                            all_goals (clear hA; omega)
                          exact ⟨by rw [if_neg hn]; rfl, N1, e124⟩
                        · -- pc 62: no
                          refine own_go (fun t k => XS.icmpNo X124.here hx rfl (hb hby d1_62) rfl (flt hc62_126).1 k) ?_
                          show own_R p e below _ T124 (mkF m 65 #[.val (.int p1), .val (.int (0 : Int32)), .val (.int (10 : Int32))] [])
                          refine own_go (fun t k => XS.iloadN X124.here hx rfl (hb hby d1_65) rfl  k) ?_
                          show own_R p e below _ T124 (mkF m 66 #[.val (.int p1), .val (.int (0 : Int32)), .val (.int (10 : Int32))] [(.int p1)])
                          obtain ⟨T138, X138, e138, st138⟩ := getS2 X124 hx hZ hown (host := "") (Or.inl (hw _ (List.mem_of_getElem? (i := 15) rfl))) Via.refl e124 S_NAME_START_RANGES (g := (mkF m 66 #[.val (.int p1), .val (.int (0 : Int32)), .val (.int (10 : Int32))] [(.int p1)])) rfl (hb hby d1_66)
                          refine own_go (st138) ?_
                          show own_R p e below _ T138 (mkF m 69 #[.val (.int p1), .val (.int (0 : Int32)), .val (.int (10 : Int32))] [(.ref w), (.int p1)])
                          refine own_go (fun t k => XS.iloadN X138.here hx rfl (hb hby d1_69) rfl  k) ?_
                          show own_R p e below _ T138 (mkF m 70 #[.val (.int p1), .val (.int (0 : Int32)), .val (.int (10 : Int32))] [(.int (10 : Int32)), (.ref w), (.int p1)])
                          refine own_go (fun t k => XS.iconst X138.here hx rfl (hb hby d1_70) k) ?_
                          show own_R p e below _ T138 (mkF m 71 #[.val (.int p1), .val (.int (0 : Int32)), .val (.int (10 : Int32))] [(.int (1 : Int32)), (.int (10 : Int32)), (.ref w), (.int p1)])
                          refine own_go (fun t k => XS.iadd X138.here hx rfl (hb hby d1_71) rfl k) ?_
                          show own_R p e below _ T138 (mkF m 72 #[.val (.int p1), .val (.int (0 : Int32)), .val (.int (10 : Int32))] [(.int (11 : Int32)), (.ref w), (.int p1)])
                          obtain ⟨cl139, Ar139, q139, S139, Nn139, Hh139, G139⟩ := id V_w
                          have hin139 : ¬ ((11 : Int32) < 0 ∨ cl139.slots.size ≤ ((11 : Int32)).toNatClampNeg) := inb_of S139 ⟨by decide, by decide⟩
                          have hat139 : cl139.slots[((11 : Int32)).toNatClampNeg]? = some (.int (8205 : Int32)) := Has.at Hh139 hin139 rfl
                          refine own_go (X138.iaload hx (j := (11 : Int32)) (v := (.int (8205 : Int32))) (by rw [e138]; exact Ar139.1) (State.isArrayOf_alike hZ.alike Ar139.2.1) Ar139.2.2 hin139 hat139 (g := (mkF m 72 #[.val (.int p1), .val (.int (0 : Int32)), .val (.int (10 : Int32))] [(.int (11 : Int32)), (.ref w), (.int p1)])) rfl rfl (hb hby d1_72)) ?_
                          show own_R p e below _ T138 (mkF m 73 #[.val (.int p1), .val (.int (0 : Int32)), .val (.int (10 : Int32))] [(.int (8205 : Int32)), (.int p1)])
                          by_cases hc73_140 : (8205 : Int32) < p1
                          · -- pc 73: yes
                            refine own_go (fun t k => XS.icmpYes X138.here hx rfl (pc0 := 73) (pc' := 80) rfl (hb hby d1_73) rfl (tlt hc73_140).2.2.1 (by decide) (by decide) k) ?_
                            show own_R p e below _ T138 (mkF m 80 #[.val (.int p1), .val (.int (0 : Int32)), .val (.int (10 : Int32))] [])
                            refine own_go (fun t k => XS.iconst X138.here hx rfl (hb hby d1_80) k) ?_
                            show own_R p e below _ T138 (mkF m 81 #[.val (.int p1), .val (.int (0 : Int32)), .val (.int (10 : Int32))] [(.int (0 : Int32))])
                            refine own_go (fun t k => XS.istoreN X138.here hx rfl (hb hby d1_81) rfl (l' := #[.val (.int p1), .val (.int (0 : Int32)), .val (.int (10 : Int32))]) rfl k) ?_
                            show own_R p e below _ T138 (mkF m 82 #[.val (.int p1), .val (.int (0 : Int32)), .val (.int (10 : Int32))] [])
                            refine own_go (fun t k => XS.iinc X138.here hx rfl (hb hby d1_82) rfl (l' := #[.val (.int p1), .val (.int (0 : Int32)), .val (.int (12 : Int32))]) rfl k) ?_
                            show own_R p e below _ T138 (mkF m 85 #[.val (.int p1), .val (.int (0 : Int32)), .val (.int (12 : Int32))] [])
                            refine own_go (fun t k => XS.goto X138.here hx rfl (pc0 := 85) (pc' := 44) rfl (hb hby d1_85) (by decide) (by decide) k) ?_
                            show own_R p e below _ T138 (mkF m 44 #[.val (.int p1), .val (.int (0 : Int32)), .val (.int (12 : Int32))] [])
                            refine own_go (fun t k => XS.iloadN X138.here hx rfl (hb hby d1_44) rfl  k) ?_
                            show own_R p e below _ T138 (mkF m 45 #[.val (.int p1), .val (.int (0 : Int32)), .val (.int (12 : Int32))] [(.int (0 : Int32))])
                            refine own_go (fun t k => XS.ifNo X138.here hx rfl (hb hby d1_45) rfl ((if0 _ _).trans (teq (by decide : (0 : Int32) = (0 : Int32))).2) k) ?_
                            show own_R p e below _ T138 (mkF m 48 #[.val (.int p1), .val (.int (0 : Int32)), .val (.int (12 : Int32))] [])
                            refine own_go (fun t k => XS.iloadN X138.here hx rfl (hb hby d1_48) rfl  k) ?_
                            show own_R p e below _ T138 (mkF m 49 #[.val (.int p1), .val (.int (0 : Int32)), .val (.int (12 : Int32))] [(.int (12 : Int32))])
                            obtain ⟨T141, X141, e141, st141⟩ := getS2 X138 hx hZ hown (host := "") (Or.inl (hw _ (List.mem_of_getElem? (i := 15) rfl))) Via.refl e138 S_NAME_START_RANGES (g := (mkF m 49 #[.val (.int p1), .val (.int (0 : Int32)), .val (.int (12 : Int32))] [(.int (12 : Int32))])) rfl (hb hby d1_49)
                            refine own_go (st141) ?_
                            show own_R p e below _ T141 (mkF m 52 #[.val (.int p1), .val (.int (0 : Int32)), .val (.int (12 : Int32))] [(.ref w), (.int (12 : Int32))])
                            obtain ⟨cl142, Ar142, q142, S142, Nn142, Hh142, G142⟩ := id V_w
                            refine own_go (X141.arraylength hx (by rw [e141]; exact Ar142.1) (State.isArrayOf_alike hZ.alike Ar142.2.1) (g := (mkF m 52 #[.val (.int p1), .val (.int (0 : Int32)), .val (.int (12 : Int32))] [(.ref w), (.int (12 : Int32))])) rfl rfl (hb hby d1_52)) ?_
                            rw [len_of S142 Nn142]
                            show own_R p e below _ T141 (mkF m 53 #[.val (.int p1), .val (.int (0 : Int32)), .val (.int (12 : Int32))] [(.int (24 : Int32)), (.int (12 : Int32))])
                            refine own_go (fun t k => XS.icmpNo X141.here hx rfl (hb hby d1_53) rfl (tlt (by decide : (12 : Int32) < (24 : Int32))).2.1 k) ?_
                            show own_R p e below _ T141 (mkF m 56 #[.val (.int p1), .val (.int (0 : Int32)), .val (.int (12 : Int32))] [])
                            refine own_go (fun t k => XS.iloadN X141.here hx rfl (hb hby d1_56) rfl  k) ?_
                            show own_R p e below _ T141 (mkF m 57 #[.val (.int p1), .val (.int (0 : Int32)), .val (.int (12 : Int32))] [(.int p1)])
                            obtain ⟨T143, X143, e143, st143⟩ := getS2 X141 hx hZ hown (host := "") (Or.inl (hw _ (List.mem_of_getElem? (i := 15) rfl))) Via.refl e141 S_NAME_START_RANGES (g := (mkF m 57 #[.val (.int p1), .val (.int (0 : Int32)), .val (.int (12 : Int32))] [(.int p1)])) rfl (hb hby d1_57)
                            refine own_go (st143) ?_
                            show own_R p e below _ T143 (mkF m 60 #[.val (.int p1), .val (.int (0 : Int32)), .val (.int (12 : Int32))] [(.ref w), (.int p1)])
                            refine own_go (fun t k => XS.iloadN X143.here hx rfl (hb hby d1_60) rfl  k) ?_
                            show own_R p e below _ T143 (mkF m 61 #[.val (.int p1), .val (.int (0 : Int32)), .val (.int (12 : Int32))] [(.int (12 : Int32)), (.ref w), (.int p1)])
                            obtain ⟨cl144, Ar144, q144, S144, Nn144, Hh144, G144⟩ := id V_w
                            have hin144 : ¬ ((12 : Int32) < 0 ∨ cl144.slots.size ≤ ((12 : Int32)).toNatClampNeg) := inb_of S144 ⟨by decide, by decide⟩
                            have hat144 : cl144.slots[((12 : Int32)).toNatClampNeg]? = some (.int (8304 : Int32)) := Has.at Hh144 hin144 rfl
                            refine own_go (X143.iaload hx (j := (12 : Int32)) (v := (.int (8304 : Int32))) (by rw [e143]; exact Ar144.1) (State.isArrayOf_alike hZ.alike Ar144.2.1) Ar144.2.2 hin144 hat144 (g := (mkF m 61 #[.val (.int p1), .val (.int (0 : Int32)), .val (.int (12 : Int32))] [(.int (12 : Int32)), (.ref w), (.int p1)])) rfl rfl (hb hby d1_61)) ?_
                            show own_R p e below _ T143 (mkF m 62 #[.val (.int p1), .val (.int (0 : Int32)), .val (.int (12 : Int32))] [(.int (8304 : Int32)), (.int p1)])
                            by_cases hc62_145 : p1 < (8304 : Int32)
                            · -- pc 62: yes
                              refine own_go (fun t k => XS.icmpYes X143.here hx rfl (pc0 := 62) (pc' := 88) rfl (hb hby d1_62) rfl (tlt hc62_145).1 (by decide) (by decide) k) ?_
                              show own_R p e below _ T143 (mkF m 88 #[.val (.int p1), .val (.int (0 : Int32)), .val (.int (12 : Int32))] [])
                              refine own_go (fun t k => XS.iloadN X143.here hx rfl (hb hby d1_88) rfl  k) ?_
                              show own_R p e below _ T143 (mkF m 89 #[.val (.int p1), .val (.int (0 : Int32)), .val (.int (12 : Int32))] [(.int (0 : Int32))])
                              refine own_retN X143 hx Bd.returns (by simp) (BodyLoose.notSynchronized Bd) (hb hby d1_89) (by decide) (by decide) ?_
                              have z146 : 192 ≤ p1.toInt := own_nlti hc62_61 rfl rfl
                              have z147 : 214 < p1.toInt := own_lti hc73_65 rfl rfl
                              have z148 : 216 ≤ p1.toInt := own_nlti hc62_70 rfl rfl
                              have z149 : 246 < p1.toInt := own_lti hc73_76 rfl rfl
                              have z150 : 248 ≤ p1.toInt := own_nlti hc62_81 rfl rfl
                              have z151 : 767 < p1.toInt := own_lti hc73_89 rfl rfl
                              have z152 : 880 ≤ p1.toInt := own_nlti hc62_94 rfl rfl
                              have z153 : 893 < p1.toInt := own_lti hc73_104 rfl rfl
                              have z154 : 895 ≤ p1.toInt := own_nlti hc62_109 rfl rfl
                              have z155 : 8191 < p1.toInt := own_lti hc73_121 rfl rfl
                              have z156 : 8204 ≤ p1.toInt := own_nlti hc62_126 rfl rfl
                              have z157 : 8205 < p1.toInt := own_lti hc73_140 rfl rfl
                              have z158 : p1.toInt < 8304 := own_lti hc62_145 rfl rfl
                              have hn : ¬ own_l p1.toInt := by
                                intro q
                                rcases q with q | q | q | q | q | q | q | q | q | q | q | q | q | q | q | q
                                · exact hA (Or.inl (q))
                                · exact hA (Or.inr (Or.inl (q)))
                                · exact hA (Or.inr (Or.inr (Or.inl (q))))
                                · exact hA (Or.inr (Or.inr (Or.inr (q))))
                                all_goals (clear hA; omega)
                              exact ⟨by rw [if_neg hn]; rfl, N1, e143⟩
                            · -- pc 62: no
                              refine own_go (fun t k => XS.icmpNo X143.here hx rfl (hb hby d1_62) rfl (flt hc62_145).1 k) ?_
                              show own_R p e below _ T143 (mkF m 65 #[.val (.int p1), .val (.int (0 : Int32)), .val (.int (12 : Int32))] [])
                              refine own_go (fun t k => XS.iloadN X143.here hx rfl (hb hby d1_65) rfl  k) ?_
                              show own_R p e below _ T143 (mkF m 66 #[.val (.int p1), .val (.int (0 : Int32)), .val (.int (12 : Int32))] [(.int p1)])
                              obtain ⟨T159, X159, e159, st159⟩ := getS2 X143 hx hZ hown (host := "") (Or.inl (hw _ (List.mem_of_getElem? (i := 15) rfl))) Via.refl e143 S_NAME_START_RANGES (g := (mkF m 66 #[.val (.int p1), .val (.int (0 : Int32)), .val (.int (12 : Int32))] [(.int p1)])) rfl (hb hby d1_66)
                              refine own_go (st159) ?_
                              show own_R p e below _ T159 (mkF m 69 #[.val (.int p1), .val (.int (0 : Int32)), .val (.int (12 : Int32))] [(.ref w), (.int p1)])
                              refine own_go (fun t k => XS.iloadN X159.here hx rfl (hb hby d1_69) rfl  k) ?_
                              show own_R p e below _ T159 (mkF m 70 #[.val (.int p1), .val (.int (0 : Int32)), .val (.int (12 : Int32))] [(.int (12 : Int32)), (.ref w), (.int p1)])
                              refine own_go (fun t k => XS.iconst X159.here hx rfl (hb hby d1_70) k) ?_
                              show own_R p e below _ T159 (mkF m 71 #[.val (.int p1), .val (.int (0 : Int32)), .val (.int (12 : Int32))] [(.int (1 : Int32)), (.int (12 : Int32)), (.ref w), (.int p1)])
                              refine own_go (fun t k => XS.iadd X159.here hx rfl (hb hby d1_71) rfl k) ?_
                              show own_R p e below _ T159 (mkF m 72 #[.val (.int p1), .val (.int (0 : Int32)), .val (.int (12 : Int32))] [(.int (13 : Int32)), (.ref w), (.int p1)])
                              obtain ⟨cl160, Ar160, q160, S160, Nn160, Hh160, G160⟩ := id V_w
                              have hin160 : ¬ ((13 : Int32) < 0 ∨ cl160.slots.size ≤ ((13 : Int32)).toNatClampNeg) := inb_of S160 ⟨by decide, by decide⟩
                              have hat160 : cl160.slots[((13 : Int32)).toNatClampNeg]? = some (.int (8591 : Int32)) := Has.at Hh160 hin160 rfl
                              refine own_go (X159.iaload hx (j := (13 : Int32)) (v := (.int (8591 : Int32))) (by rw [e159]; exact Ar160.1) (State.isArrayOf_alike hZ.alike Ar160.2.1) Ar160.2.2 hin160 hat160 (g := (mkF m 72 #[.val (.int p1), .val (.int (0 : Int32)), .val (.int (12 : Int32))] [(.int (13 : Int32)), (.ref w), (.int p1)])) rfl rfl (hb hby d1_72)) ?_
                              show own_R p e below _ T159 (mkF m 73 #[.val (.int p1), .val (.int (0 : Int32)), .val (.int (12 : Int32))] [(.int (8591 : Int32)), (.int p1)])
                              by_cases hc73_161 : (8591 : Int32) < p1
                              · -- pc 73: yes
                                refine own_go (fun t k => XS.icmpYes X159.here hx rfl (pc0 := 73) (pc' := 80) rfl (hb hby d1_73) rfl (tlt hc73_161).2.2.1 (by decide) (by decide) k) ?_
                                show own_R p e below _ T159 (mkF m 80 #[.val (.int p1), .val (.int (0 : Int32)), .val (.int (12 : Int32))] [])
                                refine own_go (fun t k => XS.iconst X159.here hx rfl (hb hby d1_80) k) ?_
                                show own_R p e below _ T159 (mkF m 81 #[.val (.int p1), .val (.int (0 : Int32)), .val (.int (12 : Int32))] [(.int (0 : Int32))])
                                refine own_go (fun t k => XS.istoreN X159.here hx rfl (hb hby d1_81) rfl (l' := #[.val (.int p1), .val (.int (0 : Int32)), .val (.int (12 : Int32))]) rfl k) ?_
                                show own_R p e below _ T159 (mkF m 82 #[.val (.int p1), .val (.int (0 : Int32)), .val (.int (12 : Int32))] [])
                                refine own_go (fun t k => XS.iinc X159.here hx rfl (hb hby d1_82) rfl (l' := #[.val (.int p1), .val (.int (0 : Int32)), .val (.int (14 : Int32))]) rfl k) ?_
                                show own_R p e below _ T159 (mkF m 85 #[.val (.int p1), .val (.int (0 : Int32)), .val (.int (14 : Int32))] [])
                                refine own_go (fun t k => XS.goto X159.here hx rfl (pc0 := 85) (pc' := 44) rfl (hb hby d1_85) (by decide) (by decide) k) ?_
                                show own_R p e below _ T159 (mkF m 44 #[.val (.int p1), .val (.int (0 : Int32)), .val (.int (14 : Int32))] [])
                                refine own_go (fun t k => XS.iloadN X159.here hx rfl (hb hby d1_44) rfl  k) ?_
                                show own_R p e below _ T159 (mkF m 45 #[.val (.int p1), .val (.int (0 : Int32)), .val (.int (14 : Int32))] [(.int (0 : Int32))])
                                refine own_go (fun t k => XS.ifNo X159.here hx rfl (hb hby d1_45) rfl ((if0 _ _).trans (teq (by decide : (0 : Int32) = (0 : Int32))).2) k) ?_
                                show own_R p e below _ T159 (mkF m 48 #[.val (.int p1), .val (.int (0 : Int32)), .val (.int (14 : Int32))] [])
                                refine own_go (fun t k => XS.iloadN X159.here hx rfl (hb hby d1_48) rfl  k) ?_
                                show own_R p e below _ T159 (mkF m 49 #[.val (.int p1), .val (.int (0 : Int32)), .val (.int (14 : Int32))] [(.int (14 : Int32))])
                                obtain ⟨T162, X162, e162, st162⟩ := getS2 X159 hx hZ hown (host := "") (Or.inl (hw _ (List.mem_of_getElem? (i := 15) rfl))) Via.refl e159 S_NAME_START_RANGES (g := (mkF m 49 #[.val (.int p1), .val (.int (0 : Int32)), .val (.int (14 : Int32))] [(.int (14 : Int32))])) rfl (hb hby d1_49)
                                refine own_go (st162) ?_
                                show own_R p e below _ T162 (mkF m 52 #[.val (.int p1), .val (.int (0 : Int32)), .val (.int (14 : Int32))] [(.ref w), (.int (14 : Int32))])
                                obtain ⟨cl163, Ar163, q163, S163, Nn163, Hh163, G163⟩ := id V_w
                                refine own_go (X162.arraylength hx (by rw [e162]; exact Ar163.1) (State.isArrayOf_alike hZ.alike Ar163.2.1) (g := (mkF m 52 #[.val (.int p1), .val (.int (0 : Int32)), .val (.int (14 : Int32))] [(.ref w), (.int (14 : Int32))])) rfl rfl (hb hby d1_52)) ?_
                                rw [len_of S163 Nn163]
                                show own_R p e below _ T162 (mkF m 53 #[.val (.int p1), .val (.int (0 : Int32)), .val (.int (14 : Int32))] [(.int (24 : Int32)), (.int (14 : Int32))])
                                refine own_go (fun t k => XS.icmpNo X162.here hx rfl (hb hby d1_53) rfl (tlt (by decide : (14 : Int32) < (24 : Int32))).2.1 k) ?_
                                show own_R p e below _ T162 (mkF m 56 #[.val (.int p1), .val (.int (0 : Int32)), .val (.int (14 : Int32))] [])
                                refine own_go (fun t k => XS.iloadN X162.here hx rfl (hb hby d1_56) rfl  k) ?_
                                show own_R p e below _ T162 (mkF m 57 #[.val (.int p1), .val (.int (0 : Int32)), .val (.int (14 : Int32))] [(.int p1)])
                                obtain ⟨T164, X164, e164, st164⟩ := getS2 X162 hx hZ hown (host := "") (Or.inl (hw _ (List.mem_of_getElem? (i := 15) rfl))) Via.refl e162 S_NAME_START_RANGES (g := (mkF m 57 #[.val (.int p1), .val (.int (0 : Int32)), .val (.int (14 : Int32))] [(.int p1)])) rfl (hb hby d1_57)
                                refine own_go (st164) ?_
                                show own_R p e below _ T164 (mkF m 60 #[.val (.int p1), .val (.int (0 : Int32)), .val (.int (14 : Int32))] [(.ref w), (.int p1)])
                                refine own_go (fun t k => XS.iloadN X164.here hx rfl (hb hby d1_60) rfl  k) ?_
                                show own_R p e below _ T164 (mkF m 61 #[.val (.int p1), .val (.int (0 : Int32)), .val (.int (14 : Int32))] [(.int (14 : Int32)), (.ref w), (.int p1)])
                                obtain ⟨cl165, Ar165, q165, S165, Nn165, Hh165, G165⟩ := id V_w
                                have hin165 : ¬ ((14 : Int32) < 0 ∨ cl165.slots.size ≤ ((14 : Int32)).toNatClampNeg) := inb_of S165 ⟨by decide, by decide⟩
                                have hat165 : cl165.slots[((14 : Int32)).toNatClampNeg]? = some (.int (11264 : Int32)) := Has.at Hh165 hin165 rfl
                                refine own_go (X164.iaload hx (j := (14 : Int32)) (v := (.int (11264 : Int32))) (by rw [e164]; exact Ar165.1) (State.isArrayOf_alike hZ.alike Ar165.2.1) Ar165.2.2 hin165 hat165 (g := (mkF m 61 #[.val (.int p1), .val (.int (0 : Int32)), .val (.int (14 : Int32))] [(.int (14 : Int32)), (.ref w), (.int p1)])) rfl rfl (hb hby d1_61)) ?_
                                show own_R p e below _ T164 (mkF m 62 #[.val (.int p1), .val (.int (0 : Int32)), .val (.int (14 : Int32))] [(.int (11264 : Int32)), (.int p1)])
                                by_cases hc62_166 : p1 < (11264 : Int32)
                                · -- pc 62: yes
                                  refine own_go (fun t k => XS.icmpYes X164.here hx rfl (pc0 := 62) (pc' := 88) rfl (hb hby d1_62) rfl (tlt hc62_166).1 (by decide) (by decide) k) ?_
                                  show own_R p e below _ T164 (mkF m 88 #[.val (.int p1), .val (.int (0 : Int32)), .val (.int (14 : Int32))] [])
                                  refine own_go (fun t k => XS.iloadN X164.here hx rfl (hb hby d1_88) rfl  k) ?_
                                  show own_R p e below _ T164 (mkF m 89 #[.val (.int p1), .val (.int (0 : Int32)), .val (.int (14 : Int32))] [(.int (0 : Int32))])
                                  refine own_retN X164 hx Bd.returns (by simp) (BodyLoose.notSynchronized Bd) (hb hby d1_89) (by decide) (by decide) ?_
                                  have z167 : 192 ≤ p1.toInt := own_nlti hc62_61 rfl rfl
                                  have z168 : 214 < p1.toInt := own_lti hc73_65 rfl rfl
                                  have z169 : 216 ≤ p1.toInt := own_nlti hc62_70 rfl rfl
                                  have z170 : 246 < p1.toInt := own_lti hc73_76 rfl rfl
                                  have z171 : 248 ≤ p1.toInt := own_nlti hc62_81 rfl rfl
                                  have z172 : 767 < p1.toInt := own_lti hc73_89 rfl rfl
                                  have z173 : 880 ≤ p1.toInt := own_nlti hc62_94 rfl rfl
                                  have z174 : 893 < p1.toInt := own_lti hc73_104 rfl rfl
                                  have z175 : 895 ≤ p1.toInt := own_nlti hc62_109 rfl rfl
                                  have z176 : 8191 < p1.toInt := own_lti hc73_121 rfl rfl
                                  have z177 : 8204 ≤ p1.toInt := own_nlti hc62_126 rfl rfl
                                  have z178 : 8205 < p1.toInt := own_lti hc73_140 rfl rfl
                                  have z179 : 8304 ≤ p1.toInt := own_nlti hc62_145 rfl rfl
                                  have z180 : 8591 < p1.toInt := own_lti hc73_161 rfl rfl
                                  have z181 : p1.toInt < 11264 := own_lti hc62_166 rfl rfl
                                  have hn : ¬ own_l p1.toInt := by
                                    intro q
                                    rcases q with q | q | q | q | q | q | q | q | q | q | q | q | q | q | q | q
                                    · exact hA (Or.inl (q))
                                    · exact hA (Or.inr (Or.inl (q)))
                                    · exact hA (Or.inr (Or.inr (Or.inl (q))))
                                    · exact hA (Or.inr (Or.inr (Or.inr (q))))
                                    all_goals (clear hA; omega)
                                  exact ⟨by rw [if_neg hn]; rfl, N1, e164⟩
                                · -- pc 62: no
                                  refine own_go (fun t k => XS.icmpNo X164.here hx rfl (hb hby d1_62) rfl (flt hc62_166).1 k) ?_
                                  show own_R p e below _ T164 (mkF m 65 #[.val (.int p1), .val (.int (0 : Int32)), .val (.int (14 : Int32))] [])
                                  refine own_go (fun t k => XS.iloadN X164.here hx rfl (hb hby d1_65) rfl  k) ?_
                                  show own_R p e below _ T164 (mkF m 66 #[.val (.int p1), .val (.int (0 : Int32)), .val (.int (14 : Int32))] [(.int p1)])
                                  obtain ⟨T182, X182, e182, st182⟩ := getS2 X164 hx hZ hown (host := "") (Or.inl (hw _ (List.mem_of_getElem? (i := 15) rfl))) Via.refl e164 S_NAME_START_RANGES (g := (mkF m 66 #[.val (.int p1), .val (.int (0 : Int32)), .val (.int (14 : Int32))] [(.int p1)])) rfl (hb hby d1_66)
                                  refine own_go (st182) ?_
                                  show own_R p e below _ T182 (mkF m 69 #[.val (.int p1), .val (.int (0 : Int32)), .val (.int (14 : Int32))] [(.ref w), (.int p1)])
                                  refine own_go (fun t k => XS.iloadN X182.here hx rfl (hb hby d1_69) rfl  k) ?_
                                  show own_R p e below _ T182 (mkF m 70 #[.val (.int p1), .val (.int (0 : Int32)), .val (.int (14 : Int32))] [(.int (14 : Int32)), (.ref w), (.int p1)])
                                  refine own_go (fun t k => XS.iconst X182.here hx rfl (hb hby d1_70) k) ?_
                                  show own_R p e below _ T182 (mkF m 71 #[.val (.int p1), .val (.int (0 : Int32)), .val (.int (14 : Int32))] [(.int (1 : Int32)), (.int (14 : Int32)), (.ref w), (.int p1)])
                                  refine own_go (fun t k => XS.iadd X182.here hx rfl (hb hby d1_71) rfl k) ?_
                                  show own_R p e below _ T182 (mkF m 72 #[.val (.int p1), .val (.int (0 : Int32)), .val (.int (14 : Int32))] [(.int (15 : Int32)), (.ref w), (.int p1)])
                                  obtain ⟨cl183, Ar183, q183, S183, Nn183, Hh183, G183⟩ := id V_w
                                  have hin183 : ¬ ((15 : Int32) < 0 ∨ cl183.slots.size ≤ ((15 : Int32)).toNatClampNeg) := inb_of S183 ⟨by decide, by decide⟩
                                  have hat183 : cl183.slots[((15 : Int32)).toNatClampNeg]? = some (.int (12271 : Int32)) := Has.at Hh183 hin183 rfl
                                  refine own_go (X182.iaload hx (j := (15 : Int32)) (v := (.int (12271 : Int32))) (by rw [e182]; exact Ar183.1) (State.isArrayOf_alike hZ.alike Ar183.2.1) Ar183.2.2 hin183 hat183 (g := (mkF m 72 #[.val (.int p1), .val (.int (0 : Int32)), .val (.int (14 : Int32))] [(.int (15 : Int32)), (.ref w), (.int p1)])) rfl rfl (hb hby d1_72)) ?_
                                  show own_R p e below _ T182 (mkF m 73 #[.val (.int p1), .val (.int (0 : Int32)), .val (.int (14 : Int32))] [(.int (12271 : Int32)), (.int p1)])
                                  by_cases hc73_184 : (12271 : Int32) < p1
                                  · -- pc 73: yes
                                    refine own_go (fun t k => XS.icmpYes X182.here hx rfl (pc0 := 73) (pc' := 80) rfl (hb hby d1_73) rfl (tlt hc73_184).2.2.1 (by decide) (by decide) k) ?_
                                    show own_R p e below _ T182 (mkF m 80 #[.val (.int p1), .val (.int (0 : Int32)), .val (.int (14 : Int32))] [])
                                    refine own_go (fun t k => XS.iconst X182.here hx rfl (hb hby d1_80) k) ?_
                                    show own_R p e below _ T182 (mkF m 81 #[.val (.int p1), .val (.int (0 : Int32)), .val (.int (14 : Int32))] [(.int (0 : Int32))])
                                    refine own_go (fun t k => XS.istoreN X182.here hx rfl (hb hby d1_81) rfl (l' := #[.val (.int p1), .val (.int (0 : Int32)), .val (.int (14 : Int32))]) rfl k) ?_
                                    show own_R p e below _ T182 (mkF m 82 #[.val (.int p1), .val (.int (0 : Int32)), .val (.int (14 : Int32))] [])
                                    refine own_go (fun t k => XS.iinc X182.here hx rfl (hb hby d1_82) rfl (l' := #[.val (.int p1), .val (.int (0 : Int32)), .val (.int (16 : Int32))]) rfl k) ?_
                                    show own_R p e below _ T182 (mkF m 85 #[.val (.int p1), .val (.int (0 : Int32)), .val (.int (16 : Int32))] [])
                                    refine own_go (fun t k => XS.goto X182.here hx rfl (pc0 := 85) (pc' := 44) rfl (hb hby d1_85) (by decide) (by decide) k) ?_
                                    show own_R p e below _ T182 (mkF m 44 #[.val (.int p1), .val (.int (0 : Int32)), .val (.int (16 : Int32))] [])
                                    refine own_go (fun t k => XS.iloadN X182.here hx rfl (hb hby d1_44) rfl  k) ?_
                                    show own_R p e below _ T182 (mkF m 45 #[.val (.int p1), .val (.int (0 : Int32)), .val (.int (16 : Int32))] [(.int (0 : Int32))])
                                    refine own_go (fun t k => XS.ifNo X182.here hx rfl (hb hby d1_45) rfl ((if0 _ _).trans (teq (by decide : (0 : Int32) = (0 : Int32))).2) k) ?_
                                    show own_R p e below _ T182 (mkF m 48 #[.val (.int p1), .val (.int (0 : Int32)), .val (.int (16 : Int32))] [])
                                    refine own_go (fun t k => XS.iloadN X182.here hx rfl (hb hby d1_48) rfl  k) ?_
                                    show own_R p e below _ T182 (mkF m 49 #[.val (.int p1), .val (.int (0 : Int32)), .val (.int (16 : Int32))] [(.int (16 : Int32))])
                                    obtain ⟨T185, X185, e185, st185⟩ := getS2 X182 hx hZ hown (host := "") (Or.inl (hw _ (List.mem_of_getElem? (i := 15) rfl))) Via.refl e182 S_NAME_START_RANGES (g := (mkF m 49 #[.val (.int p1), .val (.int (0 : Int32)), .val (.int (16 : Int32))] [(.int (16 : Int32))])) rfl (hb hby d1_49)
                                    refine own_go (st185) ?_
                                    show own_R p e below _ T185 (mkF m 52 #[.val (.int p1), .val (.int (0 : Int32)), .val (.int (16 : Int32))] [(.ref w), (.int (16 : Int32))])
                                    obtain ⟨cl186, Ar186, q186, S186, Nn186, Hh186, G186⟩ := id V_w
                                    refine own_go (X185.arraylength hx (by rw [e185]; exact Ar186.1) (State.isArrayOf_alike hZ.alike Ar186.2.1) (g := (mkF m 52 #[.val (.int p1), .val (.int (0 : Int32)), .val (.int (16 : Int32))] [(.ref w), (.int (16 : Int32))])) rfl rfl (hb hby d1_52)) ?_
                                    rw [len_of S186 Nn186]
                                    show own_R p e below _ T185 (mkF m 53 #[.val (.int p1), .val (.int (0 : Int32)), .val (.int (16 : Int32))] [(.int (24 : Int32)), (.int (16 : Int32))])
                                    refine own_go (fun t k => XS.icmpNo X185.here hx rfl (hb hby d1_53) rfl (tlt (by decide : (16 : Int32) < (24 : Int32))).2.1 k) ?_
                                    show own_R p e below _ T185 (mkF m 56 #[.val (.int p1), .val (.int (0 : Int32)), .val (.int (16 : Int32))] [])
                                    refine own_go (fun t k => XS.iloadN X185.here hx rfl (hb hby d1_56) rfl  k) ?_
                                    show own_R p e below _ T185 (mkF m 57 #[.val (.int p1), .val (.int (0 : Int32)), .val (.int (16 : Int32))] [(.int p1)])
                                    obtain ⟨T187, X187, e187, st187⟩ := getS2 X185 hx hZ hown (host := "") (Or.inl (hw _ (List.mem_of_getElem? (i := 15) rfl))) Via.refl e185 S_NAME_START_RANGES (g := (mkF m 57 #[.val (.int p1), .val (.int (0 : Int32)), .val (.int (16 : Int32))] [(.int p1)])) rfl (hb hby d1_57)
                                    refine own_go (st187) ?_
                                    show own_R p e below _ T187 (mkF m 60 #[.val (.int p1), .val (.int (0 : Int32)), .val (.int (16 : Int32))] [(.ref w), (.int p1)])
                                    refine own_go (fun t k => XS.iloadN X187.here hx rfl (hb hby d1_60) rfl  k) ?_
                                    show own_R p e below _ T187 (mkF m 61 #[.val (.int p1), .val (.int (0 : Int32)), .val (.int (16 : Int32))] [(.int (16 : Int32)), (.ref w), (.int p1)])
                                    obtain ⟨cl188, Ar188, q188, S188, Nn188, Hh188, G188⟩ := id V_w
                                    have hin188 : ¬ ((16 : Int32) < 0 ∨ cl188.slots.size ≤ ((16 : Int32)).toNatClampNeg) := inb_of S188 ⟨by decide, by decide⟩
                                    have hat188 : cl188.slots[((16 : Int32)).toNatClampNeg]? = some (.int (12289 : Int32)) := Has.at Hh188 hin188 rfl
                                    refine own_go (X187.iaload hx (j := (16 : Int32)) (v := (.int (12289 : Int32))) (by rw [e187]; exact Ar188.1) (State.isArrayOf_alike hZ.alike Ar188.2.1) Ar188.2.2 hin188 hat188 (g := (mkF m 61 #[.val (.int p1), .val (.int (0 : Int32)), .val (.int (16 : Int32))] [(.int (16 : Int32)), (.ref w), (.int p1)])) rfl rfl (hb hby d1_61)) ?_
                                    show own_R p e below _ T187 (mkF m 62 #[.val (.int p1), .val (.int (0 : Int32)), .val (.int (16 : Int32))] [(.int (12289 : Int32)), (.int p1)])
                                    by_cases hc62_189 : p1 < (12289 : Int32)
                                    · -- pc 62: yes
                                      refine own_go (fun t k => XS.icmpYes X187.here hx rfl (pc0 := 62) (pc' := 88) rfl (hb hby d1_62) rfl (tlt hc62_189).1 (by decide) (by decide) k) ?_
                                      show own_R p e below _ T187 (mkF m 88 #[.val (.int p1), .val (.int (0 : Int32)), .val (.int (16 : Int32))] [])
                                      refine own_go (fun t k => XS.iloadN X187.here hx rfl (hb hby d1_88) rfl  k) ?_
                                      show own_R p e below _ T187 (mkF m 89 #[.val (.int p1), .val (.int (0 : Int32)), .val (.int (16 : Int32))] [(.int (0 : Int32))])
                                      refine own_retN X187 hx Bd.returns (by simp) (BodyLoose.notSynchronized Bd) (hb hby d1_89) (by decide) (by decide) ?_
                                      have z190 : 192 ≤ p1.toInt := own_nlti hc62_61 rfl rfl
                                      have z191 : 214 < p1.toInt := own_lti hc73_65 rfl rfl
                                      have z192 : 216 ≤ p1.toInt := own_nlti hc62_70 rfl rfl
                                      have z193 : 246 < p1.toInt := own_lti hc73_76 rfl rfl
                                      have z194 : 248 ≤ p1.toInt := own_nlti hc62_81 rfl rfl
                                      have z195 : 767 < p1.toInt := own_lti hc73_89 rfl rfl
                                      have z196 : 880 ≤ p1.toInt := own_nlti hc62_94 rfl rfl
                                      have z197 : 893 < p1.toInt := own_lti hc73_104 rfl rfl
                                      have z198 : 895 ≤ p1.toInt := own_nlti hc62_109 rfl rfl
                                      have z199 : 8191 < p1.toInt := own_lti hc73_121 rfl rfl
                                      have z200 : 8204 ≤ p1.toInt := own_nlti hc62_126 rfl rfl
                                      have z201 : 8205 < p1.toInt := own_lti hc73_140 rfl rfl
                                      have z202 : 8304 ≤ p1.toInt := own_nlti hc62_145 rfl rfl
                                      have z203 : 8591 < p1.toInt := own_lti hc73_161 rfl rfl
                                      have z204 : 11264 ≤ p1.toInt := own_nlti hc62_166 rfl rfl
                                      have z205 : 12271 < p1.toInt := own_lti hc73_184 rfl rfl
                                      have z206 : p1.toInt < 12289 := own_lti hc62_189 rfl rfl
                                      have hn : ¬ own_l p1.toInt := by
                                        intro q
                                        rcases q with q | q | q | q | q | q | q | q | q | q | q | q | q | q | q | q
                                        · exact hA (Or.inl (q))
                                        · exact hA (Or.inr (Or.inl (q)))
                                        · exact hA (Or.inr (Or.inr (Or.inl (q))))
                                        · exact hA (Or.inr (Or.inr (Or.inr (q))))
                                        all_goals (clear hA; omega)
                                      exact ⟨by rw [if_neg hn]; rfl, N1, e187⟩
                                    · -- pc 62: no
                                      refine own_go (fun t k => XS.icmpNo X187.here hx rfl (hb hby d1_62) rfl (flt hc62_189).1 k) ?_
                                      show own_R p e below _ T187 (mkF m 65 #[.val (.int p1), .val (.int (0 : Int32)), .val (.int (16 : Int32))] [])
                                      refine own_go (fun t k => XS.iloadN X187.here hx rfl (hb hby d1_65) rfl  k) ?_
                                      show own_R p e below _ T187 (mkF m 66 #[.val (.int p1), .val (.int (0 : Int32)), .val (.int (16 : Int32))] [(.int p1)])
                                      obtain ⟨T207, X207, e207, st207⟩ := getS2 X187 hx hZ hown (host := "") (Or.inl (hw _ (List.mem_of_getElem? (i := 15) rfl))) Via.refl e187 S_NAME_START_RANGES (g := (mkF m 66 #[.val (.int p1), .val (.int (0 : Int32)), .val (.int (16 : Int32))] [(.int p1)])) rfl (hb hby d1_66)
                                      refine own_go (st207) ?_
                                      show own_R p e below _ T207 (mkF m 69 #[.val (.int p1), .val (.int (0 : Int32)), .val (.int (16 : Int32))] [(.ref w), (.int p1)])
                                      refine own_go (fun t k => XS.iloadN X207.here hx rfl (hb hby d1_69) rfl  k) ?_
                                      show own_R p e below _ T207 (mkF m 70 #[.val (.int p1), .val (.int (0 : Int32)), .val (.int (16 : Int32))] [(.int (16 : Int32)), (.ref w), (.int p1)])
                                      refine own_go (fun t k => XS.iconst X207.here hx rfl (hb hby d1_70) k) ?_
                                      show own_R p e below _ T207 (mkF m 71 #[.val (.int p1), .val (.int (0 : Int32)), .val (.int (16 : Int32))] [(.int (1 : Int32)), (.int (16 : Int32)), (.ref w), (.int p1)])
                                      refine own_go (fun t k => XS.iadd X207.here hx rfl (hb hby d1_71) rfl k) ?_
                                      show own_R p e below _ T207 (mkF m 72 #[.val (.int p1), .val (.int (0 : Int32)), .val (.int (16 : Int32))] [(.int (17 : Int32)), (.ref w), (.int p1)])
                                      obtain ⟨cl208, Ar208, q208, S208, Nn208, Hh208, G208⟩ := id V_w
                                      have hin208 : ¬ ((17 : Int32) < 0 ∨ cl208.slots.size ≤ ((17 : Int32)).toNatClampNeg) := inb_of S208 ⟨by decide, by decide⟩
                                      have hat208 : cl208.slots[((17 : Int32)).toNatClampNeg]? = some (.int (55295 : Int32)) := Has.at Hh208 hin208 rfl
                                      refine own_go (X207.iaload hx (j := (17 : Int32)) (v := (.int (55295 : Int32))) (by rw [e207]; exact Ar208.1) (State.isArrayOf_alike hZ.alike Ar208.2.1) Ar208.2.2 hin208 hat208 (g := (mkF m 72 #[.val (.int p1), .val (.int (0 : Int32)), .val (.int (16 : Int32))] [(.int (17 : Int32)), (.ref w), (.int p1)])) rfl rfl (hb hby d1_72)) ?_
                                      show own_R p e below _ T207 (mkF m 73 #[.val (.int p1), .val (.int (0 : Int32)), .val (.int (16 : Int32))] [(.int (55295 : Int32)), (.int p1)])
                                      by_cases hc73_209 : (55295 : Int32) < p1
                                      · -- pc 73: yes
                                        refine own_go (fun t k => XS.icmpYes X207.here hx rfl (pc0 := 73) (pc' := 80) rfl (hb hby d1_73) rfl (tlt hc73_209).2.2.1 (by decide) (by decide) k) ?_
                                        show own_R p e below _ T207 (mkF m 80 #[.val (.int p1), .val (.int (0 : Int32)), .val (.int (16 : Int32))] [])
                                        refine own_go (fun t k => XS.iconst X207.here hx rfl (hb hby d1_80) k) ?_
                                        show own_R p e below _ T207 (mkF m 81 #[.val (.int p1), .val (.int (0 : Int32)), .val (.int (16 : Int32))] [(.int (0 : Int32))])
                                        refine own_go (fun t k => XS.istoreN X207.here hx rfl (hb hby d1_81) rfl (l' := #[.val (.int p1), .val (.int (0 : Int32)), .val (.int (16 : Int32))]) rfl k) ?_
                                        show own_R p e below _ T207 (mkF m 82 #[.val (.int p1), .val (.int (0 : Int32)), .val (.int (16 : Int32))] [])
                                        refine own_go (fun t k => XS.iinc X207.here hx rfl (hb hby d1_82) rfl (l' := #[.val (.int p1), .val (.int (0 : Int32)), .val (.int (18 : Int32))]) rfl k) ?_
                                        show own_R p e below _ T207 (mkF m 85 #[.val (.int p1), .val (.int (0 : Int32)), .val (.int (18 : Int32))] [])
                                        refine own_go (fun t k => XS.goto X207.here hx rfl (pc0 := 85) (pc' := 44) rfl (hb hby d1_85) (by decide) (by decide) k) ?_
                                        show own_R p e below _ T207 (mkF m 44 #[.val (.int p1), .val (.int (0 : Int32)), .val (.int (18 : Int32))] [])
                                        refine own_go (fun t k => XS.iloadN X207.here hx rfl (hb hby d1_44) rfl  k) ?_
                                        show own_R p e below _ T207 (mkF m 45 #[.val (.int p1), .val (.int (0 : Int32)), .val (.int (18 : Int32))] [(.int (0 : Int32))])
                                        refine own_go (fun t k => XS.ifNo X207.here hx rfl (hb hby d1_45) rfl ((if0 _ _).trans (teq (by decide : (0 : Int32) = (0 : Int32))).2) k) ?_
                                        show own_R p e below _ T207 (mkF m 48 #[.val (.int p1), .val (.int (0 : Int32)), .val (.int (18 : Int32))] [])
                                        refine own_go (fun t k => XS.iloadN X207.here hx rfl (hb hby d1_48) rfl  k) ?_
                                        show own_R p e below _ T207 (mkF m 49 #[.val (.int p1), .val (.int (0 : Int32)), .val (.int (18 : Int32))] [(.int (18 : Int32))])
                                        obtain ⟨T210, X210, e210, st210⟩ := getS2 X207 hx hZ hown (host := "") (Or.inl (hw _ (List.mem_of_getElem? (i := 15) rfl))) Via.refl e207 S_NAME_START_RANGES (g := (mkF m 49 #[.val (.int p1), .val (.int (0 : Int32)), .val (.int (18 : Int32))] [(.int (18 : Int32))])) rfl (hb hby d1_49)
                                        refine own_go (st210) ?_
                                        show own_R p e below _ T210 (mkF m 52 #[.val (.int p1), .val (.int (0 : Int32)), .val (.int (18 : Int32))] [(.ref w), (.int (18 : Int32))])
                                        obtain ⟨cl211, Ar211, q211, S211, Nn211, Hh211, G211⟩ := id V_w
                                        refine own_go (X210.arraylength hx (by rw [e210]; exact Ar211.1) (State.isArrayOf_alike hZ.alike Ar211.2.1) (g := (mkF m 52 #[.val (.int p1), .val (.int (0 : Int32)), .val (.int (18 : Int32))] [(.ref w), (.int (18 : Int32))])) rfl rfl (hb hby d1_52)) ?_
                                        rw [len_of S211 Nn211]
                                        show own_R p e below _ T210 (mkF m 53 #[.val (.int p1), .val (.int (0 : Int32)), .val (.int (18 : Int32))] [(.int (24 : Int32)), (.int (18 : Int32))])
                                        refine own_go (fun t k => XS.icmpNo X210.here hx rfl (hb hby d1_53) rfl (tlt (by decide : (18 : Int32) < (24 : Int32))).2.1 k) ?_
                                        show own_R p e below _ T210 (mkF m 56 #[.val (.int p1), .val (.int (0 : Int32)), .val (.int (18 : Int32))] [])
                                        refine own_go (fun t k => XS.iloadN X210.here hx rfl (hb hby d1_56) rfl  k) ?_
                                        show own_R p e below _ T210 (mkF m 57 #[.val (.int p1), .val (.int (0 : Int32)), .val (.int (18 : Int32))] [(.int p1)])
                                        obtain ⟨T212, X212, e212, st212⟩ := getS2 X210 hx hZ hown (host := "") (Or.inl (hw _ (List.mem_of_getElem? (i := 15) rfl))) Via.refl e210 S_NAME_START_RANGES (g := (mkF m 57 #[.val (.int p1), .val (.int (0 : Int32)), .val (.int (18 : Int32))] [(.int p1)])) rfl (hb hby d1_57)
                                        refine own_go (st212) ?_
                                        show own_R p e below _ T212 (mkF m 60 #[.val (.int p1), .val (.int (0 : Int32)), .val (.int (18 : Int32))] [(.ref w), (.int p1)])
                                        refine own_go (fun t k => XS.iloadN X212.here hx rfl (hb hby d1_60) rfl  k) ?_
                                        show own_R p e below _ T212 (mkF m 61 #[.val (.int p1), .val (.int (0 : Int32)), .val (.int (18 : Int32))] [(.int (18 : Int32)), (.ref w), (.int p1)])
                                        obtain ⟨cl213, Ar213, q213, S213, Nn213, Hh213, G213⟩ := id V_w
                                        have hin213 : ¬ ((18 : Int32) < 0 ∨ cl213.slots.size ≤ ((18 : Int32)).toNatClampNeg) := inb_of S213 ⟨by decide, by decide⟩
                                        have hat213 : cl213.slots[((18 : Int32)).toNatClampNeg]? = some (.int (63744 : Int32)) := Has.at Hh213 hin213 rfl
                                        refine own_go (X212.iaload hx (j := (18 : Int32)) (v := (.int (63744 : Int32))) (by rw [e212]; exact Ar213.1) (State.isArrayOf_alike hZ.alike Ar213.2.1) Ar213.2.2 hin213 hat213 (g := (mkF m 61 #[.val (.int p1), .val (.int (0 : Int32)), .val (.int (18 : Int32))] [(.int (18 : Int32)), (.ref w), (.int p1)])) rfl rfl (hb hby d1_61)) ?_
                                        show own_R p e below _ T212 (mkF m 62 #[.val (.int p1), .val (.int (0 : Int32)), .val (.int (18 : Int32))] [(.int (63744 : Int32)), (.int p1)])
                                        by_cases hc62_214 : p1 < (63744 : Int32)
                                        · -- pc 62: yes
                                          refine own_go (fun t k => XS.icmpYes X212.here hx rfl (pc0 := 62) (pc' := 88) rfl (hb hby d1_62) rfl (tlt hc62_214).1 (by decide) (by decide) k) ?_
                                          show own_R p e below _ T212 (mkF m 88 #[.val (.int p1), .val (.int (0 : Int32)), .val (.int (18 : Int32))] [])
                                          refine own_go (fun t k => XS.iloadN X212.here hx rfl (hb hby d1_88) rfl  k) ?_
                                          show own_R p e below _ T212 (mkF m 89 #[.val (.int p1), .val (.int (0 : Int32)), .val (.int (18 : Int32))] [(.int (0 : Int32))])
                                          refine own_retN X212 hx Bd.returns (by simp) (BodyLoose.notSynchronized Bd) (hb hby d1_89) (by decide) (by decide) ?_
                                          have z215 : 192 ≤ p1.toInt := own_nlti hc62_61 rfl rfl
                                          have z216 : 214 < p1.toInt := own_lti hc73_65 rfl rfl
                                          have z217 : 216 ≤ p1.toInt := own_nlti hc62_70 rfl rfl
                                          have z218 : 246 < p1.toInt := own_lti hc73_76 rfl rfl
                                          have z219 : 248 ≤ p1.toInt := own_nlti hc62_81 rfl rfl
                                          have z220 : 767 < p1.toInt := own_lti hc73_89 rfl rfl
                                          have z221 : 880 ≤ p1.toInt := own_nlti hc62_94 rfl rfl
                                          have z222 : 893 < p1.toInt := own_lti hc73_104 rfl rfl
                                          have z223 : 895 ≤ p1.toInt := own_nlti hc62_109 rfl rfl
                                          have z224 : 8191 < p1.toInt := own_lti hc73_121 rfl rfl
                                          have z225 : 8204 ≤ p1.toInt := own_nlti hc62_126 rfl rfl
                                          have z226 : 8205 < p1.toInt := own_lti hc73_140 rfl rfl
                                          have z227 : 8304 ≤ p1.toInt := own_nlti hc62_145 rfl rfl
                                          have z228 : 8591 < p1.toInt := own_lti hc73_161 rfl rfl
                                          have z229 : 11264 ≤ p1.toInt := own_nlti hc62_166 rfl rfl
                                          have z230 : 12271 < p1.toInt := own_lti hc73_184 rfl rfl
                                          have z231 : 12289 ≤ p1.toInt := own_nlti hc62_189 rfl rfl
                                          have z232 : 55295 < p1.toInt := own_lti hc73_209 rfl rfl
                                          have z233 : p1.toInt < 63744 := own_lti hc62_214 rfl rfl
                                          have hn : ¬ own_l p1.toInt := by
                                            intro q
                                            rcases q with q | q | q | q | q | q | q | q | q | q | q | q | q | q | q | q
                                            · exact hA (Or.inl (q))
                                            · exact hA (Or.inr (Or.inl (q)))
                                            · exact hA (Or.inr (Or.inr (Or.inl (q))))
                                            · exact hA (Or.inr (Or.inr (Or.inr (q))))
                                            all_goals (clear hA; omega)
                                          exact ⟨by rw [if_neg hn]; rfl, N1, e212⟩
                                        · -- pc 62: no
                                          refine own_go (fun t k => XS.icmpNo X212.here hx rfl (hb hby d1_62) rfl (flt hc62_214).1 k) ?_
                                          show own_R p e below _ T212 (mkF m 65 #[.val (.int p1), .val (.int (0 : Int32)), .val (.int (18 : Int32))] [])
                                          refine own_go (fun t k => XS.iloadN X212.here hx rfl (hb hby d1_65) rfl  k) ?_
                                          show own_R p e below _ T212 (mkF m 66 #[.val (.int p1), .val (.int (0 : Int32)), .val (.int (18 : Int32))] [(.int p1)])
                                          obtain ⟨T234, X234, e234, st234⟩ := getS2 X212 hx hZ hown (host := "") (Or.inl (hw _ (List.mem_of_getElem? (i := 15) rfl))) Via.refl e212 S_NAME_START_RANGES (g := (mkF m 66 #[.val (.int p1), .val (.int (0 : Int32)), .val (.int (18 : Int32))] [(.int p1)])) rfl (hb hby d1_66)
                                          refine own_go (st234) ?_
                                          show own_R p e below _ T234 (mkF m 69 #[.val (.int p1), .val (.int (0 : Int32)), .val (.int (18 : Int32))] [(.ref w), (.int p1)])
                                          refine own_go (fun t k => XS.iloadN X234.here hx rfl (hb hby d1_69) rfl  k) ?_
                                          show own_R p e below _ T234 (mkF m 70 #[.val (.int p1), .val (.int (0 : Int32)), .val (.int (18 : Int32))] [(.int (18 : Int32)), (.ref w), (.int p1)])
                                          refine own_go (fun t k => XS.iconst X234.here hx rfl (hb hby d1_70) k) ?_
                                          show own_R p e below _ T234 (mkF m 71 #[.val (.int p1), .val (.int (0 : Int32)), .val (.int (18 : Int32))] [(.int (1 : Int32)), (.int (18 : Int32)), (.ref w), (.int p1)])
                                          refine own_go (fun t k => XS.iadd X234.here hx rfl (hb hby d1_71) rfl k) ?_
                                          show own_R p e below _ T234 (mkF m 72 #[.val (.int p1), .val (.int (0 : Int32)), .val (.int (18 : Int32))] [(.int (19 : Int32)), (.ref w), (.int p1)])
                                          obtain ⟨cl235, Ar235, q235, S235, Nn235, Hh235, G235⟩ := id V_w
                                          have hin235 : ¬ ((19 : Int32) < 0 ∨ cl235.slots.size ≤ ((19 : Int32)).toNatClampNeg) := inb_of S235 ⟨by decide, by decide⟩
                                          have hat235 : cl235.slots[((19 : Int32)).toNatClampNeg]? = some (.int (64975 : Int32)) := Has.at Hh235 hin235 rfl
                                          refine own_go (X234.iaload hx (j := (19 : Int32)) (v := (.int (64975 : Int32))) (by rw [e234]; exact Ar235.1) (State.isArrayOf_alike hZ.alike Ar235.2.1) Ar235.2.2 hin235 hat235 (g := (mkF m 72 #[.val (.int p1), .val (.int (0 : Int32)), .val (.int (18 : Int32))] [(.int (19 : Int32)), (.ref w), (.int p1)])) rfl rfl (hb hby d1_72)) ?_
                                          show own_R p e below _ T234 (mkF m 73 #[.val (.int p1), .val (.int (0 : Int32)), .val (.int (18 : Int32))] [(.int (64975 : Int32)), (.int p1)])
                                          by_cases hc73_236 : (64975 : Int32) < p1
                                          · -- pc 73: yes
                                            refine own_go (fun t k => XS.icmpYes X234.here hx rfl (pc0 := 73) (pc' := 80) rfl (hb hby d1_73) rfl (tlt hc73_236).2.2.1 (by decide) (by decide) k) ?_
                                            show own_R p e below _ T234 (mkF m 80 #[.val (.int p1), .val (.int (0 : Int32)), .val (.int (18 : Int32))] [])
                                            refine own_go (fun t k => XS.iconst X234.here hx rfl (hb hby d1_80) k) ?_
                                            show own_R p e below _ T234 (mkF m 81 #[.val (.int p1), .val (.int (0 : Int32)), .val (.int (18 : Int32))] [(.int (0 : Int32))])
                                            refine own_go (fun t k => XS.istoreN X234.here hx rfl (hb hby d1_81) rfl (l' := #[.val (.int p1), .val (.int (0 : Int32)), .val (.int (18 : Int32))]) rfl k) ?_
                                            show own_R p e below _ T234 (mkF m 82 #[.val (.int p1), .val (.int (0 : Int32)), .val (.int (18 : Int32))] [])
                                            refine own_go (fun t k => XS.iinc X234.here hx rfl (hb hby d1_82) rfl (l' := #[.val (.int p1), .val (.int (0 : Int32)), .val (.int (20 : Int32))]) rfl k) ?_
                                            show own_R p e below _ T234 (mkF m 85 #[.val (.int p1), .val (.int (0 : Int32)), .val (.int (20 : Int32))] [])
                                            refine own_go (fun t k => XS.goto X234.here hx rfl (pc0 := 85) (pc' := 44) rfl (hb hby d1_85) (by decide) (by decide) k) ?_
                                            show own_R p e below _ T234 (mkF m 44 #[.val (.int p1), .val (.int (0 : Int32)), .val (.int (20 : Int32))] [])
                                            refine own_go (fun t k => XS.iloadN X234.here hx rfl (hb hby d1_44) rfl  k) ?_
                                            show own_R p e below _ T234 (mkF m 45 #[.val (.int p1), .val (.int (0 : Int32)), .val (.int (20 : Int32))] [(.int (0 : Int32))])
                                            refine own_go (fun t k => XS.ifNo X234.here hx rfl (hb hby d1_45) rfl ((if0 _ _).trans (teq (by decide : (0 : Int32) = (0 : Int32))).2) k) ?_
                                            show own_R p e below _ T234 (mkF m 48 #[.val (.int p1), .val (.int (0 : Int32)), .val (.int (20 : Int32))] [])
                                            refine own_go (fun t k => XS.iloadN X234.here hx rfl (hb hby d1_48) rfl  k) ?_
                                            show own_R p e below _ T234 (mkF m 49 #[.val (.int p1), .val (.int (0 : Int32)), .val (.int (20 : Int32))] [(.int (20 : Int32))])
                                            obtain ⟨T237, X237, e237, st237⟩ := getS2 X234 hx hZ hown (host := "") (Or.inl (hw _ (List.mem_of_getElem? (i := 15) rfl))) Via.refl e234 S_NAME_START_RANGES (g := (mkF m 49 #[.val (.int p1), .val (.int (0 : Int32)), .val (.int (20 : Int32))] [(.int (20 : Int32))])) rfl (hb hby d1_49)
                                            refine own_go (st237) ?_
                                            show own_R p e below _ T237 (mkF m 52 #[.val (.int p1), .val (.int (0 : Int32)), .val (.int (20 : Int32))] [(.ref w), (.int (20 : Int32))])
                                            obtain ⟨cl238, Ar238, q238, S238, Nn238, Hh238, G238⟩ := id V_w
                                            refine own_go (X237.arraylength hx (by rw [e237]; exact Ar238.1) (State.isArrayOf_alike hZ.alike Ar238.2.1) (g := (mkF m 52 #[.val (.int p1), .val (.int (0 : Int32)), .val (.int (20 : Int32))] [(.ref w), (.int (20 : Int32))])) rfl rfl (hb hby d1_52)) ?_
                                            rw [len_of S238 Nn238]
                                            show own_R p e below _ T237 (mkF m 53 #[.val (.int p1), .val (.int (0 : Int32)), .val (.int (20 : Int32))] [(.int (24 : Int32)), (.int (20 : Int32))])
                                            refine own_go (fun t k => XS.icmpNo X237.here hx rfl (hb hby d1_53) rfl (tlt (by decide : (20 : Int32) < (24 : Int32))).2.1 k) ?_
                                            show own_R p e below _ T237 (mkF m 56 #[.val (.int p1), .val (.int (0 : Int32)), .val (.int (20 : Int32))] [])
                                            refine own_go (fun t k => XS.iloadN X237.here hx rfl (hb hby d1_56) rfl  k) ?_
                                            show own_R p e below _ T237 (mkF m 57 #[.val (.int p1), .val (.int (0 : Int32)), .val (.int (20 : Int32))] [(.int p1)])
                                            obtain ⟨T239, X239, e239, st239⟩ := getS2 X237 hx hZ hown (host := "") (Or.inl (hw _ (List.mem_of_getElem? (i := 15) rfl))) Via.refl e237 S_NAME_START_RANGES (g := (mkF m 57 #[.val (.int p1), .val (.int (0 : Int32)), .val (.int (20 : Int32))] [(.int p1)])) rfl (hb hby d1_57)
                                            refine own_go (st239) ?_
                                            show own_R p e below _ T239 (mkF m 60 #[.val (.int p1), .val (.int (0 : Int32)), .val (.int (20 : Int32))] [(.ref w), (.int p1)])
                                            refine own_go (fun t k => XS.iloadN X239.here hx rfl (hb hby d1_60) rfl  k) ?_
                                            show own_R p e below _ T239 (mkF m 61 #[.val (.int p1), .val (.int (0 : Int32)), .val (.int (20 : Int32))] [(.int (20 : Int32)), (.ref w), (.int p1)])
                                            obtain ⟨cl240, Ar240, q240, S240, Nn240, Hh240, G240⟩ := id V_w
                                            have hin240 : ¬ ((20 : Int32) < 0 ∨ cl240.slots.size ≤ ((20 : Int32)).toNatClampNeg) := inb_of S240 ⟨by decide, by decide⟩
                                            have hat240 : cl240.slots[((20 : Int32)).toNatClampNeg]? = some (.int (65008 : Int32)) := Has.at Hh240 hin240 rfl
                                            refine own_go (X239.iaload hx (j := (20 : Int32)) (v := (.int (65008 : Int32))) (by rw [e239]; exact Ar240.1) (State.isArrayOf_alike hZ.alike Ar240.2.1) Ar240.2.2 hin240 hat240 (g := (mkF m 61 #[.val (.int p1), .val (.int (0 : Int32)), .val (.int (20 : Int32))] [(.int (20 : Int32)), (.ref w), (.int p1)])) rfl rfl (hb hby d1_61)) ?_
                                            show own_R p e below _ T239 (mkF m 62 #[.val (.int p1), .val (.int (0 : Int32)), .val (.int (20 : Int32))] [(.int (65008 : Int32)), (.int p1)])
                                            by_cases hc62_241 : p1 < (65008 : Int32)
                                            · -- pc 62: yes
                                              refine own_go (fun t k => XS.icmpYes X239.here hx rfl (pc0 := 62) (pc' := 88) rfl (hb hby d1_62) rfl (tlt hc62_241).1 (by decide) (by decide) k) ?_
                                              show own_R p e below _ T239 (mkF m 88 #[.val (.int p1), .val (.int (0 : Int32)), .val (.int (20 : Int32))] [])
                                              refine own_go (fun t k => XS.iloadN X239.here hx rfl (hb hby d1_88) rfl  k) ?_
                                              show own_R p e below _ T239 (mkF m 89 #[.val (.int p1), .val (.int (0 : Int32)), .val (.int (20 : Int32))] [(.int (0 : Int32))])
                                              refine own_retN X239 hx Bd.returns (by simp) (BodyLoose.notSynchronized Bd) (hb hby d1_89) (by decide) (by decide) ?_
                                              have z242 : 192 ≤ p1.toInt := own_nlti hc62_61 rfl rfl
                                              have z243 : 214 < p1.toInt := own_lti hc73_65 rfl rfl
                                              have z244 : 216 ≤ p1.toInt := own_nlti hc62_70 rfl rfl
                                              have z245 : 246 < p1.toInt := own_lti hc73_76 rfl rfl
                                              have z246 : 248 ≤ p1.toInt := own_nlti hc62_81 rfl rfl
                                              have z247 : 767 < p1.toInt := own_lti hc73_89 rfl rfl
                                              have z248 : 880 ≤ p1.toInt := own_nlti hc62_94 rfl rfl
                                              have z249 : 893 < p1.toInt := own_lti hc73_104 rfl rfl
                                              have z250 : 895 ≤ p1.toInt := own_nlti hc62_109 rfl rfl
                                              have z251 : 8191 < p1.toInt := own_lti hc73_121 rfl rfl
                                              have z252 : 8204 ≤ p1.toInt := own_nlti hc62_126 rfl rfl
                                              have z253 : 8205 < p1.toInt := own_lti hc73_140 rfl rfl
                                              have z254 : 8304 ≤ p1.toInt := own_nlti hc62_145 rfl rfl
                                              have z255 : 8591 < p1.toInt := own_lti hc73_161 rfl rfl
                                              have z256 : 11264 ≤ p1.toInt := own_nlti hc62_166 rfl rfl
                                              have z257 : 12271 < p1.toInt := own_lti hc73_184 rfl rfl
                                              have z258 : 12289 ≤ p1.toInt := own_nlti hc62_189 rfl rfl
                                              have z259 : 55295 < p1.toInt := own_lti hc73_209 rfl rfl
                                              have z260 : 63744 ≤ p1.toInt := own_nlti hc62_214 rfl rfl
                                              have z261 : 64975 < p1.toInt := own_lti hc73_236 rfl rfl
                                              have z262 : p1.toInt < 65008 := own_lti hc62_241 rfl rfl
                                              have hn : ¬ own_l p1.toInt := by
                                                intro q
                                                rcases q with q | q | q | q | q | q | q | q | q | q | q | q | q | q | q | q
                                                · exact hA (Or.inl (q))
                                                · exact hA (Or.inr (Or.inl (q)))
                                                · exact hA (Or.inr (Or.inr (Or.inl (q))))
                                                · exact hA (Or.inr (Or.inr (Or.inr (q))))
                                                all_goals (clear hA; omega)
                                              exact ⟨by rw [if_neg hn]; rfl, N1, e239⟩
                                            · -- pc 62: no
                                              refine own_go (fun t k => XS.icmpNo X239.here hx rfl (hb hby d1_62) rfl (flt hc62_241).1 k) ?_
                                              show own_R p e below _ T239 (mkF m 65 #[.val (.int p1), .val (.int (0 : Int32)), .val (.int (20 : Int32))] [])
                                              refine own_go (fun t k => XS.iloadN X239.here hx rfl (hb hby d1_65) rfl  k) ?_
                                              show own_R p e below _ T239 (mkF m 66 #[.val (.int p1), .val (.int (0 : Int32)), .val (.int (20 : Int32))] [(.int p1)])
                                              obtain ⟨T263, X263, e263, st263⟩ := getS2 X239 hx hZ hown (host := "") (Or.inl (hw _ (List.mem_of_getElem? (i := 15) rfl))) Via.refl e239 S_NAME_START_RANGES (g := (mkF m 66 #[.val (.int p1), .val (.int (0 : Int32)), .val (.int (20 : Int32))] [(.int p1)])) rfl (hb hby d1_66)
                                              refine own_go (st263) ?_
                                              show own_R p e below _ T263 (mkF m 69 #[.val (.int p1), .val (.int (0 : Int32)), .val (.int (20 : Int32))] [(.ref w), (.int p1)])
                                              refine own_go (fun t k => XS.iloadN X263.here hx rfl (hb hby d1_69) rfl  k) ?_
                                              show own_R p e below _ T263 (mkF m 70 #[.val (.int p1), .val (.int (0 : Int32)), .val (.int (20 : Int32))] [(.int (20 : Int32)), (.ref w), (.int p1)])
                                              refine own_go (fun t k => XS.iconst X263.here hx rfl (hb hby d1_70) k) ?_
                                              show own_R p e below _ T263 (mkF m 71 #[.val (.int p1), .val (.int (0 : Int32)), .val (.int (20 : Int32))] [(.int (1 : Int32)), (.int (20 : Int32)), (.ref w), (.int p1)])
                                              refine own_go (fun t k => XS.iadd X263.here hx rfl (hb hby d1_71) rfl k) ?_
                                              show own_R p e below _ T263 (mkF m 72 #[.val (.int p1), .val (.int (0 : Int32)), .val (.int (20 : Int32))] [(.int (21 : Int32)), (.ref w), (.int p1)])
                                              obtain ⟨cl264, Ar264, q264, S264, Nn264, Hh264, G264⟩ := id V_w
                                              have hin264 : ¬ ((21 : Int32) < 0 ∨ cl264.slots.size ≤ ((21 : Int32)).toNatClampNeg) := inb_of S264 ⟨by decide, by decide⟩
                                              have hat264 : cl264.slots[((21 : Int32)).toNatClampNeg]? = some (.int (65533 : Int32)) := Has.at Hh264 hin264 rfl
                                              refine own_go (X263.iaload hx (j := (21 : Int32)) (v := (.int (65533 : Int32))) (by rw [e263]; exact Ar264.1) (State.isArrayOf_alike hZ.alike Ar264.2.1) Ar264.2.2 hin264 hat264 (g := (mkF m 72 #[.val (.int p1), .val (.int (0 : Int32)), .val (.int (20 : Int32))] [(.int (21 : Int32)), (.ref w), (.int p1)])) rfl rfl (hb hby d1_72)) ?_
                                              show own_R p e below _ T263 (mkF m 73 #[.val (.int p1), .val (.int (0 : Int32)), .val (.int (20 : Int32))] [(.int (65533 : Int32)), (.int p1)])
                                              by_cases hc73_265 : (65533 : Int32) < p1
                                              · -- pc 73: yes
                                                refine own_go (fun t k => XS.icmpYes X263.here hx rfl (pc0 := 73) (pc' := 80) rfl (hb hby d1_73) rfl (tlt hc73_265).2.2.1 (by decide) (by decide) k) ?_
                                                show own_R p e below _ T263 (mkF m 80 #[.val (.int p1), .val (.int (0 : Int32)), .val (.int (20 : Int32))] [])
                                                refine own_go (fun t k => XS.iconst X263.here hx rfl (hb hby d1_80) k) ?_
                                                show own_R p e below _ T263 (mkF m 81 #[.val (.int p1), .val (.int (0 : Int32)), .val (.int (20 : Int32))] [(.int (0 : Int32))])
                                                refine own_go (fun t k => XS.istoreN X263.here hx rfl (hb hby d1_81) rfl (l' := #[.val (.int p1), .val (.int (0 : Int32)), .val (.int (20 : Int32))]) rfl k) ?_
                                                show own_R p e below _ T263 (mkF m 82 #[.val (.int p1), .val (.int (0 : Int32)), .val (.int (20 : Int32))] [])
                                                refine own_go (fun t k => XS.iinc X263.here hx rfl (hb hby d1_82) rfl (l' := #[.val (.int p1), .val (.int (0 : Int32)), .val (.int (22 : Int32))]) rfl k) ?_
                                                show own_R p e below _ T263 (mkF m 85 #[.val (.int p1), .val (.int (0 : Int32)), .val (.int (22 : Int32))] [])
                                                refine own_go (fun t k => XS.goto X263.here hx rfl (pc0 := 85) (pc' := 44) rfl (hb hby d1_85) (by decide) (by decide) k) ?_
                                                show own_R p e below _ T263 (mkF m 44 #[.val (.int p1), .val (.int (0 : Int32)), .val (.int (22 : Int32))] [])
                                                refine own_go (fun t k => XS.iloadN X263.here hx rfl (hb hby d1_44) rfl  k) ?_
                                                show own_R p e below _ T263 (mkF m 45 #[.val (.int p1), .val (.int (0 : Int32)), .val (.int (22 : Int32))] [(.int (0 : Int32))])
                                                refine own_go (fun t k => XS.ifNo X263.here hx rfl (hb hby d1_45) rfl ((if0 _ _).trans (teq (by decide : (0 : Int32) = (0 : Int32))).2) k) ?_
                                                show own_R p e below _ T263 (mkF m 48 #[.val (.int p1), .val (.int (0 : Int32)), .val (.int (22 : Int32))] [])
                                                refine own_go (fun t k => XS.iloadN X263.here hx rfl (hb hby d1_48) rfl  k) ?_
                                                show own_R p e below _ T263 (mkF m 49 #[.val (.int p1), .val (.int (0 : Int32)), .val (.int (22 : Int32))] [(.int (22 : Int32))])
                                                obtain ⟨T266, X266, e266, st266⟩ := getS2 X263 hx hZ hown (host := "") (Or.inl (hw _ (List.mem_of_getElem? (i := 15) rfl))) Via.refl e263 S_NAME_START_RANGES (g := (mkF m 49 #[.val (.int p1), .val (.int (0 : Int32)), .val (.int (22 : Int32))] [(.int (22 : Int32))])) rfl (hb hby d1_49)
                                                refine own_go (st266) ?_
                                                show own_R p e below _ T266 (mkF m 52 #[.val (.int p1), .val (.int (0 : Int32)), .val (.int (22 : Int32))] [(.ref w), (.int (22 : Int32))])
                                                obtain ⟨cl267, Ar267, q267, S267, Nn267, Hh267, G267⟩ := id V_w
                                                refine own_go (X266.arraylength hx (by rw [e266]; exact Ar267.1) (State.isArrayOf_alike hZ.alike Ar267.2.1) (g := (mkF m 52 #[.val (.int p1), .val (.int (0 : Int32)), .val (.int (22 : Int32))] [(.ref w), (.int (22 : Int32))])) rfl rfl (hb hby d1_52)) ?_
                                                rw [len_of S267 Nn267]
                                                show own_R p e below _ T266 (mkF m 53 #[.val (.int p1), .val (.int (0 : Int32)), .val (.int (22 : Int32))] [(.int (24 : Int32)), (.int (22 : Int32))])
                                                refine own_go (fun t k => XS.icmpNo X266.here hx rfl (hb hby d1_53) rfl (tlt (by decide : (22 : Int32) < (24 : Int32))).2.1 k) ?_
                                                show own_R p e below _ T266 (mkF m 56 #[.val (.int p1), .val (.int (0 : Int32)), .val (.int (22 : Int32))] [])
                                                refine own_go (fun t k => XS.iloadN X266.here hx rfl (hb hby d1_56) rfl  k) ?_
                                                show own_R p e below _ T266 (mkF m 57 #[.val (.int p1), .val (.int (0 : Int32)), .val (.int (22 : Int32))] [(.int p1)])
                                                obtain ⟨T268, X268, e268, st268⟩ := getS2 X266 hx hZ hown (host := "") (Or.inl (hw _ (List.mem_of_getElem? (i := 15) rfl))) Via.refl e266 S_NAME_START_RANGES (g := (mkF m 57 #[.val (.int p1), .val (.int (0 : Int32)), .val (.int (22 : Int32))] [(.int p1)])) rfl (hb hby d1_57)
                                                refine own_go (st268) ?_
                                                show own_R p e below _ T268 (mkF m 60 #[.val (.int p1), .val (.int (0 : Int32)), .val (.int (22 : Int32))] [(.ref w), (.int p1)])
                                                refine own_go (fun t k => XS.iloadN X268.here hx rfl (hb hby d1_60) rfl  k) ?_
                                                show own_R p e below _ T268 (mkF m 61 #[.val (.int p1), .val (.int (0 : Int32)), .val (.int (22 : Int32))] [(.int (22 : Int32)), (.ref w), (.int p1)])
                                                obtain ⟨cl269, Ar269, q269, S269, Nn269, Hh269, G269⟩ := id V_w
                                                have hin269 : ¬ ((22 : Int32) < 0 ∨ cl269.slots.size ≤ ((22 : Int32)).toNatClampNeg) := inb_of S269 ⟨by decide, by decide⟩
                                                have hat269 : cl269.slots[((22 : Int32)).toNatClampNeg]? = some (.int (65536 : Int32)) := Has.at Hh269 hin269 rfl
                                                refine own_go (X268.iaload hx (j := (22 : Int32)) (v := (.int (65536 : Int32))) (by rw [e268]; exact Ar269.1) (State.isArrayOf_alike hZ.alike Ar269.2.1) Ar269.2.2 hin269 hat269 (g := (mkF m 61 #[.val (.int p1), .val (.int (0 : Int32)), .val (.int (22 : Int32))] [(.int (22 : Int32)), (.ref w), (.int p1)])) rfl rfl (hb hby d1_61)) ?_
                                                show own_R p e below _ T268 (mkF m 62 #[.val (.int p1), .val (.int (0 : Int32)), .val (.int (22 : Int32))] [(.int (65536 : Int32)), (.int p1)])
                                                by_cases hc62_270 : p1 < (65536 : Int32)
                                                · -- pc 62: yes
                                                  refine own_go (fun t k => XS.icmpYes X268.here hx rfl (pc0 := 62) (pc' := 88) rfl (hb hby d1_62) rfl (tlt hc62_270).1 (by decide) (by decide) k) ?_
                                                  show own_R p e below _ T268 (mkF m 88 #[.val (.int p1), .val (.int (0 : Int32)), .val (.int (22 : Int32))] [])
                                                  refine own_go (fun t k => XS.iloadN X268.here hx rfl (hb hby d1_88) rfl  k) ?_
                                                  show own_R p e below _ T268 (mkF m 89 #[.val (.int p1), .val (.int (0 : Int32)), .val (.int (22 : Int32))] [(.int (0 : Int32))])
                                                  refine own_retN X268 hx Bd.returns (by simp) (BodyLoose.notSynchronized Bd) (hb hby d1_89) (by decide) (by decide) ?_
                                                  have z271 : 192 ≤ p1.toInt := own_nlti hc62_61 rfl rfl
                                                  have z272 : 214 < p1.toInt := own_lti hc73_65 rfl rfl
                                                  have z273 : 216 ≤ p1.toInt := own_nlti hc62_70 rfl rfl
                                                  have z274 : 246 < p1.toInt := own_lti hc73_76 rfl rfl
                                                  have z275 : 248 ≤ p1.toInt := own_nlti hc62_81 rfl rfl
                                                  have z276 : 767 < p1.toInt := own_lti hc73_89 rfl rfl
                                                  have z277 : 880 ≤ p1.toInt := own_nlti hc62_94 rfl rfl
                                                  have z278 : 893 < p1.toInt := own_lti hc73_104 rfl rfl
                                                  have z279 : 895 ≤ p1.toInt := own_nlti hc62_109 rfl rfl
                                                  have z280 : 8191 < p1.toInt := own_lti hc73_121 rfl rfl
                                                  have z281 : 8204 ≤ p1.toInt := own_nlti hc62_126 rfl rfl
                                                  have z282 : 8205 < p1.toInt := own_lti hc73_140 rfl rfl
                                                  have z283 : 8304 ≤ p1.toInt := own_nlti hc62_145 rfl rfl
                                                  have z284 : 8591 < p1.toInt := own_lti hc73_161 rfl rfl
                                                  have z285 : 11264 ≤ p1.toInt := own_nlti hc62_166 rfl rfl
                                                  have z286 : 12271 < p1.toInt := own_lti hc73_184 rfl rfl
                                                  have z287 : 12289 ≤ p1.toInt := own_nlti hc62_189 rfl rfl
                                                  have z288 : 55295 < p1.toInt := own_lti hc73_209 rfl rfl
                                                  have z289 : 63744 ≤ p1.toInt := own_nlti hc62_214 rfl rfl
                                                  have z290 : 64975 < p1.toInt := own_lti hc73_236 rfl rfl
                                                  have z291 : 65008 ≤ p1.toInt := own_nlti hc62_241 rfl rfl
                                                  have z292 : 65533 < p1.toInt := own_lti hc73_265 rfl rfl
                                                  have z293 : p1.toInt < 65536 := own_lti hc62_270 rfl rfl
                                                  have hn : ¬ own_l p1.toInt := by
                                                    intro q
                                                    rcases q with q | q | q | q | q | q | q | q | q | q | q | q | q | q | q | q
                                                    · exact hA (Or.inl (q))
                                                    · exact hA (Or.inr (Or.inl (q)))
                                                    · exact hA (Or.inr (Or.inr (Or.inl (q))))
                                                    · exact hA (Or.inr (Or.inr (Or.inr (q))))
                                                    all_goals (clear hA; omega)
                                                  exact ⟨by rw [if_neg hn]; rfl, N1, e268⟩
                                                · -- pc 62: no
                                                  refine own_go (fun t k => XS.icmpNo X268.here hx rfl (hb hby d1_62) rfl (flt hc62_270).1 k) ?_
                                                  show own_R p e below _ T268 (mkF m 65 #[.val (.int p1), .val (.int (0 : Int32)), .val (.int (22 : Int32))] [])
                                                  refine own_go (fun t k => XS.iloadN X268.here hx rfl (hb hby d1_65) rfl  k) ?_
                                                  show own_R p e below _ T268 (mkF m 66 #[.val (.int p1), .val (.int (0 : Int32)), .val (.int (22 : Int32))] [(.int p1)])
                                                  obtain ⟨T294, X294, e294, st294⟩ := getS2 X268 hx hZ hown (host := "") (Or.inl (hw _ (List.mem_of_getElem? (i := 15) rfl))) Via.refl e268 S_NAME_START_RANGES (g := (mkF m 66 #[.val (.int p1), .val (.int (0 : Int32)), .val (.int (22 : Int32))] [(.int p1)])) rfl (hb hby d1_66)
                                                  refine own_go (st294) ?_
                                                  show own_R p e below _ T294 (mkF m 69 #[.val (.int p1), .val (.int (0 : Int32)), .val (.int (22 : Int32))] [(.ref w), (.int p1)])
                                                  refine own_go (fun t k => XS.iloadN X294.here hx rfl (hb hby d1_69) rfl  k) ?_
                                                  show own_R p e below _ T294 (mkF m 70 #[.val (.int p1), .val (.int (0 : Int32)), .val (.int (22 : Int32))] [(.int (22 : Int32)), (.ref w), (.int p1)])
                                                  refine own_go (fun t k => XS.iconst X294.here hx rfl (hb hby d1_70) k) ?_
                                                  show own_R p e below _ T294 (mkF m 71 #[.val (.int p1), .val (.int (0 : Int32)), .val (.int (22 : Int32))] [(.int (1 : Int32)), (.int (22 : Int32)), (.ref w), (.int p1)])
                                                  refine own_go (fun t k => XS.iadd X294.here hx rfl (hb hby d1_71) rfl k) ?_
                                                  show own_R p e below _ T294 (mkF m 72 #[.val (.int p1), .val (.int (0 : Int32)), .val (.int (22 : Int32))] [(.int (23 : Int32)), (.ref w), (.int p1)])
                                                  obtain ⟨cl295, Ar295, q295, S295, Nn295, Hh295, G295⟩ := id V_w
                                                  have hin295 : ¬ ((23 : Int32) < 0 ∨ cl295.slots.size ≤ ((23 : Int32)).toNatClampNeg) := inb_of S295 ⟨by decide, by decide⟩
                                                  have hat295 : cl295.slots[((23 : Int32)).toNatClampNeg]? = some (.int (983039 : Int32)) := Has.at Hh295 hin295 rfl
                                                  refine own_go (X294.iaload hx (j := (23 : Int32)) (v := (.int (983039 : Int32))) (by rw [e294]; exact Ar295.1) (State.isArrayOf_alike hZ.alike Ar295.2.1) Ar295.2.2 hin295 hat295 (g := (mkF m 72 #[.val (.int p1), .val (.int (0 : Int32)), .val (.int (22 : Int32))] [(.int (23 : Int32)), (.ref w), (.int p1)])) rfl rfl (hb hby d1_72)) ?_
                                                  show own_R p e below _ T294 (mkF m 73 #[.val (.int p1), .val (.int (0 : Int32)), .val (.int (22 : Int32))] [(.int (983039 : Int32)), (.int p1)])
                                                  by_cases hc73_296 : (983039 : Int32) < p1
                                                  · -- pc 73: yes
                                                    refine own_go (fun t k => XS.icmpYes X294.here hx rfl (pc0 := 73) (pc' := 80) rfl (hb hby d1_73) rfl (tlt hc73_296).2.2.1 (by decide) (by decide) k) ?_
                                                    show own_R p e below _ T294 (mkF m 80 #[.val (.int p1), .val (.int (0 : Int32)), .val (.int (22 : Int32))] [])
                                                    refine own_go (fun t k => XS.iconst X294.here hx rfl (hb hby d1_80) k) ?_
                                                    show own_R p e below _ T294 (mkF m 81 #[.val (.int p1), .val (.int (0 : Int32)), .val (.int (22 : Int32))] [(.int (0 : Int32))])
                                                    refine own_go (fun t k => XS.istoreN X294.here hx rfl (hb hby d1_81) rfl (l' := #[.val (.int p1), .val (.int (0 : Int32)), .val (.int (22 : Int32))]) rfl k) ?_
                                                    show own_R p e below _ T294 (mkF m 82 #[.val (.int p1), .val (.int (0 : Int32)), .val (.int (22 : Int32))] [])
                                                    refine own_go (fun t k => XS.iinc X294.here hx rfl (hb hby d1_82) rfl (l' := #[.val (.int p1), .val (.int (0 : Int32)), .val (.int (24 : Int32))]) rfl k) ?_
                                                    show own_R p e below _ T294 (mkF m 85 #[.val (.int p1), .val (.int (0 : Int32)), .val (.int (24 : Int32))] [])
                                                    refine own_go (fun t k => XS.goto X294.here hx rfl (pc0 := 85) (pc' := 44) rfl (hb hby d1_85) (by decide) (by decide) k) ?_
                                                    show own_R p e below _ T294 (mkF m 44 #[.val (.int p1), .val (.int (0 : Int32)), .val (.int (24 : Int32))] [])
                                                    refine own_go (fun t k => XS.iloadN X294.here hx rfl (hb hby d1_44) rfl  k) ?_
                                                    show own_R p e below _ T294 (mkF m 45 #[.val (.int p1), .val (.int (0 : Int32)), .val (.int (24 : Int32))] [(.int (0 : Int32))])
                                                    refine own_go (fun t k => XS.ifNo X294.here hx rfl (hb hby d1_45) rfl ((if0 _ _).trans (teq (by decide : (0 : Int32) = (0 : Int32))).2) k) ?_
                                                    show own_R p e below _ T294 (mkF m 48 #[.val (.int p1), .val (.int (0 : Int32)), .val (.int (24 : Int32))] [])
                                                    refine own_go (fun t k => XS.iloadN X294.here hx rfl (hb hby d1_48) rfl  k) ?_
                                                    show own_R p e below _ T294 (mkF m 49 #[.val (.int p1), .val (.int (0 : Int32)), .val (.int (24 : Int32))] [(.int (24 : Int32))])
                                                    obtain ⟨T297, X297, e297, st297⟩ := getS2 X294 hx hZ hown (host := "") (Or.inl (hw _ (List.mem_of_getElem? (i := 15) rfl))) Via.refl e294 S_NAME_START_RANGES (g := (mkF m 49 #[.val (.int p1), .val (.int (0 : Int32)), .val (.int (24 : Int32))] [(.int (24 : Int32))])) rfl (hb hby d1_49)
                                                    refine own_go (st297) ?_
                                                    show own_R p e below _ T297 (mkF m 52 #[.val (.int p1), .val (.int (0 : Int32)), .val (.int (24 : Int32))] [(.ref w), (.int (24 : Int32))])
                                                    obtain ⟨cl298, Ar298, q298, S298, Nn298, Hh298, G298⟩ := id V_w
                                                    refine own_go (X297.arraylength hx (by rw [e297]; exact Ar298.1) (State.isArrayOf_alike hZ.alike Ar298.2.1) (g := (mkF m 52 #[.val (.int p1), .val (.int (0 : Int32)), .val (.int (24 : Int32))] [(.ref w), (.int (24 : Int32))])) rfl rfl (hb hby d1_52)) ?_
                                                    rw [len_of S298 Nn298]
                                                    show own_R p e below _ T297 (mkF m 53 #[.val (.int p1), .val (.int (0 : Int32)), .val (.int (24 : Int32))] [(.int (24 : Int32)), (.int (24 : Int32))])
                                                    refine own_go (fun t k => XS.icmpYes X297.here hx rfl (pc0 := 53) (pc' := 88) rfl (hb hby d1_53) rfl (flt (by decide : ¬ ((24 : Int32) < (24 : Int32)))).2.1 (by decide) (by decide) k) ?_
                                                    show own_R p e below _ T297 (mkF m 88 #[.val (.int p1), .val (.int (0 : Int32)), .val (.int (24 : Int32))] [])
                                                    refine own_go (fun t k => XS.iloadN X297.here hx rfl (hb hby d1_88) rfl  k) ?_
                                                    show own_R p e below _ T297 (mkF m 89 #[.val (.int p1), .val (.int (0 : Int32)), .val (.int (24 : Int32))] [(.int (0 : Int32))])
                                                    refine own_retN X297 hx Bd.returns (by simp) (BodyLoose.notSynchronized Bd) (hb hby d1_89) (by decide) (by decide) ?_
                                                    have z299 : 192 ≤ p1.toInt := own_nlti hc62_61 rfl rfl
                                                    have z300 : 214 < p1.toInt := own_lti hc73_65 rfl rfl
                                                    have z301 : 216 ≤ p1.toInt := own_nlti hc62_70 rfl rfl
                                                    have z302 : 246 < p1.toInt := own_lti hc73_76 rfl rfl
                                                    have z303 : 248 ≤ p1.toInt := own_nlti hc62_81 rfl rfl
                                                    have z304 : 767 < p1.toInt := own_lti hc73_89 rfl rfl
                                                    have z305 : 880 ≤ p1.toInt := own_nlti hc62_94 rfl rfl
                                                    have z306 : 893 < p1.toInt := own_lti hc73_104 rfl rfl
                                                    have z307 : 895 ≤ p1.toInt := own_nlti hc62_109 rfl rfl
                                                    have z308 : 8191 < p1.toInt := own_lti hc73_121 rfl rfl
                                                    have z309 : 8204 ≤ p1.toInt := own_nlti hc62_126 rfl rfl
                                                    have z310 : 8205 < p1.toInt := own_lti hc73_140 rfl rfl
                                                    have z311 : 8304 ≤ p1.toInt := own_nlti hc62_145 rfl rfl
                                                    have z312 : 8591 < p1.toInt := own_lti hc73_161 rfl rfl
                                                    have z313 : 11264 ≤ p1.toInt := own_nlti hc62_166 rfl rfl
                                                    have z314 : 12271 < p1.toInt := own_lti hc73_184 rfl rfl
                                                    have z315 : 12289 ≤ p1.toInt := own_nlti hc62_189 rfl rfl
                                                    have z316 : 55295 < p1.toInt := own_lti hc73_209 rfl rfl
                                                    have z317 : 63744 ≤ p1.toInt := own_nlti hc62_214 rfl rfl
                                                    have z318 : 64975 < p1.toInt := own_lti hc73_236 rfl rfl
                                                    have z319 : 65008 ≤ p1.toInt := own_nlti hc62_241 rfl rfl
                                                    have z320 : 65533 < p1.toInt := own_lti hc73_265 rfl rfl
                                                    have z321 : 65536 ≤ p1.toInt := own_nlti hc62_270 rfl rfl
                                                    have z322 : 983039 < p1.toInt := own_lti hc73_296 rfl rfl
                                                    have hn : ¬ own_l p1.toInt := by
                                                      intro q
                                                      rcases q with q | q | q | q | q | q | q | q | q | q | q | q | q | q | q | q
                                                      · exact hA (Or.inl (q))
                                                      · exact hA (Or.inr (Or.inl (q)))
                                                      · exact hA (Or.inr (Or.inr (Or.inl (q))))
                                                      · exact hA (Or.inr (Or.inr (Or.inr (q))))
                                                      all_goals (clear hA; omega)
                                                    exact ⟨by rw [if_neg hn]; rfl, N1, e297⟩
                                                  · -- pc 73: no
                                                    refine own_go (fun t k => XS.icmpNo X294.here hx rfl (hb hby d1_73) rfl (flt hc73_296).2.2.1 k) ?_
                                                    show own_R p e below _ T294 (mkF m 76 #[.val (.int p1), .val (.int (0 : Int32)), .val (.int (22 : Int32))] [])
                                                    refine own_go (fun t k => XS.iconst X294.here hx rfl (hb hby d1_76) k) ?_
                                                    show own_R p e below _ T294 (mkF m 77 #[.val (.int p1), .val (.int (0 : Int32)), .val (.int (22 : Int32))] [(.int (1 : Int32))])
                                                    refine own_go (fun t k => XS.goto X294.here hx rfl (pc0 := 77) (pc' := 81) rfl (hb hby d1_77) (by decide) (by decide) k) ?_
                                                    show own_R p e below _ T294 (mkF m 81 #[.val (.int p1), .val (.int (0 : Int32)), .val (.int (22 : Int32))] [(.int (1 : Int32))])
                                                    refine own_go (fun t k => XS.istoreN X294.here hx rfl (hb hby d1_81) rfl (l' := #[.val (.int p1), .val (.int (1 : Int32)), .val (.int (22 : Int32))]) rfl k) ?_
                                                    show own_R p e below _ T294 (mkF m 82 #[.val (.int p1), .val (.int (1 : Int32)), .val (.int (22 : Int32))] [])
                                                    refine own_go (fun t k => XS.iinc X294.here hx rfl (hb hby d1_82) rfl (l' := #[.val (.int p1), .val (.int (1 : Int32)), .val (.int (24 : Int32))]) rfl k) ?_
                                                    show own_R p e below _ T294 (mkF m 85 #[.val (.int p1), .val (.int (1 : Int32)), .val (.int (24 : Int32))] [])
                                                    refine own_go (fun t k => XS.goto X294.here hx rfl (pc0 := 85) (pc' := 44) rfl (hb hby d1_85) (by decide) (by decide) k) ?_
                                                    show own_R p e below _ T294 (mkF m 44 #[.val (.int p1), .val (.int (1 : Int32)), .val (.int (24 : Int32))] [])
                                                    refine own_go (fun t k => XS.iloadN X294.here hx rfl (hb hby d1_44) rfl  k) ?_
                                                    show own_R p e below _ T294 (mkF m 45 #[.val (.int p1), .val (.int (1 : Int32)), .val (.int (24 : Int32))] [(.int (1 : Int32))])
                                                    refine own_go (fun t k => XS.ifYes X294.here hx rfl (pc0 := 45) (pc' := 88) rfl (hb hby d1_45) rfl ((if0 _ _).trans (feq (by decide : ¬ ((1 : Int32) = (0 : Int32)))).2) (by decide) (by decide) k) ?_
                                                    show own_R p e below _ T294 (mkF m 88 #[.val (.int p1), .val (.int (1 : Int32)), .val (.int (24 : Int32))] [])
                                                    refine own_go (fun t k => XS.iloadN X294.here hx rfl (hb hby d1_88) rfl  k) ?_
                                                    show own_R p e below _ T294 (mkF m 89 #[.val (.int p1), .val (.int (1 : Int32)), .val (.int (24 : Int32))] [(.int (1 : Int32))])
                                                    refine own_retN X294 hx Bd.returns (by simp) (BodyLoose.notSynchronized Bd) (hb hby d1_89) (by decide) (by decide) ?_
                                                    have z323 : 192 ≤ p1.toInt := own_nlti hc62_61 rfl rfl
                                                    have z324 : 214 < p1.toInt := own_lti hc73_65 rfl rfl
                                                    have z325 : 216 ≤ p1.toInt := own_nlti hc62_70 rfl rfl
                                                    have z326 : 246 < p1.toInt := own_lti hc73_76 rfl rfl
                                                    have z327 : 248 ≤ p1.toInt := own_nlti hc62_81 rfl rfl
                                                    have z328 : 767 < p1.toInt := own_lti hc73_89 rfl rfl
                                                    have z329 : 880 ≤ p1.toInt := own_nlti hc62_94 rfl rfl
                                                    have z330 : 893 < p1.toInt := own_lti hc73_104 rfl rfl
                                                    have z331 : 895 ≤ p1.toInt := own_nlti hc62_109 rfl rfl
                                                    have z332 : 8191 < p1.toInt := own_lti hc73_121 rfl rfl
                                                    have z333 : 8204 ≤ p1.toInt := own_nlti hc62_126 rfl rfl
                                                    have z334 : 8205 < p1.toInt := own_lti hc73_140 rfl rfl
                                                    have z335 : 8304 ≤ p1.toInt := own_nlti hc62_145 rfl rfl
                                                    have z336 : 8591 < p1.toInt := own_lti hc73_161 rfl rfl
                                                    have z337 : 11264 ≤ p1.toInt := own_nlti hc62_166 rfl rfl
                                                    have z338 : 12271 < p1.toInt := own_lti hc73_184 rfl rfl
                                                    have z339 : 12289 ≤ p1.toInt := own_nlti hc62_189 rfl rfl
                                                    have z340 : 55295 < p1.toInt := own_lti hc73_209 rfl rfl
                                                    have z341 : 63744 ≤ p1.toInt := own_nlti hc62_214 rfl rfl
                                                    have z342 : 64975 < p1.toInt := own_lti hc73_236 rfl rfl
                                                    have z343 : 65008 ≤ p1.toInt := own_nlti hc62_241 rfl rfl
                                                    have z344 : 65533 < p1.toInt := own_lti hc73_265 rfl rfl
                                                    have z345 : 65536 ≤ p1.toInt := own_nlti hc62_270 rfl rfl
                                                    have z346 : p1.toInt ≤ 983039 := own_nlti hc73_296 rfl rfl
                                                    exact ⟨by rw [if_pos (Or.inr (Or.inr (Or.inr (Or.inr (Or.inr (Or.inr (Or.inr (Or.inr (Or.inr (Or.inr (Or.inr (Or.inr (Or.inr (Or.inr (Or.inr (⟨by omega, by omega⟩))))))))))))))))]; rfl, N1, e294⟩
                                              · -- pc 73: no
                                                refine own_go (fun t k => XS.icmpNo X263.here hx rfl (hb hby d1_73) rfl (flt hc73_265).2.2.1 k) ?_
                                                show own_R p e below _ T263 (mkF m 76 #[.val (.int p1), .val (.int (0 : Int32)), .val (.int (20 : Int32))] [])
                                                refine own_go (fun t k => XS.iconst X263.here hx rfl (hb hby d1_76) k) ?_
                                                show own_R p e below _ T263 (mkF m 77 #[.val (.int p1), .val (.int (0 : Int32)), .val (.int (20 : Int32))] [(.int (1 : Int32))])
                                                refine own_go (fun t k => XS.goto X263.here hx rfl (pc0 := 77) (pc' := 81) rfl (hb hby d1_77) (by decide) (by decide) k) ?_
                                                show own_R p e below _ T263 (mkF m 81 #[.val (.int p1), .val (.int (0 : Int32)), .val (.int (20 : Int32))] [(.int (1 : Int32))])
                                                refine own_go (fun t k => XS.istoreN X263.here hx rfl (hb hby d1_81) rfl (l' := #[.val (.int p1), .val (.int (1 : Int32)), .val (.int (20 : Int32))]) rfl k) ?_
                                                show own_R p e below _ T263 (mkF m 82 #[.val (.int p1), .val (.int (1 : Int32)), .val (.int (20 : Int32))] [])
                                                refine own_go (fun t k => XS.iinc X263.here hx rfl (hb hby d1_82) rfl (l' := #[.val (.int p1), .val (.int (1 : Int32)), .val (.int (22 : Int32))]) rfl k) ?_
                                                show own_R p e below _ T263 (mkF m 85 #[.val (.int p1), .val (.int (1 : Int32)), .val (.int (22 : Int32))] [])
                                                refine own_go (fun t k => XS.goto X263.here hx rfl (pc0 := 85) (pc' := 44) rfl (hb hby d1_85) (by decide) (by decide) k) ?_
                                                show own_R p e below _ T263 (mkF m 44 #[.val (.int p1), .val (.int (1 : Int32)), .val (.int (22 : Int32))] [])
                                                refine own_go (fun t k => XS.iloadN X263.here hx rfl (hb hby d1_44) rfl  k) ?_
                                                show own_R p e below _ T263 (mkF m 45 #[.val (.int p1), .val (.int (1 : Int32)), .val (.int (22 : Int32))] [(.int (1 : Int32))])
                                                refine own_go (fun t k => XS.ifYes X263.here hx rfl (pc0 := 45) (pc' := 88) rfl (hb hby d1_45) rfl ((if0 _ _).trans (feq (by decide : ¬ ((1 : Int32) = (0 : Int32)))).2) (by decide) (by decide) k) ?_
                                                show own_R p e below _ T263 (mkF m 88 #[.val (.int p1), .val (.int (1 : Int32)), .val (.int (22 : Int32))] [])
                                                refine own_go (fun t k => XS.iloadN X263.here hx rfl (hb hby d1_88) rfl  k) ?_
                                                show own_R p e below _ T263 (mkF m 89 #[.val (.int p1), .val (.int (1 : Int32)), .val (.int (22 : Int32))] [(.int (1 : Int32))])
                                                refine own_retN X263 hx Bd.returns (by simp) (BodyLoose.notSynchronized Bd) (hb hby d1_89) (by decide) (by decide) ?_
                                                have z347 : 192 ≤ p1.toInt := own_nlti hc62_61 rfl rfl
                                                have z348 : 214 < p1.toInt := own_lti hc73_65 rfl rfl
                                                have z349 : 216 ≤ p1.toInt := own_nlti hc62_70 rfl rfl
                                                have z350 : 246 < p1.toInt := own_lti hc73_76 rfl rfl
                                                have z351 : 248 ≤ p1.toInt := own_nlti hc62_81 rfl rfl
                                                have z352 : 767 < p1.toInt := own_lti hc73_89 rfl rfl
                                                have z353 : 880 ≤ p1.toInt := own_nlti hc62_94 rfl rfl
                                                have z354 : 893 < p1.toInt := own_lti hc73_104 rfl rfl
                                                have z355 : 895 ≤ p1.toInt := own_nlti hc62_109 rfl rfl
                                                have z356 : 8191 < p1.toInt := own_lti hc73_121 rfl rfl
                                                have z357 : 8204 ≤ p1.toInt := own_nlti hc62_126 rfl rfl
                                                have z358 : 8205 < p1.toInt := own_lti hc73_140 rfl rfl
                                                have z359 : 8304 ≤ p1.toInt := own_nlti hc62_145 rfl rfl
                                                have z360 : 8591 < p1.toInt := own_lti hc73_161 rfl rfl
                                                have z361 : 11264 ≤ p1.toInt := own_nlti hc62_166 rfl rfl
                                                have z362 : 12271 < p1.toInt := own_lti hc73_184 rfl rfl
                                                have z363 : 12289 ≤ p1.toInt := own_nlti hc62_189 rfl rfl
                                                have z364 : 55295 < p1.toInt := own_lti hc73_209 rfl rfl
                                                have z365 : 63744 ≤ p1.toInt := own_nlti hc62_214 rfl rfl
                                                have z366 : 64975 < p1.toInt := own_lti hc73_236 rfl rfl
                                                have z367 : 65008 ≤ p1.toInt := own_nlti hc62_241 rfl rfl
                                                have z368 : p1.toInt ≤ 65533 := own_nlti hc73_265 rfl rfl
                                                exact ⟨by rw [if_pos (Or.inr (Or.inr (Or.inr (Or.inr (Or.inr (Or.inr (Or.inr (Or.inr (Or.inr (Or.inr (Or.inr (Or.inr (Or.inr (Or.inr (Or.inl (⟨by omega, by omega⟩))))))))))))))))]; rfl, N1, e263⟩
                                          · -- pc 73: no
                                            refine own_go (fun t k => XS.icmpNo X234.here hx rfl (hb hby d1_73) rfl (flt hc73_236).2.2.1 k) ?_
                                            show own_R p e below _ T234 (mkF m 76 #[.val (.int p1), .val (.int (0 : Int32)), .val (.int (18 : Int32))] [])
                                            refine own_go (fun t k => XS.iconst X234.here hx rfl (hb hby d1_76) k) ?_
                                            show own_R p e below _ T234 (mkF m 77 #[.val (.int p1), .val (.int (0 : Int32)), .val (.int (18 : Int32))] [(.int (1 : Int32))])
                                            refine own_go (fun t k => XS.goto X234.here hx rfl (pc0 := 77) (pc' := 81) rfl (hb hby d1_77) (by decide) (by decide) k) ?_
                                            show own_R p e below _ T234 (mkF m 81 #[.val (.int p1), .val (.int (0 : Int32)), .val (.int (18 : Int32))] [(.int (1 : Int32))])
                                            refine own_go (fun t k => XS.istoreN X234.here hx rfl (hb hby d1_81) rfl (l' := #[.val (.int p1), .val (.int (1 : Int32)), .val (.int (18 : Int32))]) rfl k) ?_
                                            show own_R p e below _ T234 (mkF m 82 #[.val (.int p1), .val (.int (1 : Int32)), .val (.int (18 : Int32))] [])
                                            refine own_go (fun t k => XS.iinc X234.here hx rfl (hb hby d1_82) rfl (l' := #[.val (.int p1), .val (.int (1 : Int32)), .val (.int (20 : Int32))]) rfl k) ?_
                                            show own_R p e below _ T234 (mkF m 85 #[.val (.int p1), .val (.int (1 : Int32)), .val (.int (20 : Int32))] [])
                                            refine own_go (fun t k => XS.goto X234.here hx rfl (pc0 := 85) (pc' := 44) rfl (hb hby d1_85) (by decide) (by decide) k) ?_
                                            show own_R p e below _ T234 (mkF m 44 #[.val (.int p1), .val (.int (1 : Int32)), .val (.int (20 : Int32))] [])
                                            refine own_go (fun t k => XS.iloadN X234.here hx rfl (hb hby d1_44) rfl  k) ?_
                                            show own_R p e below _ T234 (mkF m 45 #[.val (.int p1), .val (.int (1 : Int32)), .val (.int (20 : Int32))] [(.int (1 : Int32))])
                                            refine own_go (fun t k => XS.ifYes X234.here hx rfl (pc0 := 45) (pc' := 88) rfl (hb hby d1_45) rfl ((if0 _ _).trans (feq (by decide : ¬ ((1 : Int32) = (0 : Int32)))).2) (by decide) (by decide) k) ?_
                                            show own_R p e below _ T234 (mkF m 88 #[.val (.int p1), .val (.int (1 : Int32)), .val (.int (20 : Int32))] [])
                                            refine own_go (fun t k => XS.iloadN X234.here hx rfl (hb hby d1_88) rfl  k) ?_
                                            show own_R p e below _ T234 (mkF m 89 #[.val (.int p1), .val (.int (1 : Int32)), .val (.int (20 : Int32))] [(.int (1 : Int32))])
                                            refine own_retN X234 hx Bd.returns (by simp) (BodyLoose.notSynchronized Bd) (hb hby d1_89) (by decide) (by decide) ?_
                                            have z369 : 192 ≤ p1.toInt := own_nlti hc62_61 rfl rfl
                                            have z370 : 214 < p1.toInt := own_lti hc73_65 rfl rfl
                                            have z371 : 216 ≤ p1.toInt := own_nlti hc62_70 rfl rfl
                                            have z372 : 246 < p1.toInt := own_lti hc73_76 rfl rfl
                                            have z373 : 248 ≤ p1.toInt := own_nlti hc62_81 rfl rfl
                                            have z374 : 767 < p1.toInt := own_lti hc73_89 rfl rfl
                                            have z375 : 880 ≤ p1.toInt := own_nlti hc62_94 rfl rfl
                                            have z376 : 893 < p1.toInt := own_lti hc73_104 rfl rfl
                                            have z377 : 895 ≤ p1.toInt := own_nlti hc62_109 rfl rfl
                                            have z378 : 8191 < p1.toInt := own_lti hc73_121 rfl rfl
                                            have z379 : 8204 ≤ p1.toInt := own_nlti hc62_126 rfl rfl
                                            have z380 : 8205 < p1.toInt := own_lti hc73_140 rfl rfl
                                            have z381 : 8304 ≤ p1.toInt := own_nlti hc62_145 rfl rfl
                                            have z382 : 8591 < p1.toInt := own_lti hc73_161 rfl rfl
                                            have z383 : 11264 ≤ p1.toInt := own_nlti hc62_166 rfl rfl
                                            have z384 : 12271 < p1.toInt := own_lti hc73_184 rfl rfl
                                            have z385 : 12289 ≤ p1.toInt := own_nlti hc62_189 rfl rfl
                                            have z386 : 55295 < p1.toInt := own_lti hc73_209 rfl rfl
                                            have z387 : 63744 ≤ p1.toInt := own_nlti hc62_214 rfl rfl
                                            have z388 : p1.toInt ≤ 64975 := own_nlti hc73_236 rfl rfl
                                            exact ⟨by rw [if_pos (Or.inr (Or.inr (Or.inr (Or.inr (Or.inr (Or.inr (Or.inr (Or.inr (Or.inr (Or.inr (Or.inr (Or.inr (Or.inr (Or.inl (⟨by omega, by omega⟩)))))))))))))))]; rfl, N1, e234⟩
                                      · -- pc 73: no
                                        refine own_go (fun t k => XS.icmpNo X207.here hx rfl (hb hby d1_73) rfl (flt hc73_209).2.2.1 k) ?_
                                        show own_R p e below _ T207 (mkF m 76 #[.val (.int p1), .val (.int (0 : Int32)), .val (.int (16 : Int32))] [])
                                        refine own_go (fun t k => XS.iconst X207.here hx rfl (hb hby d1_76) k) ?_
                                        show own_R p e below _ T207 (mkF m 77 #[.val (.int p1), .val (.int (0 : Int32)), .val (.int (16 : Int32))] [(.int (1 : Int32))])
                                        refine own_go (fun t k => XS.goto X207.here hx rfl (pc0 := 77) (pc' := 81) rfl (hb hby d1_77) (by decide) (by decide) k) ?_
                                        show own_R p e below _ T207 (mkF m 81 #[.val (.int p1), .val (.int (0 : Int32)), .val (.int (16 : Int32))] [(.int (1 : Int32))])
                                        refine own_go (fun t k => XS.istoreN X207.here hx rfl (hb hby d1_81) rfl (l' := #[.val (.int p1), .val (.int (1 : Int32)), .val (.int (16 : Int32))]) rfl k) ?_
                                        show own_R p e below _ T207 (mkF m 82 #[.val (.int p1), .val (.int (1 : Int32)), .val (.int (16 : Int32))] [])
                                        refine own_go (fun t k => XS.iinc X207.here hx rfl (hb hby d1_82) rfl (l' := #[.val (.int p1), .val (.int (1 : Int32)), .val (.int (18 : Int32))]) rfl k) ?_
                                        show own_R p e below _ T207 (mkF m 85 #[.val (.int p1), .val (.int (1 : Int32)), .val (.int (18 : Int32))] [])
                                        refine own_go (fun t k => XS.goto X207.here hx rfl (pc0 := 85) (pc' := 44) rfl (hb hby d1_85) (by decide) (by decide) k) ?_
                                        show own_R p e below _ T207 (mkF m 44 #[.val (.int p1), .val (.int (1 : Int32)), .val (.int (18 : Int32))] [])
                                        refine own_go (fun t k => XS.iloadN X207.here hx rfl (hb hby d1_44) rfl  k) ?_
                                        show own_R p e below _ T207 (mkF m 45 #[.val (.int p1), .val (.int (1 : Int32)), .val (.int (18 : Int32))] [(.int (1 : Int32))])
                                        refine own_go (fun t k => XS.ifYes X207.here hx rfl (pc0 := 45) (pc' := 88) rfl (hb hby d1_45) rfl ((if0 _ _).trans (feq (by decide : ¬ ((1 : Int32) = (0 : Int32)))).2) (by decide) (by decide) k) ?_
                                        show own_R p e below _ T207 (mkF m 88 #[.val (.int p1), .val (.int (1 : Int32)), .val (.int (18 : Int32))] [])
                                        refine own_go (fun t k => XS.iloadN X207.here hx rfl (hb hby d1_88) rfl  k) ?_
                                        show own_R p e below _ T207 (mkF m 89 #[.val (.int p1), .val (.int (1 : Int32)), .val (.int (18 : Int32))] [(.int (1 : Int32))])
                                        refine own_retN X207 hx Bd.returns (by simp) (BodyLoose.notSynchronized Bd) (hb hby d1_89) (by decide) (by decide) ?_
                                        have z389 : 192 ≤ p1.toInt := own_nlti hc62_61 rfl rfl
                                        have z390 : 214 < p1.toInt := own_lti hc73_65 rfl rfl
                                        have z391 : 216 ≤ p1.toInt := own_nlti hc62_70 rfl rfl
                                        have z392 : 246 < p1.toInt := own_lti hc73_76 rfl rfl
                                        have z393 : 248 ≤ p1.toInt := own_nlti hc62_81 rfl rfl
                                        have z394 : 767 < p1.toInt := own_lti hc73_89 rfl rfl
                                        have z395 : 880 ≤ p1.toInt := own_nlti hc62_94 rfl rfl
                                        have z396 : 893 < p1.toInt := own_lti hc73_104 rfl rfl
                                        have z397 : 895 ≤ p1.toInt := own_nlti hc62_109 rfl rfl
                                        have z398 : 8191 < p1.toInt := own_lti hc73_121 rfl rfl
                                        have z399 : 8204 ≤ p1.toInt := own_nlti hc62_126 rfl rfl
                                        have z400 : 8205 < p1.toInt := own_lti hc73_140 rfl rfl
                                        have z401 : 8304 ≤ p1.toInt := own_nlti hc62_145 rfl rfl
                                        have z402 : 8591 < p1.toInt := own_lti hc73_161 rfl rfl
                                        have z403 : 11264 ≤ p1.toInt := own_nlti hc62_166 rfl rfl
                                        have z404 : 12271 < p1.toInt := own_lti hc73_184 rfl rfl
                                        have z405 : 12289 ≤ p1.toInt := own_nlti hc62_189 rfl rfl
                                        have z406 : p1.toInt ≤ 55295 := own_nlti hc73_209 rfl rfl
                                        exact ⟨by rw [if_pos (Or.inr (Or.inr (Or.inr (Or.inr (Or.inr (Or.inr (Or.inr (Or.inr (Or.inr (Or.inr (Or.inr (Or.inr (Or.inl (⟨by omega, by omega⟩))))))))))))))]; rfl, N1, e207⟩
                                  · -- pc 73: no
                                    refine own_go (fun t k => XS.icmpNo X182.here hx rfl (hb hby d1_73) rfl (flt hc73_184).2.2.1 k) ?_
                                    show own_R p e below _ T182 (mkF m 76 #[.val (.int p1), .val (.int (0 : Int32)), .val (.int (14 : Int32))] [])
                                    refine own_go (fun t k => XS.iconst X182.here hx rfl (hb hby d1_76) k) ?_
                                    show own_R p e below _ T182 (mkF m 77 #[.val (.int p1), .val (.int (0 : Int32)), .val (.int (14 : Int32))] [(.int (1 : Int32))])
                                    refine own_go (fun t k => XS.goto X182.here hx rfl (pc0 := 77) (pc' := 81) rfl (hb hby d1_77) (by decide) (by decide) k) ?_
                                    show own_R p e below _ T182 (mkF m 81 #[.val (.int p1), .val (.int (0 : Int32)), .val (.int (14 : Int32))] [(.int (1 : Int32))])
                                    refine own_go (fun t k => XS.istoreN X182.here hx rfl (hb hby d1_81) rfl (l' := #[.val (.int p1), .val (.int (1 : Int32)), .val (.int (14 : Int32))]) rfl k) ?_
                                    show own_R p e below _ T182 (mkF m 82 #[.val (.int p1), .val (.int (1 : Int32)), .val (.int (14 : Int32))] [])
                                    refine own_go (fun t k => XS.iinc X182.here hx rfl (hb hby d1_82) rfl (l' := #[.val (.int p1), .val (.int (1 : Int32)), .val (.int (16 : Int32))]) rfl k) ?_
                                    show own_R p e below _ T182 (mkF m 85 #[.val (.int p1), .val (.int (1 : Int32)), .val (.int (16 : Int32))] [])
                                    refine own_go (fun t k => XS.goto X182.here hx rfl (pc0 := 85) (pc' := 44) rfl (hb hby d1_85) (by decide) (by decide) k) ?_
                                    show own_R p e below _ T182 (mkF m 44 #[.val (.int p1), .val (.int (1 : Int32)), .val (.int (16 : Int32))] [])
                                    refine own_go (fun t k => XS.iloadN X182.here hx rfl (hb hby d1_44) rfl  k) ?_
                                    show own_R p e below _ T182 (mkF m 45 #[.val (.int p1), .val (.int (1 : Int32)), .val (.int (16 : Int32))] [(.int (1 : Int32))])
                                    refine own_go (fun t k => XS.ifYes X182.here hx rfl (pc0 := 45) (pc' := 88) rfl (hb hby d1_45) rfl ((if0 _ _).trans (feq (by decide : ¬ ((1 : Int32) = (0 : Int32)))).2) (by decide) (by decide) k) ?_
                                    show own_R p e below _ T182 (mkF m 88 #[.val (.int p1), .val (.int (1 : Int32)), .val (.int (16 : Int32))] [])
                                    refine own_go (fun t k => XS.iloadN X182.here hx rfl (hb hby d1_88) rfl  k) ?_
                                    show own_R p e below _ T182 (mkF m 89 #[.val (.int p1), .val (.int (1 : Int32)), .val (.int (16 : Int32))] [(.int (1 : Int32))])
                                    refine own_retN X182 hx Bd.returns (by simp) (BodyLoose.notSynchronized Bd) (hb hby d1_89) (by decide) (by decide) ?_
                                    have z407 : 192 ≤ p1.toInt := own_nlti hc62_61 rfl rfl
                                    have z408 : 214 < p1.toInt := own_lti hc73_65 rfl rfl
                                    have z409 : 216 ≤ p1.toInt := own_nlti hc62_70 rfl rfl
                                    have z410 : 246 < p1.toInt := own_lti hc73_76 rfl rfl
                                    have z411 : 248 ≤ p1.toInt := own_nlti hc62_81 rfl rfl
                                    have z412 : 767 < p1.toInt := own_lti hc73_89 rfl rfl
                                    have z413 : 880 ≤ p1.toInt := own_nlti hc62_94 rfl rfl
                                    have z414 : 893 < p1.toInt := own_lti hc73_104 rfl rfl
                                    have z415 : 895 ≤ p1.toInt := own_nlti hc62_109 rfl rfl
                                    have z416 : 8191 < p1.toInt := own_lti hc73_121 rfl rfl
                                    have z417 : 8204 ≤ p1.toInt := own_nlti hc62_126 rfl rfl
                                    have z418 : 8205 < p1.toInt := own_lti hc73_140 rfl rfl
                                    have z419 : 8304 ≤ p1.toInt := own_nlti hc62_145 rfl rfl
                                    have z420 : 8591 < p1.toInt := own_lti hc73_161 rfl rfl
                                    have z421 : 11264 ≤ p1.toInt := own_nlti hc62_166 rfl rfl
                                    have z422 : p1.toInt ≤ 12271 := own_nlti hc73_184 rfl rfl
                                    exact ⟨by rw [if_pos (Or.inr (Or.inr (Or.inr (Or.inr (Or.inr (Or.inr (Or.inr (Or.inr (Or.inr (Or.inr (Or.inr (Or.inl (⟨by omega, by omega⟩)))))))))))))]; rfl, N1, e182⟩
                              · -- pc 73: no
                                refine own_go (fun t k => XS.icmpNo X159.here hx rfl (hb hby d1_73) rfl (flt hc73_161).2.2.1 k) ?_
                                show own_R p e below _ T159 (mkF m 76 #[.val (.int p1), .val (.int (0 : Int32)), .val (.int (12 : Int32))] [])
                                refine own_go (fun t k => XS.iconst X159.here hx rfl (hb hby d1_76) k) ?_
                                show own_R p e below _ T159 (mkF m 77 #[.val (.int p1), .val (.int (0 : Int32)), .val (.int (12 : Int32))] [(.int (1 : Int32))])
                                refine own_go (fun t k => XS.goto X159.here hx rfl (pc0 := 77) (pc' := 81) rfl (hb hby d1_77) (by decide) (by decide) k) ?_
                                show own_R p e below _ T159 (mkF m 81 #[.val (.int p1), .val (.int (0 : Int32)), .val (.int (12 : Int32))] [(.int (1 : Int32))])
                                refine own_go (fun t k => XS.istoreN X159.here hx rfl (hb hby d1_81) rfl (l' := #[.val (.int p1), .val (.int (1 : Int32)), .val (.int (12 : Int32))]) rfl k) ?_
                                show own_R p e below _ T159 (mkF m 82 #[.val (.int p1), .val (.int (1 : Int32)), .val (.int (12 : Int32))] [])
                                refine own_go (fun t k => XS.iinc X159.here hx rfl (hb hby d1_82) rfl (l' := #[.val (.int p1), .val (.int (1 : Int32)), .val (.int (14 : Int32))]) rfl k) ?_
                                show own_R p e below _ T159 (mkF m 85 #[.val (.int p1), .val (.int (1 : Int32)), .val (.int (14 : Int32))] [])
                                refine own_go (fun t k => XS.goto X159.here hx rfl (pc0 := 85) (pc' := 44) rfl (hb hby d1_85) (by decide) (by decide) k) ?_
                                show own_R p e below _ T159 (mkF m 44 #[.val (.int p1), .val (.int (1 : Int32)), .val (.int (14 : Int32))] [])
                                refine own_go (fun t k => XS.iloadN X159.here hx rfl (hb hby d1_44) rfl  k) ?_
                                show own_R p e below _ T159 (mkF m 45 #[.val (.int p1), .val (.int (1 : Int32)), .val (.int (14 : Int32))] [(.int (1 : Int32))])
                                refine own_go (fun t k => XS.ifYes X159.here hx rfl (pc0 := 45) (pc' := 88) rfl (hb hby d1_45) rfl ((if0 _ _).trans (feq (by decide : ¬ ((1 : Int32) = (0 : Int32)))).2) (by decide) (by decide) k) ?_
                                show own_R p e below _ T159 (mkF m 88 #[.val (.int p1), .val (.int (1 : Int32)), .val (.int (14 : Int32))] [])
                                refine own_go (fun t k => XS.iloadN X159.here hx rfl (hb hby d1_88) rfl  k) ?_
                                show own_R p e below _ T159 (mkF m 89 #[.val (.int p1), .val (.int (1 : Int32)), .val (.int (14 : Int32))] [(.int (1 : Int32))])
                                refine own_retN X159 hx Bd.returns (by simp) (BodyLoose.notSynchronized Bd) (hb hby d1_89) (by decide) (by decide) ?_
                                have z423 : 192 ≤ p1.toInt := own_nlti hc62_61 rfl rfl
                                have z424 : 214 < p1.toInt := own_lti hc73_65 rfl rfl
                                have z425 : 216 ≤ p1.toInt := own_nlti hc62_70 rfl rfl
                                have z426 : 246 < p1.toInt := own_lti hc73_76 rfl rfl
                                have z427 : 248 ≤ p1.toInt := own_nlti hc62_81 rfl rfl
                                have z428 : 767 < p1.toInt := own_lti hc73_89 rfl rfl
                                have z429 : 880 ≤ p1.toInt := own_nlti hc62_94 rfl rfl
                                have z430 : 893 < p1.toInt := own_lti hc73_104 rfl rfl
                                have z431 : 895 ≤ p1.toInt := own_nlti hc62_109 rfl rfl
                                have z432 : 8191 < p1.toInt := own_lti hc73_121 rfl rfl
                                have z433 : 8204 ≤ p1.toInt := own_nlti hc62_126 rfl rfl
                                have z434 : 8205 < p1.toInt := own_lti hc73_140 rfl rfl
                                have z435 : 8304 ≤ p1.toInt := own_nlti hc62_145 rfl rfl
                                have z436 : p1.toInt ≤ 8591 := own_nlti hc73_161 rfl rfl
                                exact ⟨by rw [if_pos (Or.inr (Or.inr (Or.inr (Or.inr (Or.inr (Or.inr (Or.inr (Or.inr (Or.inr (Or.inr (Or.inl (⟨by omega, by omega⟩))))))))))))]; rfl, N1, e159⟩
                          · -- pc 73: no
                            refine own_go (fun t k => XS.icmpNo X138.here hx rfl (hb hby d1_73) rfl (flt hc73_140).2.2.1 k) ?_
                            show own_R p e below _ T138 (mkF m 76 #[.val (.int p1), .val (.int (0 : Int32)), .val (.int (10 : Int32))] [])
                            refine own_go (fun t k => XS.iconst X138.here hx rfl (hb hby d1_76) k) ?_
                            show own_R p e below _ T138 (mkF m 77 #[.val (.int p1), .val (.int (0 : Int32)), .val (.int (10 : Int32))] [(.int (1 : Int32))])
                            refine own_go (fun t k => XS.goto X138.here hx rfl (pc0 := 77) (pc' := 81) rfl (hb hby d1_77) (by decide) (by decide) k) ?_
                            show own_R p e below _ T138 (mkF m 81 #[.val (.int p1), .val (.int (0 : Int32)), .val (.int (10 : Int32))] [(.int (1 : Int32))])
                            refine own_go (fun t k => XS.istoreN X138.here hx rfl (hb hby d1_81) rfl (l' := #[.val (.int p1), .val (.int (1 : Int32)), .val (.int (10 : Int32))]) rfl k) ?_
                            show own_R p e below _ T138 (mkF m 82 #[.val (.int p1), .val (.int (1 : Int32)), .val (.int (10 : Int32))] [])
                            refine own_go (fun t k => XS.iinc X138.here hx rfl (hb hby d1_82) rfl (l' := #[.val (.int p1), .val (.int (1 : Int32)), .val (.int (12 : Int32))]) rfl k) ?_
                            show own_R p e below _ T138 (mkF m 85 #[.val (.int p1), .val (.int (1 : Int32)), .val (.int (12 : Int32))] [])
                            refine own_go (fun t k => XS.goto X138.here hx rfl (pc0 := 85) (pc' := 44) rfl (hb hby d1_85) (by decide) (by decide) k) ?_
                            show own_R p e below _ T138 (mkF m 44 #[.val (.int p1), .val (.int (1 : Int32)), .val (.int (12 : Int32))] [])
                            refine own_go (fun t k => XS.iloadN X138.here hx rfl (hb hby d1_44) rfl  k) ?_
                            show own_R p e below _ T138 (mkF m 45 #[.val (.int p1), .val (.int (1 : Int32)), .val (.int (12 : Int32))] [(.int (1 : Int32))])
                            refine own_go (fun t k => XS.ifYes X138.here hx rfl (pc0 := 45) (pc' := 88) rfl (hb hby d1_45) rfl ((if0 _ _).trans (feq (by decide : ¬ ((1 : Int32) = (0 : Int32)))).2) (by decide) (by decide) k) ?_
                            show own_R p e below _ T138 (mkF m 88 #[.val (.int p1), .val (.int (1 : Int32)), .val (.int (12 : Int32))] [])
                            refine own_go (fun t k => XS.iloadN X138.here hx rfl (hb hby d1_88) rfl  k) ?_
                            show own_R p e below _ T138 (mkF m 89 #[.val (.int p1), .val (.int (1 : Int32)), .val (.int (12 : Int32))] [(.int (1 : Int32))])
                            refine own_retN X138 hx Bd.returns (by simp) (BodyLoose.notSynchronized Bd) (hb hby d1_89) (by decide) (by decide) ?_
                            have z437 : 192 ≤ p1.toInt := own_nlti hc62_61 rfl rfl
                            have z438 : 214 < p1.toInt := own_lti hc73_65 rfl rfl
                            have z439 : 216 ≤ p1.toInt := own_nlti hc62_70 rfl rfl
                            have z440 : 246 < p1.toInt := own_lti hc73_76 rfl rfl
                            have z441 : 248 ≤ p1.toInt := own_nlti hc62_81 rfl rfl
                            have z442 : 767 < p1.toInt := own_lti hc73_89 rfl rfl
                            have z443 : 880 ≤ p1.toInt := own_nlti hc62_94 rfl rfl
                            have z444 : 893 < p1.toInt := own_lti hc73_104 rfl rfl
                            have z445 : 895 ≤ p1.toInt := own_nlti hc62_109 rfl rfl
                            have z446 : 8191 < p1.toInt := own_lti hc73_121 rfl rfl
                            have z447 : 8204 ≤ p1.toInt := own_nlti hc62_126 rfl rfl
                            have z448 : p1.toInt ≤ 8205 := own_nlti hc73_140 rfl rfl
                            exact ⟨by rw [if_pos (Or.inr (Or.inr (Or.inr (Or.inr (Or.inr (Or.inr (Or.inr (Or.inr (Or.inr (Or.inl (⟨by omega, by omega⟩)))))))))))]; rfl, N1, e138⟩
                      · -- pc 73: no
                        refine own_go (fun t k => XS.icmpNo X119.here hx rfl (hb hby d1_73) rfl (flt hc73_121).2.2.1 k) ?_
                        show own_R p e below _ T119 (mkF m 76 #[.val (.int p1), .val (.int (0 : Int32)), .val (.int (8 : Int32))] [])
                        refine own_go (fun t k => XS.iconst X119.here hx rfl (hb hby d1_76) k) ?_
                        show own_R p e below _ T119 (mkF m 77 #[.val (.int p1), .val (.int (0 : Int32)), .val (.int (8 : Int32))] [(.int (1 : Int32))])
                        refine own_go (fun t k => XS.goto X119.here hx rfl (pc0 := 77) (pc' := 81) rfl (hb hby d1_77) (by decide) (by decide) k) ?_
                        show own_R p e below _ T119 (mkF m 81 #[.val (.int p1), .val (.int (0 : Int32)), .val (.int (8 : Int32))] [(.int (1 : Int32))])
                        refine own_go (fun t k => XS.istoreN X119.here hx rfl (hb hby d1_81) rfl (l' := #[.val (.int p1), .val (.int (1 : Int32)), .val (.int (8 : Int32))]) rfl k) ?_
                        show own_R p e below _ T119 (mkF m 82 #[.val (.int p1), .val (.int (1 : Int32)), .val (.int (8 : Int32))] [])
                        refine own_go (fun t k => XS.iinc X119.here hx rfl (hb hby d1_82) rfl (l' := #[.val (.int p1), .val (.int (1 : Int32)), .val (.int (10 : Int32))]) rfl k) ?_
                        show own_R p e below _ T119 (mkF m 85 #[.val (.int p1), .val (.int (1 : Int32)), .val (.int (10 : Int32))] [])
                        refine own_go (fun t k => XS.goto X119.here hx rfl (pc0 := 85) (pc' := 44) rfl (hb hby d1_85) (by decide) (by decide) k) ?_
                        show own_R p e below _ T119 (mkF m 44 #[.val (.int p1), .val (.int (1 : Int32)), .val (.int (10 : Int32))] [])
                        refine own_go (fun t k => XS.iloadN X119.here hx rfl (hb hby d1_44) rfl  k) ?_
                        show own_R p e below _ T119 (mkF m 45 #[.val (.int p1), .val (.int (1 : Int32)), .val (.int (10 : Int32))] [(.int (1 : Int32))])
                        refine own_go (fun t k => XS.ifYes X119.here hx rfl (pc0 := 45) (pc' := 88) rfl (hb hby d1_45) rfl ((if0 _ _).trans (feq (by decide : ¬ ((1 : Int32) = (0 : Int32)))).2) (by decide) (by decide) k) ?_
                        show own_R p e below _ T119 (mkF m 88 #[.val (.int p1), .val (.int (1 : Int32)), .val (.int (10 : Int32))] [])
                        refine own_go (fun t k => XS.iloadN X119.here hx rfl (hb hby d1_88) rfl  k) ?_
                        show own_R p e below _ T119 (mkF m 89 #[.val (.int p1), .val (.int (1 : Int32)), .val (.int (10 : Int32))] [(.int (1 : Int32))])
                        refine own_retN X119 hx Bd.returns (by simp) (BodyLoose.notSynchronized Bd) (hb hby d1_89) (by decide) (by decide) ?_
                        have z449 : 192 ≤ p1.toInt := own_nlti hc62_61 rfl rfl
                        have z450 : 214 < p1.toInt := own_lti hc73_65 rfl rfl
                        have z451 : 216 ≤ p1.toInt := own_nlti hc62_70 rfl rfl
                        have z452 : 246 < p1.toInt := own_lti hc73_76 rfl rfl
                        have z453 : 248 ≤ p1.toInt := own_nlti hc62_81 rfl rfl
                        have z454 : 767 < p1.toInt := own_lti hc73_89 rfl rfl
                        have z455 : 880 ≤ p1.toInt := own_nlti hc62_94 rfl rfl
                        have z456 : 893 < p1.toInt := own_lti hc73_104 rfl rfl
                        have z457 : 895 ≤ p1.toInt := own_nlti hc62_109 rfl rfl
                        have z458 : p1.toInt ≤ 8191 := own_nlti hc73_121 rfl rfl
                        exact ⟨by rw [if_pos (Or.inr (Or.inr (Or.inr (Or.inr (Or.inr (Or.inr (Or.inr (Or.inr (Or.inl (⟨by omega, by omega⟩))))))))))]; rfl, N1, e119⟩
                  · -- pc 73: no
                    refine own_go (fun t k => XS.icmpNo X102.here hx rfl (hb hby d1_73) rfl (flt hc73_104).2.2.1 k) ?_
                    show own_R p e below _ T102 (mkF m 76 #[.val (.int p1), .val (.int (0 : Int32)), .val (.int (6 : Int32))] [])
                    refine own_go (fun t k => XS.iconst X102.here hx rfl (hb hby d1_76) k) ?_
                    show own_R p e below _ T102 (mkF m 77 #[.val (.int p1), .val (.int (0 : Int32)), .val (.int (6 : Int32))] [(.int (1 : Int32))])
                    refine own_go (fun t k => XS.goto X102.here hx rfl (pc0 := 77) (pc' := 81) rfl (hb hby d1_77) (by decide) (by decide) k) ?_
                    show own_R p e below _ T102 (mkF m 81 #[.val (.int p1), .val (.int (0 : Int32)), .val (.int (6 : Int32))] [(.int (1 : Int32))])
                    refine own_go (fun t k => XS.istoreN X102.here hx rfl (hb hby d1_81) rfl (l' := #[.val (.int p1), .val (.int (1 : Int32)), .val (.int (6 : Int32))]) rfl k) ?_
                    show own_R p e below _ T102 (mkF m 82 #[.val (.int p1), .val (.int (1 : Int32)), .val (.int (6 : Int32))] [])
                    refine own_go (fun t k => XS.iinc X102.here hx rfl (hb hby d1_82) rfl (l' := #[.val (.int p1), .val (.int (1 : Int32)), .val (.int (8 : Int32))]) rfl k) ?_
                    show own_R p e below _ T102 (mkF m 85 #[.val (.int p1), .val (.int (1 : Int32)), .val (.int (8 : Int32))] [])
                    refine own_go (fun t k => XS.goto X102.here hx rfl (pc0 := 85) (pc' := 44) rfl (hb hby d1_85) (by decide) (by decide) k) ?_
                    show own_R p e below _ T102 (mkF m 44 #[.val (.int p1), .val (.int (1 : Int32)), .val (.int (8 : Int32))] [])
                    refine own_go (fun t k => XS.iloadN X102.here hx rfl (hb hby d1_44) rfl  k) ?_
                    show own_R p e below _ T102 (mkF m 45 #[.val (.int p1), .val (.int (1 : Int32)), .val (.int (8 : Int32))] [(.int (1 : Int32))])
                    refine own_go (fun t k => XS.ifYes X102.here hx rfl (pc0 := 45) (pc' := 88) rfl (hb hby d1_45) rfl ((if0 _ _).trans (feq (by decide : ¬ ((1 : Int32) = (0 : Int32)))).2) (by decide) (by decide) k) ?_
                    show own_R p e below _ T102 (mkF m 88 #[.val (.int p1), .val (.int (1 : Int32)), .val (.int (8 : Int32))] [])
                    refine own_go (fun t k => XS.iloadN X102.here hx rfl (hb hby d1_88) rfl  k) ?_
                    show own_R p e below _ T102 (mkF m 89 #[.val (.int p1), .val (.int (1 : Int32)), .val (.int (8 : Int32))] [(.int (1 : Int32))])
                    refine own_retN X102 hx Bd.returns (by simp) (BodyLoose.notSynchronized Bd) (hb hby d1_89) (by decide) (by decide) ?_
                    have z459 : 192 ≤ p1.toInt := own_nlti hc62_61 rfl rfl
                    have z460 : 214 < p1.toInt := own_lti hc73_65 rfl rfl
                    have z461 : 216 ≤ p1.toInt := own_nlti hc62_70 rfl rfl
                    have z462 : 246 < p1.toInt := own_lti hc73_76 rfl rfl
                    have z463 : 248 ≤ p1.toInt := own_nlti hc62_81 rfl rfl
                    have z464 : 767 < p1.toInt := own_lti hc73_89 rfl rfl
                    have z465 : 880 ≤ p1.toInt := own_nlti hc62_94 rfl rfl
                    have z466 : p1.toInt ≤ 893 := own_nlti hc73_104 rfl rfl
                    exact ⟨by rw [if_pos (Or.inr (Or.inr (Or.inr (Or.inr (Or.inr (Or.inr (Or.inr (Or.inl (⟨by omega, by omega⟩)))))))))]; rfl, N1, e102⟩
              · -- pc 73: no
                refine own_go (fun t k => XS.icmpNo X87.here hx rfl (hb hby d1_73) rfl (flt hc73_89).2.2.1 k) ?_
                show own_R p e below _ T87 (mkF m 76 #[.val (.int p1), .val (.int (0 : Int32)), .val (.int (4 : Int32))] [])
                refine own_go (fun t k => XS.iconst X87.here hx rfl (hb hby d1_76) k) ?_
                show own_R p e below _ T87 (mkF m 77 #[.val (.int p1), .val (.int (0 : Int32)), .val (.int (4 : Int32))] [(.int (1 : Int32))])
                refine own_go (fun t k => XS.goto X87.here hx rfl (pc0 := 77) (pc' := 81) rfl (hb hby d1_77) (by decide) (by decide) k) ?_
                show own_R p e below _ T87 (mkF m 81 #[.val (.int p1), .val (.int (0 : Int32)), .val (.int (4 : Int32))] [(.int (1 : Int32))])
                refine own_go (fun t k => XS.istoreN X87.here hx rfl (hb hby d1_81) rfl (l' := #[.val (.int p1), .val (.int (1 : Int32)), .val (.int (4 : Int32))]) rfl k) ?_
                show own_R p e below _ T87 (mkF m 82 #[.val (.int p1), .val (.int (1 : Int32)), .val (.int (4 : Int32))] [])
                refine own_go (fun t k => XS.iinc X87.here hx rfl (hb hby d1_82) rfl (l' := #[.val (.int p1), .val (.int (1 : Int32)), .val (.int (6 : Int32))]) rfl k) ?_
                show own_R p e below _ T87 (mkF m 85 #[.val (.int p1), .val (.int (1 : Int32)), .val (.int (6 : Int32))] [])
                refine own_go (fun t k => XS.goto X87.here hx rfl (pc0 := 85) (pc' := 44) rfl (hb hby d1_85) (by decide) (by decide) k) ?_
                show own_R p e below _ T87 (mkF m 44 #[.val (.int p1), .val (.int (1 : Int32)), .val (.int (6 : Int32))] [])
                refine own_go (fun t k => XS.iloadN X87.here hx rfl (hb hby d1_44) rfl  k) ?_
                show own_R p e below _ T87 (mkF m 45 #[.val (.int p1), .val (.int (1 : Int32)), .val (.int (6 : Int32))] [(.int (1 : Int32))])
                refine own_go (fun t k => XS.ifYes X87.here hx rfl (pc0 := 45) (pc' := 88) rfl (hb hby d1_45) rfl ((if0 _ _).trans (feq (by decide : ¬ ((1 : Int32) = (0 : Int32)))).2) (by decide) (by decide) k) ?_
                show own_R p e below _ T87 (mkF m 88 #[.val (.int p1), .val (.int (1 : Int32)), .val (.int (6 : Int32))] [])
                refine own_go (fun t k => XS.iloadN X87.here hx rfl (hb hby d1_88) rfl  k) ?_
                show own_R p e below _ T87 (mkF m 89 #[.val (.int p1), .val (.int (1 : Int32)), .val (.int (6 : Int32))] [(.int (1 : Int32))])
                refine own_retN X87 hx Bd.returns (by simp) (BodyLoose.notSynchronized Bd) (hb hby d1_89) (by decide) (by decide) ?_
                have z467 : 192 ≤ p1.toInt := own_nlti hc62_61 rfl rfl
                have z468 : 214 < p1.toInt := own_lti hc73_65 rfl rfl
                have z469 : 216 ≤ p1.toInt := own_nlti hc62_70 rfl rfl
                have z470 : 246 < p1.toInt := own_lti hc73_76 rfl rfl
                have z471 : 248 ≤ p1.toInt := own_nlti hc62_81 rfl rfl
                have z472 : p1.toInt ≤ 767 := own_nlti hc73_89 rfl rfl
                exact ⟨by rw [if_pos (Or.inr (Or.inr (Or.inr (Or.inr (Or.inr (Or.inr (Or.inl (⟨by omega, by omega⟩))))))))]; rfl, N1, e87⟩
          · -- pc 73: no
            refine own_go (fun t k => XS.icmpNo X74.here hx rfl (hb hby d1_73) rfl (flt hc73_76).2.2.1 k) ?_
            show own_R p e below _ T74 (mkF m 76 #[.val (.int p1), .val (.int (0 : Int32)), .val (.int (2 : Int32))] [])
            refine own_go (fun t k => XS.iconst X74.here hx rfl (hb hby d1_76) k) ?_
            show own_R p e below _ T74 (mkF m 77 #[.val (.int p1), .val (.int (0 : Int32)), .val (.int (2 : Int32))] [(.int (1 : Int32))])
            refine own_go (fun t k => XS.goto X74.here hx rfl (pc0 := 77) (pc' := 81) rfl (hb hby d1_77) (by decide) (by decide) k) ?_
            show own_R p e below _ T74 (mkF m 81 #[.val (.int p1), .val (.int (0 : Int32)), .val (.int (2 : Int32))] [(.int (1 : Int32))])
            refine own_go (fun t k => XS.istoreN X74.here hx rfl (hb hby d1_81) rfl (l' := #[.val (.int p1), .val (.int (1 : Int32)), .val (.int (2 : Int32))]) rfl k) ?_
            show own_R p e below _ T74 (mkF m 82 #[.val (.int p1), .val (.int (1 : Int32)), .val (.int (2 : Int32))] [])
            refine own_go (fun t k => XS.iinc X74.here hx rfl (hb hby d1_82) rfl (l' := #[.val (.int p1), .val (.int (1 : Int32)), .val (.int (4 : Int32))]) rfl k) ?_
            show own_R p e below _ T74 (mkF m 85 #[.val (.int p1), .val (.int (1 : Int32)), .val (.int (4 : Int32))] [])
            refine own_go (fun t k => XS.goto X74.here hx rfl (pc0 := 85) (pc' := 44) rfl (hb hby d1_85) (by decide) (by decide) k) ?_
            show own_R p e below _ T74 (mkF m 44 #[.val (.int p1), .val (.int (1 : Int32)), .val (.int (4 : Int32))] [])
            refine own_go (fun t k => XS.iloadN X74.here hx rfl (hb hby d1_44) rfl  k) ?_
            show own_R p e below _ T74 (mkF m 45 #[.val (.int p1), .val (.int (1 : Int32)), .val (.int (4 : Int32))] [(.int (1 : Int32))])
            refine own_go (fun t k => XS.ifYes X74.here hx rfl (pc0 := 45) (pc' := 88) rfl (hb hby d1_45) rfl ((if0 _ _).trans (feq (by decide : ¬ ((1 : Int32) = (0 : Int32)))).2) (by decide) (by decide) k) ?_
            show own_R p e below _ T74 (mkF m 88 #[.val (.int p1), .val (.int (1 : Int32)), .val (.int (4 : Int32))] [])
            refine own_go (fun t k => XS.iloadN X74.here hx rfl (hb hby d1_88) rfl  k) ?_
            show own_R p e below _ T74 (mkF m 89 #[.val (.int p1), .val (.int (1 : Int32)), .val (.int (4 : Int32))] [(.int (1 : Int32))])
            refine own_retN X74 hx Bd.returns (by simp) (BodyLoose.notSynchronized Bd) (hb hby d1_89) (by decide) (by decide) ?_
            have z473 : 192 ≤ p1.toInt := own_nlti hc62_61 rfl rfl
            have z474 : 214 < p1.toInt := own_lti hc73_65 rfl rfl
            have z475 : 216 ≤ p1.toInt := own_nlti hc62_70 rfl rfl
            have z476 : p1.toInt ≤ 246 := own_nlti hc73_76 rfl rfl
            exact ⟨by rw [if_pos (Or.inr (Or.inr (Or.inr (Or.inr (Or.inr (Or.inl (⟨by omega, by omega⟩)))))))]; rfl, N1, e74⟩
      · -- pc 73: no
        refine own_go (fun t k => XS.icmpNo X63.here hx rfl (hb hby d1_73) rfl (flt hc73_65).2.2.1 k) ?_
        show own_R p e below _ T63 (mkF m 76 #[.val (.int p1), .val (.int (0 : Int32)), .val (.int (0 : Int32))] [])
        refine own_go (fun t k => XS.iconst X63.here hx rfl (hb hby d1_76) k) ?_
        show own_R p e below _ T63 (mkF m 77 #[.val (.int p1), .val (.int (0 : Int32)), .val (.int (0 : Int32))] [(.int (1 : Int32))])
        refine own_go (fun t k => XS.goto X63.here hx rfl (pc0 := 77) (pc' := 81) rfl (hb hby d1_77) (by decide) (by decide) k) ?_
        show own_R p e below _ T63 (mkF m 81 #[.val (.int p1), .val (.int (0 : Int32)), .val (.int (0 : Int32))] [(.int (1 : Int32))])
        refine own_go (fun t k => XS.istoreN X63.here hx rfl (hb hby d1_81) rfl (l' := #[.val (.int p1), .val (.int (1 : Int32)), .val (.int (0 : Int32))]) rfl k) ?_
        show own_R p e below _ T63 (mkF m 82 #[.val (.int p1), .val (.int (1 : Int32)), .val (.int (0 : Int32))] [])
        refine own_go (fun t k => XS.iinc X63.here hx rfl (hb hby d1_82) rfl (l' := #[.val (.int p1), .val (.int (1 : Int32)), .val (.int (2 : Int32))]) rfl k) ?_
        show own_R p e below _ T63 (mkF m 85 #[.val (.int p1), .val (.int (1 : Int32)), .val (.int (2 : Int32))] [])
        refine own_go (fun t k => XS.goto X63.here hx rfl (pc0 := 85) (pc' := 44) rfl (hb hby d1_85) (by decide) (by decide) k) ?_
        show own_R p e below _ T63 (mkF m 44 #[.val (.int p1), .val (.int (1 : Int32)), .val (.int (2 : Int32))] [])
        refine own_go (fun t k => XS.iloadN X63.here hx rfl (hb hby d1_44) rfl  k) ?_
        show own_R p e below _ T63 (mkF m 45 #[.val (.int p1), .val (.int (1 : Int32)), .val (.int (2 : Int32))] [(.int (1 : Int32))])
        refine own_go (fun t k => XS.ifYes X63.here hx rfl (pc0 := 45) (pc' := 88) rfl (hb hby d1_45) rfl ((if0 _ _).trans (feq (by decide : ¬ ((1 : Int32) = (0 : Int32)))).2) (by decide) (by decide) k) ?_
        show own_R p e below _ T63 (mkF m 88 #[.val (.int p1), .val (.int (1 : Int32)), .val (.int (2 : Int32))] [])
        refine own_go (fun t k => XS.iloadN X63.here hx rfl (hb hby d1_88) rfl  k) ?_
        show own_R p e below _ T63 (mkF m 89 #[.val (.int p1), .val (.int (1 : Int32)), .val (.int (2 : Int32))] [(.int (1 : Int32))])
        refine own_retN X63 hx Bd.returns (by simp) (BodyLoose.notSynchronized Bd) (hb hby d1_89) (by decide) (by decide) ?_
        have z477 : 192 ≤ p1.toInt := own_nlti hc62_61 rfl rfl
        have z478 : p1.toInt ≤ 214 := own_nlti hc73_65 rfl rfl
        exact ⟨by rw [if_pos (Or.inr (Or.inr (Or.inr (Or.inr (Or.inl (⟨by omega, by omega⟩))))))]; rfl, N1, e63⟩
theorem d3_0 : decode method_2_code 0 = .ok (.iload_n 0, 1) := by decide +kernel
theorem d3_1 : decode method_2_code 1 = .ok (.iload_n 1, 1) := by decide +kernel
theorem d3_2 : decode method_2_code 2 = .ok (.if_icmp .lt 12, 3) := by decide +kernel
theorem d3_5 : decode method_2_code 5 = .ok (.iload_n 0, 1) := by decide +kernel
theorem d3_6 : decode method_2_code 6 = .ok (.iload_n 2, 1) := by decide +kernel
theorem d3_7 : decode method_2_code 7 = .ok (.if_icmp .gt 7, 3) := by decide +kernel
theorem d3_10 : decode method_2_code 10 = .ok (.iconst 1, 1) := by decide +kernel
theorem d3_11 : decode method_2_code 11 = .ok (.goto 4, 3) := by decide +kernel
theorem d3_14 : decode method_2_code 14 = .ok (.iconst 0, 1) := by decide +kernel
theorem d3_15 : decode method_2_code 15 = .ok (.ireturn, 1) := by decide +kernel
theorem pn_1 : plainName "com/example/xtd/xtd/model/XmlCharactersIsNameStartPinLaw" = true := by first | (simp [plainName, overriddenIn]; done) | decide +kernel
theorem ef_in3 (m : MethodId) (x0 : Int32) (x1 : Int32) (x2 : Int32) : entryFrame m #[(.int x0), (.int x1), (.int x2)] 3 = mkF m 0 #[.val (.int x0), .val (.int x1), .val (.int x2)] [] := by first | (simp [entryFrame, mkF, argsToLocals, Value.category]; done) | rfl
def Qin3 (Z : State) (p1 : Int32) (p2 : Int32) (p3 : Int32) (h0 : Heap) (n0 : Nat) (v : Option Value) (h : Heap) (L : List Loc) : Prop := v = some (.int (if (Int32.toInt p2 ≤ Int32.toInt p1 ∧ Int32.toInt p1 ≤ Int32.toInt p3) then (1 : Int32) else (0 : Int32))) ∧ Fr n0 L ∧ h = h0
set_option maxRecDepth 65536 in
set_option maxHeartbeats 40000000 in
theorem rmin3 (l : Launch) (Z : State) (a0 : Array Value) (hw : ∀ d ∈ tables_1, d.before a0 Z = true) (ws : List Jvm.Cond) (p1 : Int32) (p2 : Int32) (p3 : Int32) (h0 : Heap) (n0 : Nat) (Z0 : n0 ≤ h0.size) :
    MetFree l (⟨"com/example/xtd/xtd/model/XmlCharactersIsNameStartPinLaw", "within", "(III)Z"⟩ : MethodName) (head1 (Jvm.Cond.code (⟨"com/example/xtd/xtd/model/XmlCharactersIsNameStartPinLaw", "within", "(III)Z"⟩ : MethodName) method_2_code 3 (some .boolean) :: ws) ({ frames := 0, cells := 0, slots := 0, locals := 0 } : Room)) (fun aS U => aS = #[(.int p1), (.int p2), (.int p3)] ∧ Z.Warmed39 U.vm ∧ U.heap = h0) (fun _ _ _ _ _ => True) (fun _ U o U' => ∃ v L, o = .returned v ∧ Qin3 Z p1 p2 p3 h0 n0 v U'.heap L ∧ FrameEnd U o U' L ({ frames := 0, cells := 0, slots := 0, locals := 0 } : Room).cells ({ frames := 0, cells := 0, slots := 0, locals := 0 } : Room).slots) := by
  refine MetFree.of_bodySF (plainFor_of_name pn_1) hisR ?_
  intro p e s m args below meth c s₁ Bd hml0 hP hK
  obtain ⟨rfl, hZ, hh⟩ := hP
  have hx := Bd.exec
  have hby := Bd.bytes
  have hml : c.maxLocals = 3 := hml0
  have hown : s.vm.findClass "com/example/xtd/xtd/model/XmlCharactersIsNameStartPinLaw" = some m.cls := findClass_of_methodNamed Bd.named
  have hnm := (name_of_methodNamed Bd.named Bd.method).1
  have X0 : Stand p l e ({ frames := 0, cells := 0, slots := 0, locals := 0 } : Room) s m #[(.int p1), (.int p2), (.int p3)] below meth c s₁ [] 0 0 := Stand.of_body Bd
  have e0 : s₁.heap = h0 := by rw [← hh, Bd.state]; rfl
  have N0 := Fr.nil n0
  have Kh : Keep h0 h0 [] := Keep.refl _ _
  suffices H : own_R p e below (own_E s below (Qin3 Z p1 p2 p3 h0 n0) ({ frames := 0, cells := 0, slots := 0, locals := 0 } : Room).cells ({ frames := 0, cells := 0, slots := 0, locals := 0 } : Room).slots) s₁ (mkF m 0 #[.val (.int p1), .val (.int p2), .val (.int p3)] []) by
    obtain ⟨t, hst, hrun, v, L, hend, hQ, hF⟩ := H
    exact ⟨t, _, castTop (ef_in3 m p1 p2 p3) hst, hrun, hend, v, L, rfl, hQ, hF⟩
  show own_R p e below _ s₁ (mkF m 0 #[.val (.int p1), .val (.int p2), .val (.int p3)] [])
  refine own_go (fun t k => XS.iloadN X0.here hx rfl (hb hby d3_0) rfl  k) ?_
  show own_R p e below _ s₁ (mkF m 1 #[.val (.int p1), .val (.int p2), .val (.int p3)] [(.int p1)])
  refine own_go (fun t k => XS.iloadN X0.here hx rfl (hb hby d3_1) rfl  k) ?_
  show own_R p e below _ s₁ (mkF m 2 #[.val (.int p1), .val (.int p2), .val (.int p3)] [(.int p2), (.int p1)])
  by_cases hc2_1 : p1 < p2
  · -- pc 2: yes
    refine own_go (fun t k => XS.icmpYes X0.here hx rfl (pc0 := 2) (pc' := 14) rfl (hb hby d3_2) rfl (tlt hc2_1).1 (by decide) (by decide) k) ?_
    show own_R p e below _ s₁ (mkF m 14 #[.val (.int p1), .val (.int p2), .val (.int p3)] [])
    refine own_go (fun t k => XS.iconst X0.here hx rfl (hb hby d3_14) k) ?_
    show own_R p e below _ s₁ (mkF m 15 #[.val (.int p1), .val (.int p2), .val (.int p3)] [(.int (0 : Int32))])
    refine own_retN X0 hx Bd.returns (by simp) (BodyLoose.notSynchronized Bd) (hb hby d3_15) (by decide) (by decide) ?_
    have z2 : p1.toInt < p2.toInt := own_lti hc2_1 rfl rfl
    exact ⟨by rw [if_neg (by omega)]; rfl, N0, e0⟩
  · -- pc 2: no
    refine own_go (fun t k => XS.icmpNo X0.here hx rfl (hb hby d3_2) rfl (flt hc2_1).1 k) ?_
    show own_R p e below _ s₁ (mkF m 5 #[.val (.int p1), .val (.int p2), .val (.int p3)] [])
    refine own_go (fun t k => XS.iloadN X0.here hx rfl (hb hby d3_5) rfl  k) ?_
    show own_R p e below _ s₁ (mkF m 6 #[.val (.int p1), .val (.int p2), .val (.int p3)] [(.int p1)])
    refine own_go (fun t k => XS.iloadN X0.here hx rfl (hb hby d3_6) rfl  k) ?_
    show own_R p e below _ s₁ (mkF m 7 #[.val (.int p1), .val (.int p2), .val (.int p3)] [(.int p3), (.int p1)])
    by_cases hc7_3 : p3 < p1
    · -- pc 7: yes
      refine own_go (fun t k => XS.icmpYes X0.here hx rfl (pc0 := 7) (pc' := 14) rfl (hb hby d3_7) rfl (tlt hc7_3).2.2.1 (by decide) (by decide) k) ?_
      show own_R p e below _ s₁ (mkF m 14 #[.val (.int p1), .val (.int p2), .val (.int p3)] [])
      refine own_go (fun t k => XS.iconst X0.here hx rfl (hb hby d3_14) k) ?_
      show own_R p e below _ s₁ (mkF m 15 #[.val (.int p1), .val (.int p2), .val (.int p3)] [(.int (0 : Int32))])
      refine own_retN X0 hx Bd.returns (by simp) (BodyLoose.notSynchronized Bd) (hb hby d3_15) (by decide) (by decide) ?_
      have z4 : p2.toInt ≤ p1.toInt := own_nlti hc2_1 rfl rfl
      have z5 : p3.toInt < p1.toInt := own_lti hc7_3 rfl rfl
      exact ⟨by rw [if_neg (by omega)]; rfl, N0, e0⟩
    · -- pc 7: no
      refine own_go (fun t k => XS.icmpNo X0.here hx rfl (hb hby d3_7) rfl (flt hc7_3).2.2.1 k) ?_
      show own_R p e below _ s₁ (mkF m 10 #[.val (.int p1), .val (.int p2), .val (.int p3)] [])
      refine own_go (fun t k => XS.iconst X0.here hx rfl (hb hby d3_10) k) ?_
      show own_R p e below _ s₁ (mkF m 11 #[.val (.int p1), .val (.int p2), .val (.int p3)] [(.int (1 : Int32))])
      refine own_go (fun t k => XS.goto X0.here hx rfl (pc0 := 11) (pc' := 15) rfl (hb hby d3_11) (by decide) (by decide) k) ?_
      show own_R p e below _ s₁ (mkF m 15 #[.val (.int p1), .val (.int p2), .val (.int p3)] [(.int (1 : Int32))])
      refine own_retN X0 hx Bd.returns (by simp) (BodyLoose.notSynchronized Bd) (hb hby d3_15) (by decide) (by decide) ?_
      have z6 : p2.toInt ≤ p1.toInt := own_nlti hc2_1 rfl rfl
      have z7 : p1.toInt ≤ p3.toInt := own_nlti hc7_3 rfl rfl
      exact ⟨by rw [if_pos (by omega)]; rfl, N0, e0⟩
theorem d2_0 : decode method_3_code 0 = .ok (.iload_n 0, 1) := by decide +kernel
theorem d2_1 : decode method_3_code 1 = .ok (.bipush 58, 2) := by decide +kernel
theorem d2_3 : decode method_3_code 3 = .ok (.if_icmp .eq 9, 3) := by decide +kernel
theorem d2_6 : decode method_3_code 6 = .ok (.iload_n 0, 1) := by decide +kernel
theorem d2_7 : decode method_3_code 7 = .ok (.bipush 95, 2) := by decide +kernel
theorem d2_9 : decode method_3_code 9 = .ok (.if_icmp .ne 5, 3) := by decide +kernel
theorem d2_12 : decode method_3_code 12 = .ok (.iconst 1, 1) := by decide +kernel
theorem d2_13 : decode method_3_code 13 = .ok (.ireturn, 1) := by decide +kernel
theorem d2_14 : decode method_3_code 14 = .ok (.iload_n 0, 1) := by decide +kernel
theorem d2_15 : decode method_3_code 15 = .ok (.bipush 65, 2) := by decide +kernel
theorem d2_17 : decode method_3_code 17 = .ok (.bipush 90, 2) := by decide +kernel
theorem d2_19 : decode method_3_code 19 = .ok (.invokestatic 7, 3) := by decide +kernel
theorem d2_22 : decode method_3_code 22 = .ok (.ifCond .ne 14, 3) := by decide +kernel
theorem d2_25 : decode method_3_code 25 = .ok (.iload_n 0, 1) := by decide +kernel
theorem d2_26 : decode method_3_code 26 = .ok (.bipush 97, 2) := by decide +kernel
theorem d2_28 : decode method_3_code 28 = .ok (.bipush 122, 2) := by decide +kernel
theorem d2_30 : decode method_3_code 30 = .ok (.invokestatic 7, 3) := by decide +kernel
theorem d2_33 : decode method_3_code 33 = .ok (.ifCond .eq 5, 3) := by decide +kernel
theorem d2_36 : decode method_3_code 36 = .ok (.iconst 1, 1) := by decide +kernel
theorem d2_37 : decode method_3_code 37 = .ok (.ireturn, 1) := by decide +kernel
theorem d2_38 : decode method_3_code 38 = .ok (.iload_n 0, 1) := by decide +kernel
theorem d2_39 : decode method_3_code 39 = .ok (.sipush 192, 3) := by decide +kernel
theorem d2_42 : decode method_3_code 42 = .ok (.sipush 214, 3) := by decide +kernel
theorem d2_45 : decode method_3_code 45 = .ok (.invokestatic 7, 3) := by decide +kernel
theorem d2_48 : decode method_3_code 48 = .ok (.ifCond .ne 29, 3) := by decide +kernel
theorem d2_51 : decode method_3_code 51 = .ok (.iload_n 0, 1) := by decide +kernel
theorem d2_52 : decode method_3_code 52 = .ok (.sipush 216, 3) := by decide +kernel
theorem d2_55 : decode method_3_code 55 = .ok (.sipush 246, 3) := by decide +kernel
theorem d2_58 : decode method_3_code 58 = .ok (.invokestatic 7, 3) := by decide +kernel
theorem d2_61 : decode method_3_code 61 = .ok (.ifCond .ne 16, 3) := by decide +kernel
theorem d2_64 : decode method_3_code 64 = .ok (.iload_n 0, 1) := by decide +kernel
theorem d2_65 : decode method_3_code 65 = .ok (.sipush 248, 3) := by decide +kernel
theorem d2_68 : decode method_3_code 68 = .ok (.sipush 767, 3) := by decide +kernel
theorem d2_71 : decode method_3_code 71 = .ok (.invokestatic 7, 3) := by decide +kernel
theorem d2_74 : decode method_3_code 74 = .ok (.ifCond .eq 5, 3) := by decide +kernel
theorem d2_77 : decode method_3_code 77 = .ok (.iconst 1, 1) := by decide +kernel
theorem d2_78 : decode method_3_code 78 = .ok (.ireturn, 1) := by decide +kernel
theorem d2_79 : decode method_3_code 79 = .ok (.iload_n 0, 1) := by decide +kernel
theorem d2_80 : decode method_3_code 80 = .ok (.sipush 880, 3) := by decide +kernel
theorem d2_83 : decode method_3_code 83 = .ok (.sipush 893, 3) := by decide +kernel
theorem d2_86 : decode method_3_code 86 = .ok (.invokestatic 7, 3) := by decide +kernel
theorem d2_89 : decode method_3_code 89 = .ok (.ifCond .ne 29, 3) := by decide +kernel
theorem d2_92 : decode method_3_code 92 = .ok (.iload_n 0, 1) := by decide +kernel
theorem d2_93 : decode method_3_code 93 = .ok (.sipush 895, 3) := by decide +kernel
theorem d2_96 : decode method_3_code 96 = .ok (.sipush 8191, 3) := by decide +kernel
theorem d2_99 : decode method_3_code 99 = .ok (.invokestatic 7, 3) := by decide +kernel
theorem d2_102 : decode method_3_code 102 = .ok (.ifCond .ne 16, 3) := by decide +kernel
theorem d2_105 : decode method_3_code 105 = .ok (.iload_n 0, 1) := by decide +kernel
theorem d2_106 : decode method_3_code 106 = .ok (.sipush 8204, 3) := by decide +kernel
theorem d2_109 : decode method_3_code 109 = .ok (.sipush 8205, 3) := by decide +kernel
theorem d2_112 : decode method_3_code 112 = .ok (.invokestatic 7, 3) := by decide +kernel
theorem d2_115 : decode method_3_code 115 = .ok (.ifCond .eq 5, 3) := by decide +kernel
theorem d2_118 : decode method_3_code 118 = .ok (.iconst 1, 1) := by decide +kernel
theorem d2_119 : decode method_3_code 119 = .ok (.ireturn, 1) := by decide +kernel
theorem d2_120 : decode method_3_code 120 = .ok (.iload_n 0, 1) := by decide +kernel
theorem d2_121 : decode method_3_code 121 = .ok (.sipush 8304, 3) := by decide +kernel
theorem d2_124 : decode method_3_code 124 = .ok (.sipush 8591, 3) := by decide +kernel
theorem d2_127 : decode method_3_code 127 = .ok (.invokestatic 7, 3) := by decide +kernel
theorem d2_130 : decode method_3_code 130 = .ok (.ifCond .ne 28, 3) := by decide +kernel
theorem d2_133 : decode method_3_code 133 = .ok (.iload_n 0, 1) := by decide +kernel
theorem d2_134 : decode method_3_code 134 = .ok (.sipush 11264, 3) := by decide +kernel
theorem d2_137 : decode method_3_code 137 = .ok (.sipush 12271, 3) := by decide +kernel
theorem d2_140 : decode method_3_code 140 = .ok (.invokestatic 7, 3) := by decide +kernel
theorem d2_143 : decode method_3_code 143 = .ok (.ifCond .ne 15, 3) := by decide +kernel
theorem d2_146 : decode method_3_code 146 = .ok (.iload_n 0, 1) := by decide +kernel
theorem d2_147 : decode method_3_code 147 = .ok (.sipush 12289, 3) := by decide +kernel
theorem d2_150 : decode method_3_code 150 = .ok (.ldc 13, 2) := by decide +kernel
theorem d2_152 : decode method_3_code 152 = .ok (.invokestatic 7, 3) := by decide +kernel
theorem d2_155 : decode method_3_code 155 = .ok (.ifCond .eq 5, 3) := by decide +kernel
theorem d2_158 : decode method_3_code 158 = .ok (.iconst 1, 1) := by decide +kernel
theorem d2_159 : decode method_3_code 159 = .ok (.ireturn, 1) := by decide +kernel
theorem d2_160 : decode method_3_code 160 = .ok (.iload_n 0, 1) := by decide +kernel
theorem d2_161 : decode method_3_code 161 = .ok (.ldc 14, 2) := by decide +kernel
theorem d2_163 : decode method_3_code 163 = .ok (.ldc 15, 2) := by decide +kernel
theorem d2_165 : decode method_3_code 165 = .ok (.invokestatic 7, 3) := by decide +kernel
theorem d2_168 : decode method_3_code 168 = .ok (.ifCond .ne 25, 3) := by decide +kernel
theorem d2_171 : decode method_3_code 171 = .ok (.iload_n 0, 1) := by decide +kernel
theorem d2_172 : decode method_3_code 172 = .ok (.ldc 16, 2) := by decide +kernel
theorem d2_174 : decode method_3_code 174 = .ok (.ldc 17, 2) := by decide +kernel
theorem d2_176 : decode method_3_code 176 = .ok (.invokestatic 7, 3) := by decide +kernel
theorem d2_179 : decode method_3_code 179 = .ok (.ifCond .ne 14, 3) := by decide +kernel
theorem d2_182 : decode method_3_code 182 = .ok (.iload_n 0, 1) := by decide +kernel
theorem d2_183 : decode method_3_code 183 = .ok (.ldc 18, 2) := by decide +kernel
theorem d2_185 : decode method_3_code 185 = .ok (.ldc 19, 2) := by decide +kernel
theorem d2_187 : decode method_3_code 187 = .ok (.invokestatic 7, 3) := by decide +kernel
theorem d2_190 : decode method_3_code 190 = .ok (.ifCond .eq 5, 3) := by decide +kernel
theorem d2_193 : decode method_3_code 193 = .ok (.iconst 1, 1) := by decide +kernel
theorem d2_194 : decode method_3_code 194 = .ok (.ireturn, 1) := by decide +kernel
theorem d2_195 : decode method_3_code 195 = .ok (.iconst 0, 1) := by decide +kernel
theorem d2_196 : decode method_3_code 196 = .ok (.ireturn, 1) := by decide +kernel
theorem ef_refl (m : MethodId) (x0 : Int32) : entryFrame m #[(.int x0)] 1 = mkF m 0 #[.val (.int x0)] [] := by first | (simp [entryFrame, mkF, argsToLocals, Value.category]; done) | rfl
def Qrefl (Z : State) (p1 : Int32) (h0 : Heap) (n0 : Nat) (v : Option Value) (h : Heap) (L : List Loc) : Prop := v = some (.int (if own_l (Int32.toInt p1) then (1 : Int32) else (0 : Int32))) ∧ Fr n0 L ∧ h = h0
set_option maxRecDepth 65536 in
set_option maxHeartbeats 40000000 in
theorem rmrefl (l : Launch) (Z : State) (a0 : Array Value) (hw : ∀ d ∈ tables_1, d.before a0 Z = true) (ws : List Jvm.Cond) (p1 : Int32) (h0 : Heap) (n0 : Nat) (Z0 : n0 ≤ h0.size) :
    MetFree l (⟨"com/example/xtd/xtd/model/XmlCharactersIsNameStartPinLaw", "reference", "(I)Z"⟩ : MethodName) (head1 (Jvm.Cond.code (⟨"com/example/xtd/xtd/model/XmlCharactersIsNameStartPinLaw", "reference", "(I)Z"⟩ : MethodName) method_3_code 1 (some .boolean) :: ws) ({ frames := 1, cells := 0, slots := 0, locals := 14 } : Room)) (fun aS U => aS = #[(.int p1)] ∧ Z.Warmed39 U.vm ∧ U.heap = h0) (fun _ _ _ _ _ => True) (fun _ U o U' => ∃ v L, o = .returned v ∧ Qrefl Z p1 h0 n0 v U'.heap L ∧ FrameEnd U o U' L ({ frames := 1, cells := 0, slots := 0, locals := 14 } : Room).cells ({ frames := 1, cells := 0, slots := 0, locals := 14 } : Room).slots) := by
  refine MetFree.of_bodySF (plainFor_of_name pn_1) hisR ?_
  intro p e s m args below meth c s₁ Bd hml0 hP hK
  obtain ⟨rfl, hZ, hh⟩ := hP
  have hx := Bd.exec
  have hby := Bd.bytes
  have hml : c.maxLocals = 1 := hml0
  have hown : s.vm.findClass "com/example/xtd/xtd/model/XmlCharactersIsNameStartPinLaw" = some m.cls := findClass_of_methodNamed Bd.named
  have hnm := (name_of_methodNamed Bd.named Bd.method).1
  have X0 : Stand p l e ({ frames := 1, cells := 0, slots := 0, locals := 14 } : Room) s m #[(.int p1)] below meth c s₁ [] 0 0 := Stand.of_body Bd
  have e0 : s₁.heap = h0 := by rw [← hh, Bd.state]; rfl
  have N0 := Fr.nil n0
  have Kh : Keep h0 h0 [] := Keep.refl _ _
  suffices H : own_R p e below (own_E s below (Qrefl Z p1 h0 n0) ({ frames := 1, cells := 0, slots := 0, locals := 14 } : Room).cells ({ frames := 1, cells := 0, slots := 0, locals := 14 } : Room).slots) s₁ (mkF m 0 #[.val (.int p1)] []) by
    obtain ⟨t, hst, hrun, v, L, hend, hQ, hF⟩ := H
    exact ⟨t, _, castTop (ef_refl m p1) hst, hrun, hend, v, L, rfl, hQ, hF⟩
  show own_R p e below _ s₁ (mkF m 0 #[.val (.int p1)] [])
  refine own_go (fun t k => XS.iloadN X0.here hx rfl (hb hby d2_0) rfl  k) ?_
  show own_R p e below _ s₁ (mkF m 1 #[.val (.int p1)] [(.int p1)])
  refine own_go (fun t k => XS.bipush X0.here hx rfl (hb hby d2_1) k) ?_
  show own_R p e below _ s₁ (mkF m 3 #[.val (.int p1)] [(.int (58 : Int32)), (.int p1)])
  by_cases hc3_1 : p1 = (58 : Int32)
  · -- pc 3: yes
    refine own_go (fun t k => XS.icmpYes X0.here hx rfl (pc0 := 3) (pc' := 12) rfl (hb hby d2_3) rfl (teq hc3_1).1 (by decide) (by decide) k) ?_
    show own_R p e below _ s₁ (mkF m 12 #[.val (.int p1)] [])
    refine own_go (fun t k => XS.iconst X0.here hx rfl (hb hby d2_12) k) ?_
    show own_R p e below _ s₁ (mkF m 13 #[.val (.int p1)] [(.int (1 : Int32))])
    refine own_retN X0 hx Bd.returns (by simp) (BodyLoose.notSynchronized Bd) (hb hby d2_13) (by decide) (by decide) ?_
    have z2 : p1.toInt = 58 := own_eqi hc3_1 rfl rfl
    exact ⟨by rw [if_pos (Or.inl (⟨by omega, by omega⟩))]; rfl, N0, e0⟩
  · -- pc 3: no
    refine own_go (fun t k => XS.icmpNo X0.here hx rfl (hb hby d2_3) rfl (feq hc3_1).1 k) ?_
    show own_R p e below _ s₁ (mkF m 6 #[.val (.int p1)] [])
    refine own_go (fun t k => XS.iloadN X0.here hx rfl (hb hby d2_6) rfl  k) ?_
    show own_R p e below _ s₁ (mkF m 7 #[.val (.int p1)] [(.int p1)])
    refine own_go (fun t k => XS.bipush X0.here hx rfl (hb hby d2_7) k) ?_
    show own_R p e below _ s₁ (mkF m 9 #[.val (.int p1)] [(.int (95 : Int32)), (.int p1)])
    by_cases hc9_3 : p1 = (95 : Int32)
    · -- pc 9: yes
      refine own_go (fun t k => XS.icmpNo X0.here hx rfl (hb hby d2_9) rfl (teq hc9_3).2 k) ?_
      show own_R p e below _ s₁ (mkF m 12 #[.val (.int p1)] [])
      refine own_go (fun t k => XS.iconst X0.here hx rfl (hb hby d2_12) k) ?_
      show own_R p e below _ s₁ (mkF m 13 #[.val (.int p1)] [(.int (1 : Int32))])
      refine own_retN X0 hx Bd.returns (by simp) (BodyLoose.notSynchronized Bd) (hb hby d2_13) (by decide) (by decide) ?_
      have z4 : p1.toInt ≠ 58 := own_nei hc3_1 rfl rfl
      have z5 : p1.toInt = 95 := own_eqi hc9_3 rfl rfl
      exact ⟨by rw [if_pos (Or.inr (Or.inl (⟨by omega, by omega⟩)))]; rfl, N0, e0⟩
    · -- pc 9: no
      refine own_go (fun t k => XS.icmpYes X0.here hx rfl (pc0 := 9) (pc' := 14) rfl (hb hby d2_9) rfl (feq hc9_3).2 (by decide) (by decide) k) ?_
      show own_R p e below _ s₁ (mkF m 14 #[.val (.int p1)] [])
      refine own_go (fun t k => XS.iloadN X0.here hx rfl (hb hby d2_14) rfl  k) ?_
      show own_R p e below _ s₁ (mkF m 15 #[.val (.int p1)] [(.int p1)])
      refine own_go (fun t k => XS.bipush X0.here hx rfl (hb hby d2_15) k) ?_
      show own_R p e below _ s₁ (mkF m 17 #[.val (.int p1)] [(.int (65 : Int32)), (.int p1)])
      refine own_go (fun t k => XS.bipush X0.here hx rfl (hb hby d2_17) k) ?_
      show own_R p e below _ s₁ (mkF m 19 #[.val (.int p1)] [(.int (90 : Int32)), (.int (65 : Int32)), (.int p1)])
      obtain ⟨_, _, ⟨T6, L6, k6, n6⟩, -, X6, ⟨Lc6, hQ6, l6, y6, z6⟩, st6⟩ := Jvm.LawKit.callS X0 hx (y := (⟨"com/example/xtd/xtd/model/XmlCharactersIsNameStartPinLaw", "within", "(III)Z"⟩ : MethodName)) hown (mvT hZ (hw _ (List.mem_of_getElem? (i := 21) rfl))) (mvT hZ (hw _ (List.mem_of_getElem? (i := 22) rfl))) (mvT hZ (hw _ (List.mem_of_getElem? (i := 19) rfl))) (mvT hZ (hw _ (List.mem_of_getElem? (i := 23) rfl))) (by decide) (backOf (W := 0) (rmin3 l Z a0 hw [] p1 (65 : Int32) (90 : Int32) h0 n0 (Nat.le_trans Z0 Kh.1)) hZ (hw _ (List.mem_of_getElem? (i := 23) rfl)) (hw _ (List.mem_of_getElem? (i := 19) rfl)) (by decide) (by decide)) (g := (mkF m 19 #[.val (.int p1)] [(.int (90 : Int32)), (.int (65 : Int32)), (.int p1)])) rfl (by rw [hml]; rfl) (argsL := [(.int p1), (.int (65 : Int32)), (.int (90 : Int32))]) (rest := []) (lenOf pd_1 rfl) rfl (by show 2 * 0 + _ ≤ _; exact Nat.le_of_eq rfl) (hb hby d2_19) (fun _ _ => ⟨rfl, e0, (by decide : 0 + 0 ≤ _), (by decide : 0 + 0 ≤ _)⟩)
      dsimp only [Pt.U, Pt.locs, Pt.cells, Pt.slots] at X6 l6 y6 z6 st6 hQ6
      subst l6 y6 z6
      obtain ⟨rfl, Nq6, e6⟩ := hQ6
      obtain ⟨Lh6, X6, N6⟩ := own_hide X6 (Fr.app N0 Nq6)
      refine own_go (st6) ?_
      show own_R p e below _ T6 (mkF m 22 #[.val (.int p1)] [(.int (if (Int32.toInt (65 : Int32) ≤ Int32.toInt p1 ∧ Int32.toInt p1 ≤ Int32.toInt (90 : Int32)) then (1 : Int32) else (0 : Int32)))])
      by_cases hc22_7 : (if (Int32.toInt (65 : Int32) ≤ Int32.toInt p1 ∧ Int32.toInt p1 ≤ Int32.toInt (90 : Int32)) then (1 : Int32) else (0 : Int32)) = (0 : Int32)
      · -- pc 22: yes
        refine own_go (fun t k => XS.ifNo X6.here hx rfl (hb hby d2_22) rfl ((if0 _ _).trans (teq hc22_7).2) k) ?_
        show own_R p e below _ T6 (mkF m 25 #[.val (.int p1)] [])
        refine own_go (fun t k => XS.iloadN X6.here hx rfl (hb hby d2_25) rfl  k) ?_
        show own_R p e below _ T6 (mkF m 26 #[.val (.int p1)] [(.int p1)])
        refine own_go (fun t k => XS.bipush X6.here hx rfl (hb hby d2_26) k) ?_
        show own_R p e below _ T6 (mkF m 28 #[.val (.int p1)] [(.int (97 : Int32)), (.int p1)])
        refine own_go (fun t k => XS.bipush X6.here hx rfl (hb hby d2_28) k) ?_
        show own_R p e below _ T6 (mkF m 30 #[.val (.int p1)] [(.int (122 : Int32)), (.int (97 : Int32)), (.int p1)])
        obtain ⟨_, _, ⟨T8, L8, k8, n8⟩, -, X8, ⟨Lc8, hQ8, l8, y8, z8⟩, st8⟩ := Jvm.LawKit.callS X6 hx (y := (⟨"com/example/xtd/xtd/model/XmlCharactersIsNameStartPinLaw", "within", "(III)Z"⟩ : MethodName)) hown (mvT hZ (hw _ (List.mem_of_getElem? (i := 21) rfl))) (mvT hZ (hw _ (List.mem_of_getElem? (i := 22) rfl))) (mvT hZ (hw _ (List.mem_of_getElem? (i := 19) rfl))) (mvT hZ (hw _ (List.mem_of_getElem? (i := 23) rfl))) (by decide) (backOf (W := 0) (rmin3 l Z a0 hw [] p1 (97 : Int32) (122 : Int32) h0 n0 (Nat.le_trans Z0 Kh.1)) hZ (hw _ (List.mem_of_getElem? (i := 23) rfl)) (hw _ (List.mem_of_getElem? (i := 19) rfl)) (by decide) (by decide)) (g := (mkF m 30 #[.val (.int p1)] [(.int (122 : Int32)), (.int (97 : Int32)), (.int p1)])) rfl (by rw [hml]; rfl) (argsL := [(.int p1), (.int (97 : Int32)), (.int (122 : Int32))]) (rest := []) (lenOf pd_1 rfl) rfl (by show 2 * 0 + _ ≤ _; exact Nat.le_of_eq rfl) (hb hby d2_30) (fun _ _ => ⟨rfl, e6, (by decide : 0 + 0 ≤ _), (by decide : 0 + 0 ≤ _)⟩)
        dsimp only [Pt.U, Pt.locs, Pt.cells, Pt.slots] at X8 l8 y8 z8 st8 hQ8
        subst l8 y8 z8
        obtain ⟨rfl, Nq8, e8⟩ := hQ8
        obtain ⟨Lh8, X8, N8⟩ := own_hide X8 (Fr.app N6 Nq8)
        refine own_go (st8) ?_
        show own_R p e below _ T8 (mkF m 33 #[.val (.int p1)] [(.int (if (Int32.toInt (97 : Int32) ≤ Int32.toInt p1 ∧ Int32.toInt p1 ≤ Int32.toInt (122 : Int32)) then (1 : Int32) else (0 : Int32)))])
        by_cases hc33_9 : (if (Int32.toInt (97 : Int32) ≤ Int32.toInt p1 ∧ Int32.toInt p1 ≤ Int32.toInt (122 : Int32)) then (1 : Int32) else (0 : Int32)) = (0 : Int32)
        · -- pc 33: yes
          refine own_go (fun t k => XS.ifYes X8.here hx rfl (pc0 := 33) (pc' := 38) rfl (hb hby d2_33) rfl ((if0 _ _).trans (teq hc33_9).1) (by decide) (by decide) k) ?_
          show own_R p e below _ T8 (mkF m 38 #[.val (.int p1)] [])
          refine own_go (fun t k => XS.iloadN X8.here hx rfl (hb hby d2_38) rfl  k) ?_
          show own_R p e below _ T8 (mkF m 39 #[.val (.int p1)] [(.int p1)])
          refine own_go (fun t k => XS.sipush X8.here hx rfl (hb hby d2_39) k) ?_
          show own_R p e below _ T8 (mkF m 42 #[.val (.int p1)] [(.int (192 : Int32)), (.int p1)])
          refine own_go (fun t k => XS.sipush X8.here hx rfl (hb hby d2_42) k) ?_
          show own_R p e below _ T8 (mkF m 45 #[.val (.int p1)] [(.int (214 : Int32)), (.int (192 : Int32)), (.int p1)])
          obtain ⟨_, _, ⟨T10, L10, k10, n10⟩, -, X10, ⟨Lc10, hQ10, l10, y10, z10⟩, st10⟩ := Jvm.LawKit.callS X8 hx (y := (⟨"com/example/xtd/xtd/model/XmlCharactersIsNameStartPinLaw", "within", "(III)Z"⟩ : MethodName)) hown (mvT hZ (hw _ (List.mem_of_getElem? (i := 21) rfl))) (mvT hZ (hw _ (List.mem_of_getElem? (i := 22) rfl))) (mvT hZ (hw _ (List.mem_of_getElem? (i := 19) rfl))) (mvT hZ (hw _ (List.mem_of_getElem? (i := 23) rfl))) (by decide) (backOf (W := 0) (rmin3 l Z a0 hw [] p1 (192 : Int32) (214 : Int32) h0 n0 (Nat.le_trans Z0 Kh.1)) hZ (hw _ (List.mem_of_getElem? (i := 23) rfl)) (hw _ (List.mem_of_getElem? (i := 19) rfl)) (by decide) (by decide)) (g := (mkF m 45 #[.val (.int p1)] [(.int (214 : Int32)), (.int (192 : Int32)), (.int p1)])) rfl (by rw [hml]; rfl) (argsL := [(.int p1), (.int (192 : Int32)), (.int (214 : Int32))]) (rest := []) (lenOf pd_1 rfl) rfl (by show 2 * 0 + _ ≤ _; exact Nat.le_of_eq rfl) (hb hby d2_45) (fun _ _ => ⟨rfl, e8, (by decide : 0 + 0 ≤ _), (by decide : 0 + 0 ≤ _)⟩)
          dsimp only [Pt.U, Pt.locs, Pt.cells, Pt.slots] at X10 l10 y10 z10 st10 hQ10
          subst l10 y10 z10
          obtain ⟨rfl, Nq10, e10⟩ := hQ10
          obtain ⟨Lh10, X10, N10⟩ := own_hide X10 (Fr.app N8 Nq10)
          refine own_go (st10) ?_
          show own_R p e below _ T10 (mkF m 48 #[.val (.int p1)] [(.int (if (Int32.toInt (192 : Int32) ≤ Int32.toInt p1 ∧ Int32.toInt p1 ≤ Int32.toInt (214 : Int32)) then (1 : Int32) else (0 : Int32)))])
          by_cases hc48_11 : (if (Int32.toInt (192 : Int32) ≤ Int32.toInt p1 ∧ Int32.toInt p1 ≤ Int32.toInt (214 : Int32)) then (1 : Int32) else (0 : Int32)) = (0 : Int32)
          · -- pc 48: yes
            refine own_go (fun t k => XS.ifNo X10.here hx rfl (hb hby d2_48) rfl ((if0 _ _).trans (teq hc48_11).2) k) ?_
            show own_R p e below _ T10 (mkF m 51 #[.val (.int p1)] [])
            refine own_go (fun t k => XS.iloadN X10.here hx rfl (hb hby d2_51) rfl  k) ?_
            show own_R p e below _ T10 (mkF m 52 #[.val (.int p1)] [(.int p1)])
            refine own_go (fun t k => XS.sipush X10.here hx rfl (hb hby d2_52) k) ?_
            show own_R p e below _ T10 (mkF m 55 #[.val (.int p1)] [(.int (216 : Int32)), (.int p1)])
            refine own_go (fun t k => XS.sipush X10.here hx rfl (hb hby d2_55) k) ?_
            show own_R p e below _ T10 (mkF m 58 #[.val (.int p1)] [(.int (246 : Int32)), (.int (216 : Int32)), (.int p1)])
            obtain ⟨_, _, ⟨T12, L12, k12, n12⟩, -, X12, ⟨Lc12, hQ12, l12, y12, z12⟩, st12⟩ := Jvm.LawKit.callS X10 hx (y := (⟨"com/example/xtd/xtd/model/XmlCharactersIsNameStartPinLaw", "within", "(III)Z"⟩ : MethodName)) hown (mvT hZ (hw _ (List.mem_of_getElem? (i := 21) rfl))) (mvT hZ (hw _ (List.mem_of_getElem? (i := 22) rfl))) (mvT hZ (hw _ (List.mem_of_getElem? (i := 19) rfl))) (mvT hZ (hw _ (List.mem_of_getElem? (i := 23) rfl))) (by decide) (backOf (W := 0) (rmin3 l Z a0 hw [] p1 (216 : Int32) (246 : Int32) h0 n0 (Nat.le_trans Z0 Kh.1)) hZ (hw _ (List.mem_of_getElem? (i := 23) rfl)) (hw _ (List.mem_of_getElem? (i := 19) rfl)) (by decide) (by decide)) (g := (mkF m 58 #[.val (.int p1)] [(.int (246 : Int32)), (.int (216 : Int32)), (.int p1)])) rfl (by rw [hml]; rfl) (argsL := [(.int p1), (.int (216 : Int32)), (.int (246 : Int32))]) (rest := []) (lenOf pd_1 rfl) rfl (by show 2 * 0 + _ ≤ _; exact Nat.le_of_eq rfl) (hb hby d2_58) (fun _ _ => ⟨rfl, e10, (by decide : 0 + 0 ≤ _), (by decide : 0 + 0 ≤ _)⟩)
            dsimp only [Pt.U, Pt.locs, Pt.cells, Pt.slots] at X12 l12 y12 z12 st12 hQ12
            subst l12 y12 z12
            obtain ⟨rfl, Nq12, e12⟩ := hQ12
            obtain ⟨Lh12, X12, N12⟩ := own_hide X12 (Fr.app N10 Nq12)
            refine own_go (st12) ?_
            show own_R p e below _ T12 (mkF m 61 #[.val (.int p1)] [(.int (if (Int32.toInt (216 : Int32) ≤ Int32.toInt p1 ∧ Int32.toInt p1 ≤ Int32.toInt (246 : Int32)) then (1 : Int32) else (0 : Int32)))])
            by_cases hc61_13 : (if (Int32.toInt (216 : Int32) ≤ Int32.toInt p1 ∧ Int32.toInt p1 ≤ Int32.toInt (246 : Int32)) then (1 : Int32) else (0 : Int32)) = (0 : Int32)
            · -- pc 61: yes
              refine own_go (fun t k => XS.ifNo X12.here hx rfl (hb hby d2_61) rfl ((if0 _ _).trans (teq hc61_13).2) k) ?_
              show own_R p e below _ T12 (mkF m 64 #[.val (.int p1)] [])
              refine own_go (fun t k => XS.iloadN X12.here hx rfl (hb hby d2_64) rfl  k) ?_
              show own_R p e below _ T12 (mkF m 65 #[.val (.int p1)] [(.int p1)])
              refine own_go (fun t k => XS.sipush X12.here hx rfl (hb hby d2_65) k) ?_
              show own_R p e below _ T12 (mkF m 68 #[.val (.int p1)] [(.int (248 : Int32)), (.int p1)])
              refine own_go (fun t k => XS.sipush X12.here hx rfl (hb hby d2_68) k) ?_
              show own_R p e below _ T12 (mkF m 71 #[.val (.int p1)] [(.int (767 : Int32)), (.int (248 : Int32)), (.int p1)])
              obtain ⟨_, _, ⟨T14, L14, k14, n14⟩, -, X14, ⟨Lc14, hQ14, l14, y14, z14⟩, st14⟩ := Jvm.LawKit.callS X12 hx (y := (⟨"com/example/xtd/xtd/model/XmlCharactersIsNameStartPinLaw", "within", "(III)Z"⟩ : MethodName)) hown (mvT hZ (hw _ (List.mem_of_getElem? (i := 21) rfl))) (mvT hZ (hw _ (List.mem_of_getElem? (i := 22) rfl))) (mvT hZ (hw _ (List.mem_of_getElem? (i := 19) rfl))) (mvT hZ (hw _ (List.mem_of_getElem? (i := 23) rfl))) (by decide) (backOf (W := 0) (rmin3 l Z a0 hw [] p1 (248 : Int32) (767 : Int32) h0 n0 (Nat.le_trans Z0 Kh.1)) hZ (hw _ (List.mem_of_getElem? (i := 23) rfl)) (hw _ (List.mem_of_getElem? (i := 19) rfl)) (by decide) (by decide)) (g := (mkF m 71 #[.val (.int p1)] [(.int (767 : Int32)), (.int (248 : Int32)), (.int p1)])) rfl (by rw [hml]; rfl) (argsL := [(.int p1), (.int (248 : Int32)), (.int (767 : Int32))]) (rest := []) (lenOf pd_1 rfl) rfl (by show 2 * 0 + _ ≤ _; exact Nat.le_of_eq rfl) (hb hby d2_71) (fun _ _ => ⟨rfl, e12, (by decide : 0 + 0 ≤ _), (by decide : 0 + 0 ≤ _)⟩)
              dsimp only [Pt.U, Pt.locs, Pt.cells, Pt.slots] at X14 l14 y14 z14 st14 hQ14
              subst l14 y14 z14
              obtain ⟨rfl, Nq14, e14⟩ := hQ14
              obtain ⟨Lh14, X14, N14⟩ := own_hide X14 (Fr.app N12 Nq14)
              refine own_go (st14) ?_
              show own_R p e below _ T14 (mkF m 74 #[.val (.int p1)] [(.int (if (Int32.toInt (248 : Int32) ≤ Int32.toInt p1 ∧ Int32.toInt p1 ≤ Int32.toInt (767 : Int32)) then (1 : Int32) else (0 : Int32)))])
              by_cases hc74_15 : (if (Int32.toInt (248 : Int32) ≤ Int32.toInt p1 ∧ Int32.toInt p1 ≤ Int32.toInt (767 : Int32)) then (1 : Int32) else (0 : Int32)) = (0 : Int32)
              · -- pc 74: yes
                refine own_go (fun t k => XS.ifYes X14.here hx rfl (pc0 := 74) (pc' := 79) rfl (hb hby d2_74) rfl ((if0 _ _).trans (teq hc74_15).1) (by decide) (by decide) k) ?_
                show own_R p e below _ T14 (mkF m 79 #[.val (.int p1)] [])
                refine own_go (fun t k => XS.iloadN X14.here hx rfl (hb hby d2_79) rfl  k) ?_
                show own_R p e below _ T14 (mkF m 80 #[.val (.int p1)] [(.int p1)])
                refine own_go (fun t k => XS.sipush X14.here hx rfl (hb hby d2_80) k) ?_
                show own_R p e below _ T14 (mkF m 83 #[.val (.int p1)] [(.int (880 : Int32)), (.int p1)])
                refine own_go (fun t k => XS.sipush X14.here hx rfl (hb hby d2_83) k) ?_
                show own_R p e below _ T14 (mkF m 86 #[.val (.int p1)] [(.int (893 : Int32)), (.int (880 : Int32)), (.int p1)])
                obtain ⟨_, _, ⟨T16, L16, k16, n16⟩, -, X16, ⟨Lc16, hQ16, l16, y16, z16⟩, st16⟩ := Jvm.LawKit.callS X14 hx (y := (⟨"com/example/xtd/xtd/model/XmlCharactersIsNameStartPinLaw", "within", "(III)Z"⟩ : MethodName)) hown (mvT hZ (hw _ (List.mem_of_getElem? (i := 21) rfl))) (mvT hZ (hw _ (List.mem_of_getElem? (i := 22) rfl))) (mvT hZ (hw _ (List.mem_of_getElem? (i := 19) rfl))) (mvT hZ (hw _ (List.mem_of_getElem? (i := 23) rfl))) (by decide) (backOf (W := 0) (rmin3 l Z a0 hw [] p1 (880 : Int32) (893 : Int32) h0 n0 (Nat.le_trans Z0 Kh.1)) hZ (hw _ (List.mem_of_getElem? (i := 23) rfl)) (hw _ (List.mem_of_getElem? (i := 19) rfl)) (by decide) (by decide)) (g := (mkF m 86 #[.val (.int p1)] [(.int (893 : Int32)), (.int (880 : Int32)), (.int p1)])) rfl (by rw [hml]; rfl) (argsL := [(.int p1), (.int (880 : Int32)), (.int (893 : Int32))]) (rest := []) (lenOf pd_1 rfl) rfl (by show 2 * 0 + _ ≤ _; exact Nat.le_of_eq rfl) (hb hby d2_86) (fun _ _ => ⟨rfl, e14, (by decide : 0 + 0 ≤ _), (by decide : 0 + 0 ≤ _)⟩)
                dsimp only [Pt.U, Pt.locs, Pt.cells, Pt.slots] at X16 l16 y16 z16 st16 hQ16
                subst l16 y16 z16
                obtain ⟨rfl, Nq16, e16⟩ := hQ16
                obtain ⟨Lh16, X16, N16⟩ := own_hide X16 (Fr.app N14 Nq16)
                refine own_go (st16) ?_
                show own_R p e below _ T16 (mkF m 89 #[.val (.int p1)] [(.int (if (Int32.toInt (880 : Int32) ≤ Int32.toInt p1 ∧ Int32.toInt p1 ≤ Int32.toInt (893 : Int32)) then (1 : Int32) else (0 : Int32)))])
                by_cases hc89_17 : (if (Int32.toInt (880 : Int32) ≤ Int32.toInt p1 ∧ Int32.toInt p1 ≤ Int32.toInt (893 : Int32)) then (1 : Int32) else (0 : Int32)) = (0 : Int32)
                · -- pc 89: yes
                  refine own_go (fun t k => XS.ifNo X16.here hx rfl (hb hby d2_89) rfl ((if0 _ _).trans (teq hc89_17).2) k) ?_
                  show own_R p e below _ T16 (mkF m 92 #[.val (.int p1)] [])
                  refine own_go (fun t k => XS.iloadN X16.here hx rfl (hb hby d2_92) rfl  k) ?_
                  show own_R p e below _ T16 (mkF m 93 #[.val (.int p1)] [(.int p1)])
                  refine own_go (fun t k => XS.sipush X16.here hx rfl (hb hby d2_93) k) ?_
                  show own_R p e below _ T16 (mkF m 96 #[.val (.int p1)] [(.int (895 : Int32)), (.int p1)])
                  refine own_go (fun t k => XS.sipush X16.here hx rfl (hb hby d2_96) k) ?_
                  show own_R p e below _ T16 (mkF m 99 #[.val (.int p1)] [(.int (8191 : Int32)), (.int (895 : Int32)), (.int p1)])
                  obtain ⟨_, _, ⟨T18, L18, k18, n18⟩, -, X18, ⟨Lc18, hQ18, l18, y18, z18⟩, st18⟩ := Jvm.LawKit.callS X16 hx (y := (⟨"com/example/xtd/xtd/model/XmlCharactersIsNameStartPinLaw", "within", "(III)Z"⟩ : MethodName)) hown (mvT hZ (hw _ (List.mem_of_getElem? (i := 21) rfl))) (mvT hZ (hw _ (List.mem_of_getElem? (i := 22) rfl))) (mvT hZ (hw _ (List.mem_of_getElem? (i := 19) rfl))) (mvT hZ (hw _ (List.mem_of_getElem? (i := 23) rfl))) (by decide) (backOf (W := 0) (rmin3 l Z a0 hw [] p1 (895 : Int32) (8191 : Int32) h0 n0 (Nat.le_trans Z0 Kh.1)) hZ (hw _ (List.mem_of_getElem? (i := 23) rfl)) (hw _ (List.mem_of_getElem? (i := 19) rfl)) (by decide) (by decide)) (g := (mkF m 99 #[.val (.int p1)] [(.int (8191 : Int32)), (.int (895 : Int32)), (.int p1)])) rfl (by rw [hml]; rfl) (argsL := [(.int p1), (.int (895 : Int32)), (.int (8191 : Int32))]) (rest := []) (lenOf pd_1 rfl) rfl (by show 2 * 0 + _ ≤ _; exact Nat.le_of_eq rfl) (hb hby d2_99) (fun _ _ => ⟨rfl, e16, (by decide : 0 + 0 ≤ _), (by decide : 0 + 0 ≤ _)⟩)
                  dsimp only [Pt.U, Pt.locs, Pt.cells, Pt.slots] at X18 l18 y18 z18 st18 hQ18
                  subst l18 y18 z18
                  obtain ⟨rfl, Nq18, e18⟩ := hQ18
                  obtain ⟨Lh18, X18, N18⟩ := own_hide X18 (Fr.app N16 Nq18)
                  refine own_go (st18) ?_
                  show own_R p e below _ T18 (mkF m 102 #[.val (.int p1)] [(.int (if (Int32.toInt (895 : Int32) ≤ Int32.toInt p1 ∧ Int32.toInt p1 ≤ Int32.toInt (8191 : Int32)) then (1 : Int32) else (0 : Int32)))])
                  by_cases hc102_19 : (if (Int32.toInt (895 : Int32) ≤ Int32.toInt p1 ∧ Int32.toInt p1 ≤ Int32.toInt (8191 : Int32)) then (1 : Int32) else (0 : Int32)) = (0 : Int32)
                  · -- pc 102: yes
                    refine own_go (fun t k => XS.ifNo X18.here hx rfl (hb hby d2_102) rfl ((if0 _ _).trans (teq hc102_19).2) k) ?_
                    show own_R p e below _ T18 (mkF m 105 #[.val (.int p1)] [])
                    refine own_go (fun t k => XS.iloadN X18.here hx rfl (hb hby d2_105) rfl  k) ?_
                    show own_R p e below _ T18 (mkF m 106 #[.val (.int p1)] [(.int p1)])
                    refine own_go (fun t k => XS.sipush X18.here hx rfl (hb hby d2_106) k) ?_
                    show own_R p e below _ T18 (mkF m 109 #[.val (.int p1)] [(.int (8204 : Int32)), (.int p1)])
                    refine own_go (fun t k => XS.sipush X18.here hx rfl (hb hby d2_109) k) ?_
                    show own_R p e below _ T18 (mkF m 112 #[.val (.int p1)] [(.int (8205 : Int32)), (.int (8204 : Int32)), (.int p1)])
                    obtain ⟨_, _, ⟨T20, L20, k20, n20⟩, -, X20, ⟨Lc20, hQ20, l20, y20, z20⟩, st20⟩ := Jvm.LawKit.callS X18 hx (y := (⟨"com/example/xtd/xtd/model/XmlCharactersIsNameStartPinLaw", "within", "(III)Z"⟩ : MethodName)) hown (mvT hZ (hw _ (List.mem_of_getElem? (i := 21) rfl))) (mvT hZ (hw _ (List.mem_of_getElem? (i := 22) rfl))) (mvT hZ (hw _ (List.mem_of_getElem? (i := 19) rfl))) (mvT hZ (hw _ (List.mem_of_getElem? (i := 23) rfl))) (by decide) (backOf (W := 0) (rmin3 l Z a0 hw [] p1 (8204 : Int32) (8205 : Int32) h0 n0 (Nat.le_trans Z0 Kh.1)) hZ (hw _ (List.mem_of_getElem? (i := 23) rfl)) (hw _ (List.mem_of_getElem? (i := 19) rfl)) (by decide) (by decide)) (g := (mkF m 112 #[.val (.int p1)] [(.int (8205 : Int32)), (.int (8204 : Int32)), (.int p1)])) rfl (by rw [hml]; rfl) (argsL := [(.int p1), (.int (8204 : Int32)), (.int (8205 : Int32))]) (rest := []) (lenOf pd_1 rfl) rfl (by show 2 * 0 + _ ≤ _; exact Nat.le_of_eq rfl) (hb hby d2_112) (fun _ _ => ⟨rfl, e18, (by decide : 0 + 0 ≤ _), (by decide : 0 + 0 ≤ _)⟩)
                    dsimp only [Pt.U, Pt.locs, Pt.cells, Pt.slots] at X20 l20 y20 z20 st20 hQ20
                    subst l20 y20 z20
                    obtain ⟨rfl, Nq20, e20⟩ := hQ20
                    obtain ⟨Lh20, X20, N20⟩ := own_hide X20 (Fr.app N18 Nq20)
                    refine own_go (st20) ?_
                    show own_R p e below _ T20 (mkF m 115 #[.val (.int p1)] [(.int (if (Int32.toInt (8204 : Int32) ≤ Int32.toInt p1 ∧ Int32.toInt p1 ≤ Int32.toInt (8205 : Int32)) then (1 : Int32) else (0 : Int32)))])
                    by_cases hc115_21 : (if (Int32.toInt (8204 : Int32) ≤ Int32.toInt p1 ∧ Int32.toInt p1 ≤ Int32.toInt (8205 : Int32)) then (1 : Int32) else (0 : Int32)) = (0 : Int32)
                    · -- pc 115: yes
                      refine own_go (fun t k => XS.ifYes X20.here hx rfl (pc0 := 115) (pc' := 120) rfl (hb hby d2_115) rfl ((if0 _ _).trans (teq hc115_21).1) (by decide) (by decide) k) ?_
                      show own_R p e below _ T20 (mkF m 120 #[.val (.int p1)] [])
                      refine own_go (fun t k => XS.iloadN X20.here hx rfl (hb hby d2_120) rfl  k) ?_
                      show own_R p e below _ T20 (mkF m 121 #[.val (.int p1)] [(.int p1)])
                      refine own_go (fun t k => XS.sipush X20.here hx rfl (hb hby d2_121) k) ?_
                      show own_R p e below _ T20 (mkF m 124 #[.val (.int p1)] [(.int (8304 : Int32)), (.int p1)])
                      refine own_go (fun t k => XS.sipush X20.here hx rfl (hb hby d2_124) k) ?_
                      show own_R p e below _ T20 (mkF m 127 #[.val (.int p1)] [(.int (8591 : Int32)), (.int (8304 : Int32)), (.int p1)])
                      obtain ⟨_, _, ⟨T22, L22, k22, n22⟩, -, X22, ⟨Lc22, hQ22, l22, y22, z22⟩, st22⟩ := Jvm.LawKit.callS X20 hx (y := (⟨"com/example/xtd/xtd/model/XmlCharactersIsNameStartPinLaw", "within", "(III)Z"⟩ : MethodName)) hown (mvT hZ (hw _ (List.mem_of_getElem? (i := 21) rfl))) (mvT hZ (hw _ (List.mem_of_getElem? (i := 22) rfl))) (mvT hZ (hw _ (List.mem_of_getElem? (i := 19) rfl))) (mvT hZ (hw _ (List.mem_of_getElem? (i := 23) rfl))) (by decide) (backOf (W := 0) (rmin3 l Z a0 hw [] p1 (8304 : Int32) (8591 : Int32) h0 n0 (Nat.le_trans Z0 Kh.1)) hZ (hw _ (List.mem_of_getElem? (i := 23) rfl)) (hw _ (List.mem_of_getElem? (i := 19) rfl)) (by decide) (by decide)) (g := (mkF m 127 #[.val (.int p1)] [(.int (8591 : Int32)), (.int (8304 : Int32)), (.int p1)])) rfl (by rw [hml]; rfl) (argsL := [(.int p1), (.int (8304 : Int32)), (.int (8591 : Int32))]) (rest := []) (lenOf pd_1 rfl) rfl (by show 2 * 0 + _ ≤ _; exact Nat.le_of_eq rfl) (hb hby d2_127) (fun _ _ => ⟨rfl, e20, (by decide : 0 + 0 ≤ _), (by decide : 0 + 0 ≤ _)⟩)
                      dsimp only [Pt.U, Pt.locs, Pt.cells, Pt.slots] at X22 l22 y22 z22 st22 hQ22
                      subst l22 y22 z22
                      obtain ⟨rfl, Nq22, e22⟩ := hQ22
                      obtain ⟨Lh22, X22, N22⟩ := own_hide X22 (Fr.app N20 Nq22)
                      refine own_go (st22) ?_
                      show own_R p e below _ T22 (mkF m 130 #[.val (.int p1)] [(.int (if (Int32.toInt (8304 : Int32) ≤ Int32.toInt p1 ∧ Int32.toInt p1 ≤ Int32.toInt (8591 : Int32)) then (1 : Int32) else (0 : Int32)))])
                      by_cases hc130_23 : (if (Int32.toInt (8304 : Int32) ≤ Int32.toInt p1 ∧ Int32.toInt p1 ≤ Int32.toInt (8591 : Int32)) then (1 : Int32) else (0 : Int32)) = (0 : Int32)
                      · -- pc 130: yes
                        refine own_go (fun t k => XS.ifNo X22.here hx rfl (hb hby d2_130) rfl ((if0 _ _).trans (teq hc130_23).2) k) ?_
                        show own_R p e below _ T22 (mkF m 133 #[.val (.int p1)] [])
                        refine own_go (fun t k => XS.iloadN X22.here hx rfl (hb hby d2_133) rfl  k) ?_
                        show own_R p e below _ T22 (mkF m 134 #[.val (.int p1)] [(.int p1)])
                        refine own_go (fun t k => XS.sipush X22.here hx rfl (hb hby d2_134) k) ?_
                        show own_R p e below _ T22 (mkF m 137 #[.val (.int p1)] [(.int (11264 : Int32)), (.int p1)])
                        refine own_go (fun t k => XS.sipush X22.here hx rfl (hb hby d2_137) k) ?_
                        show own_R p e below _ T22 (mkF m 140 #[.val (.int p1)] [(.int (12271 : Int32)), (.int (11264 : Int32)), (.int p1)])
                        obtain ⟨_, _, ⟨T24, L24, k24, n24⟩, -, X24, ⟨Lc24, hQ24, l24, y24, z24⟩, st24⟩ := Jvm.LawKit.callS X22 hx (y := (⟨"com/example/xtd/xtd/model/XmlCharactersIsNameStartPinLaw", "within", "(III)Z"⟩ : MethodName)) hown (mvT hZ (hw _ (List.mem_of_getElem? (i := 21) rfl))) (mvT hZ (hw _ (List.mem_of_getElem? (i := 22) rfl))) (mvT hZ (hw _ (List.mem_of_getElem? (i := 19) rfl))) (mvT hZ (hw _ (List.mem_of_getElem? (i := 23) rfl))) (by decide) (backOf (W := 0) (rmin3 l Z a0 hw [] p1 (11264 : Int32) (12271 : Int32) h0 n0 (Nat.le_trans Z0 Kh.1)) hZ (hw _ (List.mem_of_getElem? (i := 23) rfl)) (hw _ (List.mem_of_getElem? (i := 19) rfl)) (by decide) (by decide)) (g := (mkF m 140 #[.val (.int p1)] [(.int (12271 : Int32)), (.int (11264 : Int32)), (.int p1)])) rfl (by rw [hml]; rfl) (argsL := [(.int p1), (.int (11264 : Int32)), (.int (12271 : Int32))]) (rest := []) (lenOf pd_1 rfl) rfl (by show 2 * 0 + _ ≤ _; exact Nat.le_of_eq rfl) (hb hby d2_140) (fun _ _ => ⟨rfl, e22, (by decide : 0 + 0 ≤ _), (by decide : 0 + 0 ≤ _)⟩)
                        dsimp only [Pt.U, Pt.locs, Pt.cells, Pt.slots] at X24 l24 y24 z24 st24 hQ24
                        subst l24 y24 z24
                        obtain ⟨rfl, Nq24, e24⟩ := hQ24
                        obtain ⟨Lh24, X24, N24⟩ := own_hide X24 (Fr.app N22 Nq24)
                        refine own_go (st24) ?_
                        show own_R p e below _ T24 (mkF m 143 #[.val (.int p1)] [(.int (if (Int32.toInt (11264 : Int32) ≤ Int32.toInt p1 ∧ Int32.toInt p1 ≤ Int32.toInt (12271 : Int32)) then (1 : Int32) else (0 : Int32)))])
                        by_cases hc143_25 : (if (Int32.toInt (11264 : Int32) ≤ Int32.toInt p1 ∧ Int32.toInt p1 ≤ Int32.toInt (12271 : Int32)) then (1 : Int32) else (0 : Int32)) = (0 : Int32)
                        · -- pc 143: yes
                          refine own_go (fun t k => XS.ifNo X24.here hx rfl (hb hby d2_143) rfl ((if0 _ _).trans (teq hc143_25).2) k) ?_
                          show own_R p e below _ T24 (mkF m 146 #[.val (.int p1)] [])
                          refine own_go (fun t k => XS.iloadN X24.here hx rfl (hb hby d2_146) rfl  k) ?_
                          show own_R p e below _ T24 (mkF m 147 #[.val (.int p1)] [(.int p1)])
                          refine own_go (fun t k => XS.sipush X24.here hx rfl (hb hby d2_147) k) ?_
                          show own_R p e below _ T24 (mkF m 150 #[.val (.int p1)] [(.int (12289 : Int32)), (.int p1)])
                          refine own_go (X24.ldcInt hx hown (mvT hZ (hw _ (List.mem_of_getElem? (i := 1) rfl))) (g := (mkF m 150 #[.val (.int p1)] [(.int (12289 : Int32)), (.int p1)])) rfl (hb hby d2_150)) ?_
                          show own_R p e below _ T24 (mkF m 152 #[.val (.int p1)] [(.int (55295 : Int32)), (.int (12289 : Int32)), (.int p1)])
                          obtain ⟨_, _, ⟨T26, L26, k26, n26⟩, -, X26, ⟨Lc26, hQ26, l26, y26, z26⟩, st26⟩ := Jvm.LawKit.callS X24 hx (y := (⟨"com/example/xtd/xtd/model/XmlCharactersIsNameStartPinLaw", "within", "(III)Z"⟩ : MethodName)) hown (mvT hZ (hw _ (List.mem_of_getElem? (i := 21) rfl))) (mvT hZ (hw _ (List.mem_of_getElem? (i := 22) rfl))) (mvT hZ (hw _ (List.mem_of_getElem? (i := 19) rfl))) (mvT hZ (hw _ (List.mem_of_getElem? (i := 23) rfl))) (by decide) (backOf (W := 0) (rmin3 l Z a0 hw [] p1 (12289 : Int32) (55295 : Int32) h0 n0 (Nat.le_trans Z0 Kh.1)) hZ (hw _ (List.mem_of_getElem? (i := 23) rfl)) (hw _ (List.mem_of_getElem? (i := 19) rfl)) (by decide) (by decide)) (g := (mkF m 152 #[.val (.int p1)] [(.int (55295 : Int32)), (.int (12289 : Int32)), (.int p1)])) rfl (by rw [hml]; rfl) (argsL := [(.int p1), (.int (12289 : Int32)), (.int (55295 : Int32))]) (rest := []) (lenOf pd_1 rfl) rfl (by show 2 * 0 + _ ≤ _; exact Nat.le_of_eq rfl) (hb hby d2_152) (fun _ _ => ⟨rfl, e24, (by decide : 0 + 0 ≤ _), (by decide : 0 + 0 ≤ _)⟩)
                          dsimp only [Pt.U, Pt.locs, Pt.cells, Pt.slots] at X26 l26 y26 z26 st26 hQ26
                          subst l26 y26 z26
                          obtain ⟨rfl, Nq26, e26⟩ := hQ26
                          obtain ⟨Lh26, X26, N26⟩ := own_hide X26 (Fr.app N24 Nq26)
                          refine own_go (st26) ?_
                          show own_R p e below _ T26 (mkF m 155 #[.val (.int p1)] [(.int (if (Int32.toInt (12289 : Int32) ≤ Int32.toInt p1 ∧ Int32.toInt p1 ≤ Int32.toInt (55295 : Int32)) then (1 : Int32) else (0 : Int32)))])
                          by_cases hc155_27 : (if (Int32.toInt (12289 : Int32) ≤ Int32.toInt p1 ∧ Int32.toInt p1 ≤ Int32.toInt (55295 : Int32)) then (1 : Int32) else (0 : Int32)) = (0 : Int32)
                          · -- pc 155: yes
                            refine own_go (fun t k => XS.ifYes X26.here hx rfl (pc0 := 155) (pc' := 160) rfl (hb hby d2_155) rfl ((if0 _ _).trans (teq hc155_27).1) (by decide) (by decide) k) ?_
                            show own_R p e below _ T26 (mkF m 160 #[.val (.int p1)] [])
                            refine own_go (fun t k => XS.iloadN X26.here hx rfl (hb hby d2_160) rfl  k) ?_
                            show own_R p e below _ T26 (mkF m 161 #[.val (.int p1)] [(.int p1)])
                            refine own_go (X26.ldcInt hx hown (mvT hZ (hw _ (List.mem_of_getElem? (i := 2) rfl))) (g := (mkF m 161 #[.val (.int p1)] [(.int p1)])) rfl (hb hby d2_161)) ?_
                            show own_R p e below _ T26 (mkF m 163 #[.val (.int p1)] [(.int (63744 : Int32)), (.int p1)])
                            refine own_go (X26.ldcInt hx hown (mvT hZ (hw _ (List.mem_of_getElem? (i := 3) rfl))) (g := (mkF m 163 #[.val (.int p1)] [(.int (63744 : Int32)), (.int p1)])) rfl (hb hby d2_163)) ?_
                            show own_R p e below _ T26 (mkF m 165 #[.val (.int p1)] [(.int (64975 : Int32)), (.int (63744 : Int32)), (.int p1)])
                            obtain ⟨_, _, ⟨T28, L28, k28, n28⟩, -, X28, ⟨Lc28, hQ28, l28, y28, z28⟩, st28⟩ := Jvm.LawKit.callS X26 hx (y := (⟨"com/example/xtd/xtd/model/XmlCharactersIsNameStartPinLaw", "within", "(III)Z"⟩ : MethodName)) hown (mvT hZ (hw _ (List.mem_of_getElem? (i := 21) rfl))) (mvT hZ (hw _ (List.mem_of_getElem? (i := 22) rfl))) (mvT hZ (hw _ (List.mem_of_getElem? (i := 19) rfl))) (mvT hZ (hw _ (List.mem_of_getElem? (i := 23) rfl))) (by decide) (backOf (W := 0) (rmin3 l Z a0 hw [] p1 (63744 : Int32) (64975 : Int32) h0 n0 (Nat.le_trans Z0 Kh.1)) hZ (hw _ (List.mem_of_getElem? (i := 23) rfl)) (hw _ (List.mem_of_getElem? (i := 19) rfl)) (by decide) (by decide)) (g := (mkF m 165 #[.val (.int p1)] [(.int (64975 : Int32)), (.int (63744 : Int32)), (.int p1)])) rfl (by rw [hml]; rfl) (argsL := [(.int p1), (.int (63744 : Int32)), (.int (64975 : Int32))]) (rest := []) (lenOf pd_1 rfl) rfl (by show 2 * 0 + _ ≤ _; exact Nat.le_of_eq rfl) (hb hby d2_165) (fun _ _ => ⟨rfl, e26, (by decide : 0 + 0 ≤ _), (by decide : 0 + 0 ≤ _)⟩)
                            dsimp only [Pt.U, Pt.locs, Pt.cells, Pt.slots] at X28 l28 y28 z28 st28 hQ28
                            subst l28 y28 z28
                            obtain ⟨rfl, Nq28, e28⟩ := hQ28
                            obtain ⟨Lh28, X28, N28⟩ := own_hide X28 (Fr.app N26 Nq28)
                            refine own_go (st28) ?_
                            show own_R p e below _ T28 (mkF m 168 #[.val (.int p1)] [(.int (if (Int32.toInt (63744 : Int32) ≤ Int32.toInt p1 ∧ Int32.toInt p1 ≤ Int32.toInt (64975 : Int32)) then (1 : Int32) else (0 : Int32)))])
                            by_cases hc168_29 : (if (Int32.toInt (63744 : Int32) ≤ Int32.toInt p1 ∧ Int32.toInt p1 ≤ Int32.toInt (64975 : Int32)) then (1 : Int32) else (0 : Int32)) = (0 : Int32)
                            · -- pc 168: yes
                              refine own_go (fun t k => XS.ifNo X28.here hx rfl (hb hby d2_168) rfl ((if0 _ _).trans (teq hc168_29).2) k) ?_
                              show own_R p e below _ T28 (mkF m 171 #[.val (.int p1)] [])
                              refine own_go (fun t k => XS.iloadN X28.here hx rfl (hb hby d2_171) rfl  k) ?_
                              show own_R p e below _ T28 (mkF m 172 #[.val (.int p1)] [(.int p1)])
                              refine own_go (X28.ldcInt hx hown (mvT hZ (hw _ (List.mem_of_getElem? (i := 4) rfl))) (g := (mkF m 172 #[.val (.int p1)] [(.int p1)])) rfl (hb hby d2_172)) ?_
                              show own_R p e below _ T28 (mkF m 174 #[.val (.int p1)] [(.int (65008 : Int32)), (.int p1)])
                              refine own_go (X28.ldcInt hx hown (mvT hZ (hw _ (List.mem_of_getElem? (i := 5) rfl))) (g := (mkF m 174 #[.val (.int p1)] [(.int (65008 : Int32)), (.int p1)])) rfl (hb hby d2_174)) ?_
                              show own_R p e below _ T28 (mkF m 176 #[.val (.int p1)] [(.int (65533 : Int32)), (.int (65008 : Int32)), (.int p1)])
                              obtain ⟨_, _, ⟨T30, L30, k30, n30⟩, -, X30, ⟨Lc30, hQ30, l30, y30, z30⟩, st30⟩ := Jvm.LawKit.callS X28 hx (y := (⟨"com/example/xtd/xtd/model/XmlCharactersIsNameStartPinLaw", "within", "(III)Z"⟩ : MethodName)) hown (mvT hZ (hw _ (List.mem_of_getElem? (i := 21) rfl))) (mvT hZ (hw _ (List.mem_of_getElem? (i := 22) rfl))) (mvT hZ (hw _ (List.mem_of_getElem? (i := 19) rfl))) (mvT hZ (hw _ (List.mem_of_getElem? (i := 23) rfl))) (by decide) (backOf (W := 0) (rmin3 l Z a0 hw [] p1 (65008 : Int32) (65533 : Int32) h0 n0 (Nat.le_trans Z0 Kh.1)) hZ (hw _ (List.mem_of_getElem? (i := 23) rfl)) (hw _ (List.mem_of_getElem? (i := 19) rfl)) (by decide) (by decide)) (g := (mkF m 176 #[.val (.int p1)] [(.int (65533 : Int32)), (.int (65008 : Int32)), (.int p1)])) rfl (by rw [hml]; rfl) (argsL := [(.int p1), (.int (65008 : Int32)), (.int (65533 : Int32))]) (rest := []) (lenOf pd_1 rfl) rfl (by show 2 * 0 + _ ≤ _; exact Nat.le_of_eq rfl) (hb hby d2_176) (fun _ _ => ⟨rfl, e28, (by decide : 0 + 0 ≤ _), (by decide : 0 + 0 ≤ _)⟩)
                              dsimp only [Pt.U, Pt.locs, Pt.cells, Pt.slots] at X30 l30 y30 z30 st30 hQ30
                              subst l30 y30 z30
                              obtain ⟨rfl, Nq30, e30⟩ := hQ30
                              obtain ⟨Lh30, X30, N30⟩ := own_hide X30 (Fr.app N28 Nq30)
                              refine own_go (st30) ?_
                              show own_R p e below _ T30 (mkF m 179 #[.val (.int p1)] [(.int (if (Int32.toInt (65008 : Int32) ≤ Int32.toInt p1 ∧ Int32.toInt p1 ≤ Int32.toInt (65533 : Int32)) then (1 : Int32) else (0 : Int32)))])
                              by_cases hc179_31 : (if (Int32.toInt (65008 : Int32) ≤ Int32.toInt p1 ∧ Int32.toInt p1 ≤ Int32.toInt (65533 : Int32)) then (1 : Int32) else (0 : Int32)) = (0 : Int32)
                              · -- pc 179: yes
                                refine own_go (fun t k => XS.ifNo X30.here hx rfl (hb hby d2_179) rfl ((if0 _ _).trans (teq hc179_31).2) k) ?_
                                show own_R p e below _ T30 (mkF m 182 #[.val (.int p1)] [])
                                refine own_go (fun t k => XS.iloadN X30.here hx rfl (hb hby d2_182) rfl  k) ?_
                                show own_R p e below _ T30 (mkF m 183 #[.val (.int p1)] [(.int p1)])
                                refine own_go (X30.ldcInt hx hown (mvT hZ (hw _ (List.mem_of_getElem? (i := 6) rfl))) (g := (mkF m 183 #[.val (.int p1)] [(.int p1)])) rfl (hb hby d2_183)) ?_
                                show own_R p e below _ T30 (mkF m 185 #[.val (.int p1)] [(.int (65536 : Int32)), (.int p1)])
                                refine own_go (X30.ldcInt hx hown (mvT hZ (hw _ (List.mem_of_getElem? (i := 7) rfl))) (g := (mkF m 185 #[.val (.int p1)] [(.int (65536 : Int32)), (.int p1)])) rfl (hb hby d2_185)) ?_
                                show own_R p e below _ T30 (mkF m 187 #[.val (.int p1)] [(.int (983039 : Int32)), (.int (65536 : Int32)), (.int p1)])
                                obtain ⟨_, _, ⟨T32, L32, k32, n32⟩, -, X32, ⟨Lc32, hQ32, l32, y32, z32⟩, st32⟩ := Jvm.LawKit.callS X30 hx (y := (⟨"com/example/xtd/xtd/model/XmlCharactersIsNameStartPinLaw", "within", "(III)Z"⟩ : MethodName)) hown (mvT hZ (hw _ (List.mem_of_getElem? (i := 21) rfl))) (mvT hZ (hw _ (List.mem_of_getElem? (i := 22) rfl))) (mvT hZ (hw _ (List.mem_of_getElem? (i := 19) rfl))) (mvT hZ (hw _ (List.mem_of_getElem? (i := 23) rfl))) (by decide) (backOf (W := 0) (rmin3 l Z a0 hw [] p1 (65536 : Int32) (983039 : Int32) h0 n0 (Nat.le_trans Z0 Kh.1)) hZ (hw _ (List.mem_of_getElem? (i := 23) rfl)) (hw _ (List.mem_of_getElem? (i := 19) rfl)) (by decide) (by decide)) (g := (mkF m 187 #[.val (.int p1)] [(.int (983039 : Int32)), (.int (65536 : Int32)), (.int p1)])) rfl (by rw [hml]; rfl) (argsL := [(.int p1), (.int (65536 : Int32)), (.int (983039 : Int32))]) (rest := []) (lenOf pd_1 rfl) rfl (by show 2 * 0 + _ ≤ _; exact Nat.le_of_eq rfl) (hb hby d2_187) (fun _ _ => ⟨rfl, e30, (by decide : 0 + 0 ≤ _), (by decide : 0 + 0 ≤ _)⟩)
                                dsimp only [Pt.U, Pt.locs, Pt.cells, Pt.slots] at X32 l32 y32 z32 st32 hQ32
                                subst l32 y32 z32
                                obtain ⟨rfl, Nq32, e32⟩ := hQ32
                                obtain ⟨Lh32, X32, N32⟩ := own_hide X32 (Fr.app N30 Nq32)
                                refine own_go (st32) ?_
                                show own_R p e below _ T32 (mkF m 190 #[.val (.int p1)] [(.int (if (Int32.toInt (65536 : Int32) ≤ Int32.toInt p1 ∧ Int32.toInt p1 ≤ Int32.toInt (983039 : Int32)) then (1 : Int32) else (0 : Int32)))])
                                by_cases hc190_33 : (if (Int32.toInt (65536 : Int32) ≤ Int32.toInt p1 ∧ Int32.toInt p1 ≤ Int32.toInt (983039 : Int32)) then (1 : Int32) else (0 : Int32)) = (0 : Int32)
                                · -- pc 190: yes
                                  refine own_go (fun t k => XS.ifYes X32.here hx rfl (pc0 := 190) (pc' := 195) rfl (hb hby d2_190) rfl ((if0 _ _).trans (teq hc190_33).1) (by decide) (by decide) k) ?_
                                  show own_R p e below _ T32 (mkF m 195 #[.val (.int p1)] [])
                                  refine own_go (fun t k => XS.iconst X32.here hx rfl (hb hby d2_195) k) ?_
                                  show own_R p e below _ T32 (mkF m 196 #[.val (.int p1)] [(.int (0 : Int32))])
                                  refine own_retN X32 hx Bd.returns (by simp) (BodyLoose.notSynchronized Bd) (hb hby d2_196) (by decide) (by decide) ?_
                                  have z34 : p1.toInt ≠ 58 := own_nei hc3_1 rfl rfl
                                  have z35 : p1.toInt ≠ 95 := own_nei hc9_3 rfl rfl
                                  have z36 : ¬ (65 ≤ p1.toInt ∧ p1.toInt ≤ 90) := own_if0 hc22_7
                                  have z37 : ¬ (97 ≤ p1.toInt ∧ p1.toInt ≤ 122) := own_if0 hc33_9
                                  have z38 : ¬ (192 ≤ p1.toInt ∧ p1.toInt ≤ 214) := own_if0 hc48_11
                                  have z39 : ¬ (216 ≤ p1.toInt ∧ p1.toInt ≤ 246) := own_if0 hc61_13
                                  have z40 : ¬ (248 ≤ p1.toInt ∧ p1.toInt ≤ 767) := own_if0 hc74_15
                                  have z41 : ¬ (880 ≤ p1.toInt ∧ p1.toInt ≤ 893) := own_if0 hc89_17
                                  have z42 : ¬ (895 ≤ p1.toInt ∧ p1.toInt ≤ 8191) := own_if0 hc102_19
                                  have z43 : ¬ (8204 ≤ p1.toInt ∧ p1.toInt ≤ 8205) := own_if0 hc115_21
                                  have z44 : ¬ (8304 ≤ p1.toInt ∧ p1.toInt ≤ 8591) := own_if0 hc130_23
                                  have z45 : ¬ (11264 ≤ p1.toInt ∧ p1.toInt ≤ 12271) := own_if0 hc143_25
                                  have z46 : ¬ (12289 ≤ p1.toInt ∧ p1.toInt ≤ 55295) := own_if0 hc155_27
                                  have z47 : ¬ (63744 ≤ p1.toInt ∧ p1.toInt ≤ 64975) := own_if0 hc168_29
                                  have z48 : ¬ (65008 ≤ p1.toInt ∧ p1.toInt ≤ 65533) := own_if0 hc179_31
                                  have z49 : ¬ (65536 ≤ p1.toInt ∧ p1.toInt ≤ 983039) := own_if0 hc190_33
                                  have hn : ¬ own_l p1.toInt := by
                                    intro q
                                    rcases q with q | q | q | q | q | q | q | q | q | q | q | q | q | q | q | q
                                    · exact z34 (by omega)
                                    · exact z35 (by omega)
                                    · exact z36 q
                                    · exact z37 q
                                    · exact z38 q
                                    · exact z39 q
                                    · exact z40 q
                                    · exact z41 q
                                    · exact z42 q
                                    · exact z43 q
                                    · exact z44 q
                                    · exact z45 q
                                    · exact z46 q
                                    · exact z47 q
                                    · exact z48 q
                                    · exact z49 q
                                  exact ⟨by rw [if_neg hn]; rfl, N32, e32⟩
                                · -- pc 190: no
                                  refine own_go (fun t k => XS.ifNo X32.here hx rfl (hb hby d2_190) rfl ((if0 _ _).trans (feq hc190_33).1) k) ?_
                                  show own_R p e below _ T32 (mkF m 193 #[.val (.int p1)] [])
                                  refine own_go (fun t k => XS.iconst X32.here hx rfl (hb hby d2_193) k) ?_
                                  show own_R p e below _ T32 (mkF m 194 #[.val (.int p1)] [(.int (1 : Int32))])
                                  refine own_retN X32 hx Bd.returns (by simp) (BodyLoose.notSynchronized Bd) (hb hby d2_194) (by decide) (by decide) ?_
                                  have z50 : p1.toInt ≠ 58 := own_nei hc3_1 rfl rfl
                                  have z51 : p1.toInt ≠ 95 := own_nei hc9_3 rfl rfl
                                  have z52 : ¬ (65 ≤ p1.toInt ∧ p1.toInt ≤ 90) := own_if0 hc22_7
                                  have z53 : ¬ (97 ≤ p1.toInt ∧ p1.toInt ≤ 122) := own_if0 hc33_9
                                  have z54 : ¬ (192 ≤ p1.toInt ∧ p1.toInt ≤ 214) := own_if0 hc48_11
                                  have z55 : ¬ (216 ≤ p1.toInt ∧ p1.toInt ≤ 246) := own_if0 hc61_13
                                  have z56 : ¬ (248 ≤ p1.toInt ∧ p1.toInt ≤ 767) := own_if0 hc74_15
                                  have z57 : ¬ (880 ≤ p1.toInt ∧ p1.toInt ≤ 893) := own_if0 hc89_17
                                  have z58 : ¬ (895 ≤ p1.toInt ∧ p1.toInt ≤ 8191) := own_if0 hc102_19
                                  have z59 : ¬ (8204 ≤ p1.toInt ∧ p1.toInt ≤ 8205) := own_if0 hc115_21
                                  have z60 : ¬ (8304 ≤ p1.toInt ∧ p1.toInt ≤ 8591) := own_if0 hc130_23
                                  have z61 : ¬ (11264 ≤ p1.toInt ∧ p1.toInt ≤ 12271) := own_if0 hc143_25
                                  have z62 : ¬ (12289 ≤ p1.toInt ∧ p1.toInt ≤ 55295) := own_if0 hc155_27
                                  have z63 : ¬ (63744 ≤ p1.toInt ∧ p1.toInt ≤ 64975) := own_if0 hc168_29
                                  have z64 : ¬ (65008 ≤ p1.toInt ∧ p1.toInt ≤ 65533) := own_if0 hc179_31
                                  have z65 : (65536 ≤ p1.toInt ∧ p1.toInt ≤ 983039) := own_if1 hc190_33
                                  exact ⟨by rw [if_pos (Or.inr (Or.inr (Or.inr (Or.inr (Or.inr (Or.inr (Or.inr (Or.inr (Or.inr (Or.inr (Or.inr (Or.inr (Or.inr (Or.inr (Or.inr (z65))))))))))))))))]; rfl, N32, e32⟩
                              · -- pc 179: no
                                refine own_go (fun t k => XS.ifYes X30.here hx rfl (pc0 := 179) (pc' := 193) rfl (hb hby d2_179) rfl ((if0 _ _).trans (feq hc179_31).2) (by decide) (by decide) k) ?_
                                show own_R p e below _ T30 (mkF m 193 #[.val (.int p1)] [])
                                refine own_go (fun t k => XS.iconst X30.here hx rfl (hb hby d2_193) k) ?_
                                show own_R p e below _ T30 (mkF m 194 #[.val (.int p1)] [(.int (1 : Int32))])
                                refine own_retN X30 hx Bd.returns (by simp) (BodyLoose.notSynchronized Bd) (hb hby d2_194) (by decide) (by decide) ?_
                                have z66 : p1.toInt ≠ 58 := own_nei hc3_1 rfl rfl
                                have z67 : p1.toInt ≠ 95 := own_nei hc9_3 rfl rfl
                                have z68 : ¬ (65 ≤ p1.toInt ∧ p1.toInt ≤ 90) := own_if0 hc22_7
                                have z69 : ¬ (97 ≤ p1.toInt ∧ p1.toInt ≤ 122) := own_if0 hc33_9
                                have z70 : ¬ (192 ≤ p1.toInt ∧ p1.toInt ≤ 214) := own_if0 hc48_11
                                have z71 : ¬ (216 ≤ p1.toInt ∧ p1.toInt ≤ 246) := own_if0 hc61_13
                                have z72 : ¬ (248 ≤ p1.toInt ∧ p1.toInt ≤ 767) := own_if0 hc74_15
                                have z73 : ¬ (880 ≤ p1.toInt ∧ p1.toInt ≤ 893) := own_if0 hc89_17
                                have z74 : ¬ (895 ≤ p1.toInt ∧ p1.toInt ≤ 8191) := own_if0 hc102_19
                                have z75 : ¬ (8204 ≤ p1.toInt ∧ p1.toInt ≤ 8205) := own_if0 hc115_21
                                have z76 : ¬ (8304 ≤ p1.toInt ∧ p1.toInt ≤ 8591) := own_if0 hc130_23
                                have z77 : ¬ (11264 ≤ p1.toInt ∧ p1.toInt ≤ 12271) := own_if0 hc143_25
                                have z78 : ¬ (12289 ≤ p1.toInt ∧ p1.toInt ≤ 55295) := own_if0 hc155_27
                                have z79 : ¬ (63744 ≤ p1.toInt ∧ p1.toInt ≤ 64975) := own_if0 hc168_29
                                have z80 : (65008 ≤ p1.toInt ∧ p1.toInt ≤ 65533) := own_if1 hc179_31
                                exact ⟨by rw [if_pos (Or.inr (Or.inr (Or.inr (Or.inr (Or.inr (Or.inr (Or.inr (Or.inr (Or.inr (Or.inr (Or.inr (Or.inr (Or.inr (Or.inr (Or.inl (z80))))))))))))))))]; rfl, N30, e30⟩
                            · -- pc 168: no
                              refine own_go (fun t k => XS.ifYes X28.here hx rfl (pc0 := 168) (pc' := 193) rfl (hb hby d2_168) rfl ((if0 _ _).trans (feq hc168_29).2) (by decide) (by decide) k) ?_
                              show own_R p e below _ T28 (mkF m 193 #[.val (.int p1)] [])
                              refine own_go (fun t k => XS.iconst X28.here hx rfl (hb hby d2_193) k) ?_
                              show own_R p e below _ T28 (mkF m 194 #[.val (.int p1)] [(.int (1 : Int32))])
                              refine own_retN X28 hx Bd.returns (by simp) (BodyLoose.notSynchronized Bd) (hb hby d2_194) (by decide) (by decide) ?_
                              have z81 : p1.toInt ≠ 58 := own_nei hc3_1 rfl rfl
                              have z82 : p1.toInt ≠ 95 := own_nei hc9_3 rfl rfl
                              have z83 : ¬ (65 ≤ p1.toInt ∧ p1.toInt ≤ 90) := own_if0 hc22_7
                              have z84 : ¬ (97 ≤ p1.toInt ∧ p1.toInt ≤ 122) := own_if0 hc33_9
                              have z85 : ¬ (192 ≤ p1.toInt ∧ p1.toInt ≤ 214) := own_if0 hc48_11
                              have z86 : ¬ (216 ≤ p1.toInt ∧ p1.toInt ≤ 246) := own_if0 hc61_13
                              have z87 : ¬ (248 ≤ p1.toInt ∧ p1.toInt ≤ 767) := own_if0 hc74_15
                              have z88 : ¬ (880 ≤ p1.toInt ∧ p1.toInt ≤ 893) := own_if0 hc89_17
                              have z89 : ¬ (895 ≤ p1.toInt ∧ p1.toInt ≤ 8191) := own_if0 hc102_19
                              have z90 : ¬ (8204 ≤ p1.toInt ∧ p1.toInt ≤ 8205) := own_if0 hc115_21
                              have z91 : ¬ (8304 ≤ p1.toInt ∧ p1.toInt ≤ 8591) := own_if0 hc130_23
                              have z92 : ¬ (11264 ≤ p1.toInt ∧ p1.toInt ≤ 12271) := own_if0 hc143_25
                              have z93 : ¬ (12289 ≤ p1.toInt ∧ p1.toInt ≤ 55295) := own_if0 hc155_27
                              have z94 : (63744 ≤ p1.toInt ∧ p1.toInt ≤ 64975) := own_if1 hc168_29
                              exact ⟨by rw [if_pos (Or.inr (Or.inr (Or.inr (Or.inr (Or.inr (Or.inr (Or.inr (Or.inr (Or.inr (Or.inr (Or.inr (Or.inr (Or.inr (Or.inl (z94)))))))))))))))]; rfl, N28, e28⟩
                          · -- pc 155: no
                            refine own_go (fun t k => XS.ifNo X26.here hx rfl (hb hby d2_155) rfl ((if0 _ _).trans (feq hc155_27).1) k) ?_
                            show own_R p e below _ T26 (mkF m 158 #[.val (.int p1)] [])
                            refine own_go (fun t k => XS.iconst X26.here hx rfl (hb hby d2_158) k) ?_
                            show own_R p e below _ T26 (mkF m 159 #[.val (.int p1)] [(.int (1 : Int32))])
                            refine own_retN X26 hx Bd.returns (by simp) (BodyLoose.notSynchronized Bd) (hb hby d2_159) (by decide) (by decide) ?_
                            have z95 : p1.toInt ≠ 58 := own_nei hc3_1 rfl rfl
                            have z96 : p1.toInt ≠ 95 := own_nei hc9_3 rfl rfl
                            have z97 : ¬ (65 ≤ p1.toInt ∧ p1.toInt ≤ 90) := own_if0 hc22_7
                            have z98 : ¬ (97 ≤ p1.toInt ∧ p1.toInt ≤ 122) := own_if0 hc33_9
                            have z99 : ¬ (192 ≤ p1.toInt ∧ p1.toInt ≤ 214) := own_if0 hc48_11
                            have z100 : ¬ (216 ≤ p1.toInt ∧ p1.toInt ≤ 246) := own_if0 hc61_13
                            have z101 : ¬ (248 ≤ p1.toInt ∧ p1.toInt ≤ 767) := own_if0 hc74_15
                            have z102 : ¬ (880 ≤ p1.toInt ∧ p1.toInt ≤ 893) := own_if0 hc89_17
                            have z103 : ¬ (895 ≤ p1.toInt ∧ p1.toInt ≤ 8191) := own_if0 hc102_19
                            have z104 : ¬ (8204 ≤ p1.toInt ∧ p1.toInt ≤ 8205) := own_if0 hc115_21
                            have z105 : ¬ (8304 ≤ p1.toInt ∧ p1.toInt ≤ 8591) := own_if0 hc130_23
                            have z106 : ¬ (11264 ≤ p1.toInt ∧ p1.toInt ≤ 12271) := own_if0 hc143_25
                            have z107 : (12289 ≤ p1.toInt ∧ p1.toInt ≤ 55295) := own_if1 hc155_27
                            exact ⟨by rw [if_pos (Or.inr (Or.inr (Or.inr (Or.inr (Or.inr (Or.inr (Or.inr (Or.inr (Or.inr (Or.inr (Or.inr (Or.inr (Or.inl (z107))))))))))))))]; rfl, N26, e26⟩
                        · -- pc 143: no
                          refine own_go (fun t k => XS.ifYes X24.here hx rfl (pc0 := 143) (pc' := 158) rfl (hb hby d2_143) rfl ((if0 _ _).trans (feq hc143_25).2) (by decide) (by decide) k) ?_
                          show own_R p e below _ T24 (mkF m 158 #[.val (.int p1)] [])
                          refine own_go (fun t k => XS.iconst X24.here hx rfl (hb hby d2_158) k) ?_
                          show own_R p e below _ T24 (mkF m 159 #[.val (.int p1)] [(.int (1 : Int32))])
                          refine own_retN X24 hx Bd.returns (by simp) (BodyLoose.notSynchronized Bd) (hb hby d2_159) (by decide) (by decide) ?_
                          have z108 : p1.toInt ≠ 58 := own_nei hc3_1 rfl rfl
                          have z109 : p1.toInt ≠ 95 := own_nei hc9_3 rfl rfl
                          have z110 : ¬ (65 ≤ p1.toInt ∧ p1.toInt ≤ 90) := own_if0 hc22_7
                          have z111 : ¬ (97 ≤ p1.toInt ∧ p1.toInt ≤ 122) := own_if0 hc33_9
                          have z112 : ¬ (192 ≤ p1.toInt ∧ p1.toInt ≤ 214) := own_if0 hc48_11
                          have z113 : ¬ (216 ≤ p1.toInt ∧ p1.toInt ≤ 246) := own_if0 hc61_13
                          have z114 : ¬ (248 ≤ p1.toInt ∧ p1.toInt ≤ 767) := own_if0 hc74_15
                          have z115 : ¬ (880 ≤ p1.toInt ∧ p1.toInt ≤ 893) := own_if0 hc89_17
                          have z116 : ¬ (895 ≤ p1.toInt ∧ p1.toInt ≤ 8191) := own_if0 hc102_19
                          have z117 : ¬ (8204 ≤ p1.toInt ∧ p1.toInt ≤ 8205) := own_if0 hc115_21
                          have z118 : ¬ (8304 ≤ p1.toInt ∧ p1.toInt ≤ 8591) := own_if0 hc130_23
                          have z119 : (11264 ≤ p1.toInt ∧ p1.toInt ≤ 12271) := own_if1 hc143_25
                          exact ⟨by rw [if_pos (Or.inr (Or.inr (Or.inr (Or.inr (Or.inr (Or.inr (Or.inr (Or.inr (Or.inr (Or.inr (Or.inr (Or.inl (z119)))))))))))))]; rfl, N24, e24⟩
                      · -- pc 130: no
                        refine own_go (fun t k => XS.ifYes X22.here hx rfl (pc0 := 130) (pc' := 158) rfl (hb hby d2_130) rfl ((if0 _ _).trans (feq hc130_23).2) (by decide) (by decide) k) ?_
                        show own_R p e below _ T22 (mkF m 158 #[.val (.int p1)] [])
                        refine own_go (fun t k => XS.iconst X22.here hx rfl (hb hby d2_158) k) ?_
                        show own_R p e below _ T22 (mkF m 159 #[.val (.int p1)] [(.int (1 : Int32))])
                        refine own_retN X22 hx Bd.returns (by simp) (BodyLoose.notSynchronized Bd) (hb hby d2_159) (by decide) (by decide) ?_
                        have z120 : p1.toInt ≠ 58 := own_nei hc3_1 rfl rfl
                        have z121 : p1.toInt ≠ 95 := own_nei hc9_3 rfl rfl
                        have z122 : ¬ (65 ≤ p1.toInt ∧ p1.toInt ≤ 90) := own_if0 hc22_7
                        have z123 : ¬ (97 ≤ p1.toInt ∧ p1.toInt ≤ 122) := own_if0 hc33_9
                        have z124 : ¬ (192 ≤ p1.toInt ∧ p1.toInt ≤ 214) := own_if0 hc48_11
                        have z125 : ¬ (216 ≤ p1.toInt ∧ p1.toInt ≤ 246) := own_if0 hc61_13
                        have z126 : ¬ (248 ≤ p1.toInt ∧ p1.toInt ≤ 767) := own_if0 hc74_15
                        have z127 : ¬ (880 ≤ p1.toInt ∧ p1.toInt ≤ 893) := own_if0 hc89_17
                        have z128 : ¬ (895 ≤ p1.toInt ∧ p1.toInt ≤ 8191) := own_if0 hc102_19
                        have z129 : ¬ (8204 ≤ p1.toInt ∧ p1.toInt ≤ 8205) := own_if0 hc115_21
                        have z130 : (8304 ≤ p1.toInt ∧ p1.toInt ≤ 8591) := own_if1 hc130_23
                        exact ⟨by rw [if_pos (Or.inr (Or.inr (Or.inr (Or.inr (Or.inr (Or.inr (Or.inr (Or.inr (Or.inr (Or.inr (Or.inl (z130))))))))))))]; rfl, N22, e22⟩
                    · -- pc 115: no
                      refine own_go (fun t k => XS.ifNo X20.here hx rfl (hb hby d2_115) rfl ((if0 _ _).trans (feq hc115_21).1) k) ?_
                      show own_R p e below _ T20 (mkF m 118 #[.val (.int p1)] [])
                      refine own_go (fun t k => XS.iconst X20.here hx rfl (hb hby d2_118) k) ?_
                      show own_R p e below _ T20 (mkF m 119 #[.val (.int p1)] [(.int (1 : Int32))])
                      refine own_retN X20 hx Bd.returns (by simp) (BodyLoose.notSynchronized Bd) (hb hby d2_119) (by decide) (by decide) ?_
                      have z131 : p1.toInt ≠ 58 := own_nei hc3_1 rfl rfl
                      have z132 : p1.toInt ≠ 95 := own_nei hc9_3 rfl rfl
                      have z133 : ¬ (65 ≤ p1.toInt ∧ p1.toInt ≤ 90) := own_if0 hc22_7
                      have z134 : ¬ (97 ≤ p1.toInt ∧ p1.toInt ≤ 122) := own_if0 hc33_9
                      have z135 : ¬ (192 ≤ p1.toInt ∧ p1.toInt ≤ 214) := own_if0 hc48_11
                      have z136 : ¬ (216 ≤ p1.toInt ∧ p1.toInt ≤ 246) := own_if0 hc61_13
                      have z137 : ¬ (248 ≤ p1.toInt ∧ p1.toInt ≤ 767) := own_if0 hc74_15
                      have z138 : ¬ (880 ≤ p1.toInt ∧ p1.toInt ≤ 893) := own_if0 hc89_17
                      have z139 : ¬ (895 ≤ p1.toInt ∧ p1.toInt ≤ 8191) := own_if0 hc102_19
                      have z140 : (8204 ≤ p1.toInt ∧ p1.toInt ≤ 8205) := own_if1 hc115_21
                      exact ⟨by rw [if_pos (Or.inr (Or.inr (Or.inr (Or.inr (Or.inr (Or.inr (Or.inr (Or.inr (Or.inr (Or.inl (z140)))))))))))]; rfl, N20, e20⟩
                  · -- pc 102: no
                    refine own_go (fun t k => XS.ifYes X18.here hx rfl (pc0 := 102) (pc' := 118) rfl (hb hby d2_102) rfl ((if0 _ _).trans (feq hc102_19).2) (by decide) (by decide) k) ?_
                    show own_R p e below _ T18 (mkF m 118 #[.val (.int p1)] [])
                    refine own_go (fun t k => XS.iconst X18.here hx rfl (hb hby d2_118) k) ?_
                    show own_R p e below _ T18 (mkF m 119 #[.val (.int p1)] [(.int (1 : Int32))])
                    refine own_retN X18 hx Bd.returns (by simp) (BodyLoose.notSynchronized Bd) (hb hby d2_119) (by decide) (by decide) ?_
                    have z141 : p1.toInt ≠ 58 := own_nei hc3_1 rfl rfl
                    have z142 : p1.toInt ≠ 95 := own_nei hc9_3 rfl rfl
                    have z143 : ¬ (65 ≤ p1.toInt ∧ p1.toInt ≤ 90) := own_if0 hc22_7
                    have z144 : ¬ (97 ≤ p1.toInt ∧ p1.toInt ≤ 122) := own_if0 hc33_9
                    have z145 : ¬ (192 ≤ p1.toInt ∧ p1.toInt ≤ 214) := own_if0 hc48_11
                    have z146 : ¬ (216 ≤ p1.toInt ∧ p1.toInt ≤ 246) := own_if0 hc61_13
                    have z147 : ¬ (248 ≤ p1.toInt ∧ p1.toInt ≤ 767) := own_if0 hc74_15
                    have z148 : ¬ (880 ≤ p1.toInt ∧ p1.toInt ≤ 893) := own_if0 hc89_17
                    have z149 : (895 ≤ p1.toInt ∧ p1.toInt ≤ 8191) := own_if1 hc102_19
                    exact ⟨by rw [if_pos (Or.inr (Or.inr (Or.inr (Or.inr (Or.inr (Or.inr (Or.inr (Or.inr (Or.inl (z149))))))))))]; rfl, N18, e18⟩
                · -- pc 89: no
                  refine own_go (fun t k => XS.ifYes X16.here hx rfl (pc0 := 89) (pc' := 118) rfl (hb hby d2_89) rfl ((if0 _ _).trans (feq hc89_17).2) (by decide) (by decide) k) ?_
                  show own_R p e below _ T16 (mkF m 118 #[.val (.int p1)] [])
                  refine own_go (fun t k => XS.iconst X16.here hx rfl (hb hby d2_118) k) ?_
                  show own_R p e below _ T16 (mkF m 119 #[.val (.int p1)] [(.int (1 : Int32))])
                  refine own_retN X16 hx Bd.returns (by simp) (BodyLoose.notSynchronized Bd) (hb hby d2_119) (by decide) (by decide) ?_
                  have z150 : p1.toInt ≠ 58 := own_nei hc3_1 rfl rfl
                  have z151 : p1.toInt ≠ 95 := own_nei hc9_3 rfl rfl
                  have z152 : ¬ (65 ≤ p1.toInt ∧ p1.toInt ≤ 90) := own_if0 hc22_7
                  have z153 : ¬ (97 ≤ p1.toInt ∧ p1.toInt ≤ 122) := own_if0 hc33_9
                  have z154 : ¬ (192 ≤ p1.toInt ∧ p1.toInt ≤ 214) := own_if0 hc48_11
                  have z155 : ¬ (216 ≤ p1.toInt ∧ p1.toInt ≤ 246) := own_if0 hc61_13
                  have z156 : ¬ (248 ≤ p1.toInt ∧ p1.toInt ≤ 767) := own_if0 hc74_15
                  have z157 : (880 ≤ p1.toInt ∧ p1.toInt ≤ 893) := own_if1 hc89_17
                  exact ⟨by rw [if_pos (Or.inr (Or.inr (Or.inr (Or.inr (Or.inr (Or.inr (Or.inr (Or.inl (z157)))))))))]; rfl, N16, e16⟩
              · -- pc 74: no
                refine own_go (fun t k => XS.ifNo X14.here hx rfl (hb hby d2_74) rfl ((if0 _ _).trans (feq hc74_15).1) k) ?_
                show own_R p e below _ T14 (mkF m 77 #[.val (.int p1)] [])
                refine own_go (fun t k => XS.iconst X14.here hx rfl (hb hby d2_77) k) ?_
                show own_R p e below _ T14 (mkF m 78 #[.val (.int p1)] [(.int (1 : Int32))])
                refine own_retN X14 hx Bd.returns (by simp) (BodyLoose.notSynchronized Bd) (hb hby d2_78) (by decide) (by decide) ?_
                have z158 : p1.toInt ≠ 58 := own_nei hc3_1 rfl rfl
                have z159 : p1.toInt ≠ 95 := own_nei hc9_3 rfl rfl
                have z160 : ¬ (65 ≤ p1.toInt ∧ p1.toInt ≤ 90) := own_if0 hc22_7
                have z161 : ¬ (97 ≤ p1.toInt ∧ p1.toInt ≤ 122) := own_if0 hc33_9
                have z162 : ¬ (192 ≤ p1.toInt ∧ p1.toInt ≤ 214) := own_if0 hc48_11
                have z163 : ¬ (216 ≤ p1.toInt ∧ p1.toInt ≤ 246) := own_if0 hc61_13
                have z164 : (248 ≤ p1.toInt ∧ p1.toInt ≤ 767) := own_if1 hc74_15
                exact ⟨by rw [if_pos (Or.inr (Or.inr (Or.inr (Or.inr (Or.inr (Or.inr (Or.inl (z164))))))))]; rfl, N14, e14⟩
            · -- pc 61: no
              refine own_go (fun t k => XS.ifYes X12.here hx rfl (pc0 := 61) (pc' := 77) rfl (hb hby d2_61) rfl ((if0 _ _).trans (feq hc61_13).2) (by decide) (by decide) k) ?_
              show own_R p e below _ T12 (mkF m 77 #[.val (.int p1)] [])
              refine own_go (fun t k => XS.iconst X12.here hx rfl (hb hby d2_77) k) ?_
              show own_R p e below _ T12 (mkF m 78 #[.val (.int p1)] [(.int (1 : Int32))])
              refine own_retN X12 hx Bd.returns (by simp) (BodyLoose.notSynchronized Bd) (hb hby d2_78) (by decide) (by decide) ?_
              have z165 : p1.toInt ≠ 58 := own_nei hc3_1 rfl rfl
              have z166 : p1.toInt ≠ 95 := own_nei hc9_3 rfl rfl
              have z167 : ¬ (65 ≤ p1.toInt ∧ p1.toInt ≤ 90) := own_if0 hc22_7
              have z168 : ¬ (97 ≤ p1.toInt ∧ p1.toInt ≤ 122) := own_if0 hc33_9
              have z169 : ¬ (192 ≤ p1.toInt ∧ p1.toInt ≤ 214) := own_if0 hc48_11
              have z170 : (216 ≤ p1.toInt ∧ p1.toInt ≤ 246) := own_if1 hc61_13
              exact ⟨by rw [if_pos (Or.inr (Or.inr (Or.inr (Or.inr (Or.inr (Or.inl (z170)))))))]; rfl, N12, e12⟩
          · -- pc 48: no
            refine own_go (fun t k => XS.ifYes X10.here hx rfl (pc0 := 48) (pc' := 77) rfl (hb hby d2_48) rfl ((if0 _ _).trans (feq hc48_11).2) (by decide) (by decide) k) ?_
            show own_R p e below _ T10 (mkF m 77 #[.val (.int p1)] [])
            refine own_go (fun t k => XS.iconst X10.here hx rfl (hb hby d2_77) k) ?_
            show own_R p e below _ T10 (mkF m 78 #[.val (.int p1)] [(.int (1 : Int32))])
            refine own_retN X10 hx Bd.returns (by simp) (BodyLoose.notSynchronized Bd) (hb hby d2_78) (by decide) (by decide) ?_
            have z171 : p1.toInt ≠ 58 := own_nei hc3_1 rfl rfl
            have z172 : p1.toInt ≠ 95 := own_nei hc9_3 rfl rfl
            have z173 : ¬ (65 ≤ p1.toInt ∧ p1.toInt ≤ 90) := own_if0 hc22_7
            have z174 : ¬ (97 ≤ p1.toInt ∧ p1.toInt ≤ 122) := own_if0 hc33_9
            have z175 : (192 ≤ p1.toInt ∧ p1.toInt ≤ 214) := own_if1 hc48_11
            exact ⟨by rw [if_pos (Or.inr (Or.inr (Or.inr (Or.inr (Or.inl (z175))))))]; rfl, N10, e10⟩
        · -- pc 33: no
          refine own_go (fun t k => XS.ifNo X8.here hx rfl (hb hby d2_33) rfl ((if0 _ _).trans (feq hc33_9).1) k) ?_
          show own_R p e below _ T8 (mkF m 36 #[.val (.int p1)] [])
          refine own_go (fun t k => XS.iconst X8.here hx rfl (hb hby d2_36) k) ?_
          show own_R p e below _ T8 (mkF m 37 #[.val (.int p1)] [(.int (1 : Int32))])
          refine own_retN X8 hx Bd.returns (by simp) (BodyLoose.notSynchronized Bd) (hb hby d2_37) (by decide) (by decide) ?_
          have z176 : p1.toInt ≠ 58 := own_nei hc3_1 rfl rfl
          have z177 : p1.toInt ≠ 95 := own_nei hc9_3 rfl rfl
          have z178 : ¬ (65 ≤ p1.toInt ∧ p1.toInt ≤ 90) := own_if0 hc22_7
          have z179 : (97 ≤ p1.toInt ∧ p1.toInt ≤ 122) := own_if1 hc33_9
          exact ⟨by rw [if_pos (Or.inr (Or.inr (Or.inr (Or.inl (z179)))))]; rfl, N8, e8⟩
      · -- pc 22: no
        refine own_go (fun t k => XS.ifYes X6.here hx rfl (pc0 := 22) (pc' := 36) rfl (hb hby d2_22) rfl ((if0 _ _).trans (feq hc22_7).2) (by decide) (by decide) k) ?_
        show own_R p e below _ T6 (mkF m 36 #[.val (.int p1)] [])
        refine own_go (fun t k => XS.iconst X6.here hx rfl (hb hby d2_36) k) ?_
        show own_R p e below _ T6 (mkF m 37 #[.val (.int p1)] [(.int (1 : Int32))])
        refine own_retN X6 hx Bd.returns (by simp) (BodyLoose.notSynchronized Bd) (hb hby d2_37) (by decide) (by decide) ?_
        have z180 : p1.toInt ≠ 58 := own_nei hc3_1 rfl rfl
        have z181 : p1.toInt ≠ 95 := own_nei hc9_3 rfl rfl
        have z182 : (65 ≤ p1.toInt ∧ p1.toInt ≤ 90) := own_if1 hc22_7
        exact ⟨by rw [if_pos (Or.inr (Or.inr (Or.inl (z182))))]; rfl, N6, e6⟩
theorem own_idx (k : Int32) : ¬ ((k &&& (2147483647 : Int32)) % (34 : Int32)) < 0 ∧ ((k &&& (2147483647 : Int32)) % (34 : Int32)) < (34 : Int32) := by
  have h := c_mask k 2147483647 31 (by decide) rfl
  have g := (c_irem (k &&& 2147483647) 34 34 rfl).1 (by omega)
  have a : (0 : Int32).toInt = 0 := rfl
  have b : (34 : Int32).toInt = 34 := rfl
  constructor <;> rw [Int32.lt_iff_toInt_lt] <;> omega
theorem ef_0 (m : MethodId) (x0 : Int32) (x1 : Int32) : entryFrame m #[(.int x0), (.int x1)] maxLocals = mkF m 0 #[.val (.int x0), .val (.int x1), .unset, .unset, .unset, .unset, .unset, .unset] [] := by first | (simp [entryFrame, mkF, argsToLocals, Value.category, maxLocals]; done) | rfl
def Q0 (Z : State) (p1 : Int32) (p2 : Int32) (w : Addr) (kw : ClassId) (h0 : Heap) (n0 : Nat) (v : Option Value) (h : Heap) (L : List Loc) : Prop := v = some (.int (1 : Int32)) ∧ Fr n0 L
set_option maxRecDepth 65536 in
set_option maxHeartbeats 40000000 in
theorem rm0 (l : Launch) (Z : State) (a0 : Array Value) (hw : ∀ d ∈ tables_1, d.before a0 Z = true) (ws : List Jvm.Cond) (p1 : Int32) (p2 : Int32) (w : Addr) (kw : ClassId) (h0 : Heap) (n0 : Nat) (Z0 : n0 ≤ h0.size) (V_w : Arv Z h0 w kw .int (24 : Int32) [(.int (192 : Int32)), (.int (214 : Int32)), (.int (216 : Int32)), (.int (246 : Int32)), (.int (248 : Int32)), (.int (767 : Int32)), (.int (880 : Int32)), (.int (893 : Int32)), (.int (895 : Int32)), (.int (8191 : Int32)), (.int (8204 : Int32)), (.int (8205 : Int32)), (.int (8304 : Int32)), (.int (8591 : Int32)), (.int (11264 : Int32)), (.int (12271 : Int32)), (.int (12289 : Int32)), (.int (55295 : Int32)), (.int (63744 : Int32)), (.int (64975 : Int32)), (.int (65008 : Int32)), (.int (65533 : Int32)), (.int (65536 : Int32)), (.int (983039 : Int32))] (.int (0 : Int32))) (S_NAME_START_RANGES : Sta Z h0 "com/example/xtd/xtd/model/XmlCharacters" "NAME_START_RANGES" "[I" (.ref w)) :
    MetFree l x (head1 (Jvm.Cond.code x code maxLocals ret :: ws) room_1) (fun aS U => aS = #[(.int p1), (.int p2)] ∧ Z.Warmed39 U.vm ∧ U.heap = h0) (fun _ _ _ _ _ => True) (fun _ U o U' => ∃ v L, o = .returned v ∧ Q0 Z p1 p2 w kw h0 n0 v U'.heap L ∧ FrameEnd U o U' L room_1.cells room_1.slots) := by
  refine MetFree.of_bodySF (plainFor_of_name pn_1) hisR ?_
  intro p e s m args below meth c s₁ Bd hml0 hP hK
  obtain ⟨rfl, hZ, hh⟩ := hP
  have hx := Bd.exec
  have hby := Bd.bytes
  have hml : c.maxLocals = 8 := hml0
  have hown : s.vm.findClass "com/example/xtd/xtd/model/XmlCharactersIsNameStartPinLaw" = some m.cls := findClass_of_methodNamed Bd.named
  have hnm := (name_of_methodNamed Bd.named Bd.method).1
  have X0 : Stand p l e room_1 s m #[(.int p1), (.int p2)] below meth c s₁ [] 0 0 := Stand.of_body Bd
  have e0 : s₁.heap = h0 := by rw [← hh, Bd.state]; rfl
  have N0 := Fr.nil n0
  have Kh : Keep h0 h0 [] := Keep.refl _ _
  suffices H : own_R p e below (own_E s below (Q0 Z p1 p2 w kw h0 n0) room_1.cells room_1.slots) s₁ (mkF m 0 #[.val (.int p1), .val (.int p2), .unset, .unset, .unset, .unset, .unset, .unset] []) by
    obtain ⟨t, hst, hrun, v, L, hend, hQ, hF⟩ := H
    exact ⟨t, _, castTop (ef_0 m p1 p2) hst, hrun, hend, v, L, rfl, hQ, hF⟩
  show own_R p e below _ s₁ (mkF m 0 #[.val (.int p1), .val (.int p2), .unset, .unset, .unset, .unset, .unset, .unset] [])
  refine own_go (fun t k => XS.bipush X0.here hx rfl (hb hby at_0) k) ?_
  show own_R p e below _ s₁ (mkF m 2 #[.val (.int p1), .val (.int p2), .unset, .unset, .unset, .unset, .unset, .unset] [(.int (34 : Int32))])
  obtain ⟨T1, h1, k1, X1, e1, E1, A1, st1⟩ := newP X0 hx hZ (hw _ (List.mem_of_getElem? (i := 0) rfl)) e0 (g := (mkF m 2 #[.val (.int p1), .val (.int p2), .unset, .unset, .unset, .unset, .unset, .unset] [(.int (34 : Int32))])) rfl (hb hby at_2) rfl (by decide) (cap := 34) (by decide) (by decide) (by decide) (by decide)
  obtain ⟨b1, g1⟩ : ∃ z, z = h0.size := ⟨_, rfl⟩
  rw [← g1] at A1 st1
  have g_b1 : n0 ≤ b1 := Nat.le_trans (Nat.le_trans Z0 Kh.1) (Nat.le_of_eq g1.symm)
  have sz_b1 : h0.size ≤ b1 := Nat.le_trans Kh.1 (Nat.le_of_eq g1.symm)
  have ne_w_b1 : w ≠ b1 := Nat.ne_of_lt (Nat.lt_of_lt_of_le V_w.lt (Nat.le_of_eq g1.symm))
  replace V_w := V_w.ext E1
  replace S_NAME_START_RANGES := Sta.ext E1 S_NAME_START_RANGES
  replace Kh := Kh.ext E1
  have V_b1 : Arv Z h1 b1 k1 .int (34 : Int32) [(.int (0 : Int32)), (.int (0 : Int32)), (.int (0 : Int32)), (.int (0 : Int32)), (.int (0 : Int32)), (.int (0 : Int32)), (.int (0 : Int32)), (.int (0 : Int32)), (.int (0 : Int32)), (.int (0 : Int32)), (.int (0 : Int32)), (.int (0 : Int32)), (.int (0 : Int32)), (.int (0 : Int32)), (.int (0 : Int32)), (.int (0 : Int32)), (.int (0 : Int32)), (.int (0 : Int32)), (.int (0 : Int32)), (.int (0 : Int32)), (.int (0 : Int32)), (.int (0 : Int32)), (.int (0 : Int32)), (.int (0 : Int32)), (.int (0 : Int32)), (.int (0 : Int32)), (.int (0 : Int32)), (.int (0 : Int32)), (.int (0 : Int32)), (.int (0 : Int32)), (.int (0 : Int32)), (.int (0 : Int32)), (.int (0 : Int32)), (.int (0 : Int32))] (.int (0 : Int32)) := (Arv.new A1 (by decide)).pad (pad_rep [] (.int (0 : Int32)) 34)
  refine own_go (st1) ?_
  show own_R p e below _ T1 (mkF m 4 #[.val (.int p1), .val (.int p2), .unset, .unset, .unset, .unset, .unset, .unset] [(.ref b1)])
  refine own_go (fun t k => XS.dup X1.here hx rfl (hb hby at_4) rfl rfl k) ?_
  show own_R p e below _ T1 (mkF m 5 #[.val (.int p1), .val (.int p2), .unset, .unset, .unset, .unset, .unset, .unset] [(.ref b1), (.ref b1)])
  refine own_go (fun t k => XS.iconst X1.here hx rfl (hb hby at_5) k) ?_
  show own_R p e below _ T1 (mkF m 6 #[.val (.int p1), .val (.int p2), .unset, .unset, .unset, .unset, .unset, .unset] [(.int (0 : Int32)), (.ref b1), (.ref b1)])
  refine own_go (fun t k => XS.bipush X1.here hx rfl (hb hby at_6) k) ?_
  show own_R p e below _ T1 (mkF m 8 #[.val (.int p1), .val (.int p2), .unset, .unset, .unset, .unset, .unset, .unset] [(.int (58 : Int32)), (.int (0 : Int32)), (.ref b1), (.ref b1)])
  obtain ⟨cl2, Ar2, q2, S2, Nn2, Hh2, G2⟩ := id V_b1
  have hin2 : ¬ ((0 : Int32) < 0 ∨ cl2.slots.size ≤ ((0 : Int32)).toNatClampNeg) := inb_of S2 ⟨by decide, by decide⟩
  obtain ⟨T3, h3, X3, e3, W3, st3⟩ := stI X1 hx hZ e1 Ar2 (j := (0 : Int32)) hin2 (g := (mkF m 8 #[.val (.int p1), .val (.int p2), .unset, .unset, .unset, .unset, .unset, .unset] [(.int (58 : Int32)), (.int (0 : Int32)), (.ref b1), (.ref b1)])) rfl rfl (hb hby at_8)
  obtain ⟨Lh3, X3, N3⟩ := own_hide X3 (Fr.snoc X3 N0 g_b1)
  replace Kh := Kh.wr W3 (Or.inr sz_b1)
  replace V_w := Arv.other V_w W3 ne_w_b1
  replace S_NAME_START_RANGES := Sta.wr W3 S_NAME_START_RANGES
  have V_b1_3 : Arv Z h3 b1 k1 .int (34 : Int32) [(.int (58 : Int32)), (.int (0 : Int32)), (.int (0 : Int32)), (.int (0 : Int32)), (.int (0 : Int32)), (.int (0 : Int32)), (.int (0 : Int32)), (.int (0 : Int32)), (.int (0 : Int32)), (.int (0 : Int32)), (.int (0 : Int32)), (.int (0 : Int32)), (.int (0 : Int32)), (.int (0 : Int32)), (.int (0 : Int32)), (.int (0 : Int32)), (.int (0 : Int32)), (.int (0 : Int32)), (.int (0 : Int32)), (.int (0 : Int32)), (.int (0 : Int32)), (.int (0 : Int32)), (.int (0 : Int32)), (.int (0 : Int32)), (.int (0 : Int32)), (.int (0 : Int32)), (.int (0 : Int32)), (.int (0 : Int32)), (.int (0 : Int32)), (.int (0 : Int32)), (.int (0 : Int32)), (.int (0 : Int32)), (.int (0 : Int32)), (.int (0 : Int32))] (.int (0 : Int32)) := Arv.set Ar2 q2 S2 Nn2 Hh2 G2 rfl W3 0 rfl (Nat.le_of_ble_eq_true rfl)
  refine own_go (st3) ?_
  show own_R p e below _ T3 (mkF m 9 #[.val (.int p1), .val (.int p2), .unset, .unset, .unset, .unset, .unset, .unset] [(.ref b1)])
  refine own_go (fun t k => XS.dup X3.here hx rfl (hb hby at_9) rfl rfl k) ?_
  show own_R p e below _ T3 (mkF m 10 #[.val (.int p1), .val (.int p2), .unset, .unset, .unset, .unset, .unset, .unset] [(.ref b1), (.ref b1)])
  refine own_go (fun t k => XS.iconst X3.here hx rfl (hb hby at_10) k) ?_
  show own_R p e below _ T3 (mkF m 11 #[.val (.int p1), .val (.int p2), .unset, .unset, .unset, .unset, .unset, .unset] [(.int (1 : Int32)), (.ref b1), (.ref b1)])
  refine own_go (fun t k => XS.bipush X3.here hx rfl (hb hby at_11) k) ?_
  show own_R p e below _ T3 (mkF m 13 #[.val (.int p1), .val (.int p2), .unset, .unset, .unset, .unset, .unset, .unset] [(.int (95 : Int32)), (.int (1 : Int32)), (.ref b1), (.ref b1)])
  obtain ⟨cl4, Ar4, q4, S4, Nn4, Hh4, G4⟩ := id V_b1_3
  have hin4 : ¬ ((1 : Int32) < 0 ∨ cl4.slots.size ≤ ((1 : Int32)).toNatClampNeg) := inb_of S4 ⟨by decide, by decide⟩
  obtain ⟨T5, h5, X5, e5, W5, st5⟩ := stI X3 hx hZ e3 Ar4 (j := (1 : Int32)) hin4 (g := (mkF m 13 #[.val (.int p1), .val (.int p2), .unset, .unset, .unset, .unset, .unset, .unset] [(.int (95 : Int32)), (.int (1 : Int32)), (.ref b1), (.ref b1)])) rfl rfl (hb hby at_13)
  obtain ⟨Lh5, X5, N5⟩ := own_hide X5 (Fr.snoc X5 N3 g_b1)
  replace Kh := Kh.wr W5 (Or.inr sz_b1)
  replace V_w := Arv.other V_w W5 ne_w_b1
  replace S_NAME_START_RANGES := Sta.wr W5 S_NAME_START_RANGES
  have V_b1_5 : Arv Z h5 b1 k1 .int (34 : Int32) [(.int (58 : Int32)), (.int (95 : Int32)), (.int (0 : Int32)), (.int (0 : Int32)), (.int (0 : Int32)), (.int (0 : Int32)), (.int (0 : Int32)), (.int (0 : Int32)), (.int (0 : Int32)), (.int (0 : Int32)), (.int (0 : Int32)), (.int (0 : Int32)), (.int (0 : Int32)), (.int (0 : Int32)), (.int (0 : Int32)), (.int (0 : Int32)), (.int (0 : Int32)), (.int (0 : Int32)), (.int (0 : Int32)), (.int (0 : Int32)), (.int (0 : Int32)), (.int (0 : Int32)), (.int (0 : Int32)), (.int (0 : Int32)), (.int (0 : Int32)), (.int (0 : Int32)), (.int (0 : Int32)), (.int (0 : Int32)), (.int (0 : Int32)), (.int (0 : Int32)), (.int (0 : Int32)), (.int (0 : Int32)), (.int (0 : Int32)), (.int (0 : Int32))] (.int (0 : Int32)) := Arv.set Ar4 q4 S4 Nn4 Hh4 G4 rfl W5 1 rfl (Nat.le_of_ble_eq_true rfl)
  refine own_go (st5) ?_
  show own_R p e below _ T5 (mkF m 14 #[.val (.int p1), .val (.int p2), .unset, .unset, .unset, .unset, .unset, .unset] [(.ref b1)])
  refine own_go (fun t k => XS.dup X5.here hx rfl (hb hby at_14) rfl rfl k) ?_
  show own_R p e below _ T5 (mkF m 15 #[.val (.int p1), .val (.int p2), .unset, .unset, .unset, .unset, .unset, .unset] [(.ref b1), (.ref b1)])
  refine own_go (fun t k => XS.iconst X5.here hx rfl (hb hby at_15) k) ?_
  show own_R p e below _ T5 (mkF m 16 #[.val (.int p1), .val (.int p2), .unset, .unset, .unset, .unset, .unset, .unset] [(.int (2 : Int32)), (.ref b1), (.ref b1)])
  refine own_go (fun t k => XS.bipush X5.here hx rfl (hb hby at_16) k) ?_
  show own_R p e below _ T5 (mkF m 18 #[.val (.int p1), .val (.int p2), .unset, .unset, .unset, .unset, .unset, .unset] [(.int (65 : Int32)), (.int (2 : Int32)), (.ref b1), (.ref b1)])
  obtain ⟨cl6, Ar6, q6, S6, Nn6, Hh6, G6⟩ := id V_b1_5
  have hin6 : ¬ ((2 : Int32) < 0 ∨ cl6.slots.size ≤ ((2 : Int32)).toNatClampNeg) := inb_of S6 ⟨by decide, by decide⟩
  obtain ⟨T7, h7, X7, e7, W7, st7⟩ := stI X5 hx hZ e5 Ar6 (j := (2 : Int32)) hin6 (g := (mkF m 18 #[.val (.int p1), .val (.int p2), .unset, .unset, .unset, .unset, .unset, .unset] [(.int (65 : Int32)), (.int (2 : Int32)), (.ref b1), (.ref b1)])) rfl rfl (hb hby at_18)
  obtain ⟨Lh7, X7, N7⟩ := own_hide X7 (Fr.snoc X7 N5 g_b1)
  replace Kh := Kh.wr W7 (Or.inr sz_b1)
  replace V_w := Arv.other V_w W7 ne_w_b1
  replace S_NAME_START_RANGES := Sta.wr W7 S_NAME_START_RANGES
  have V_b1_7 : Arv Z h7 b1 k1 .int (34 : Int32) [(.int (58 : Int32)), (.int (95 : Int32)), (.int (65 : Int32)), (.int (0 : Int32)), (.int (0 : Int32)), (.int (0 : Int32)), (.int (0 : Int32)), (.int (0 : Int32)), (.int (0 : Int32)), (.int (0 : Int32)), (.int (0 : Int32)), (.int (0 : Int32)), (.int (0 : Int32)), (.int (0 : Int32)), (.int (0 : Int32)), (.int (0 : Int32)), (.int (0 : Int32)), (.int (0 : Int32)), (.int (0 : Int32)), (.int (0 : Int32)), (.int (0 : Int32)), (.int (0 : Int32)), (.int (0 : Int32)), (.int (0 : Int32)), (.int (0 : Int32)), (.int (0 : Int32)), (.int (0 : Int32)), (.int (0 : Int32)), (.int (0 : Int32)), (.int (0 : Int32)), (.int (0 : Int32)), (.int (0 : Int32)), (.int (0 : Int32)), (.int (0 : Int32))] (.int (0 : Int32)) := Arv.set Ar6 q6 S6 Nn6 Hh6 G6 rfl W7 2 rfl (Nat.le_of_ble_eq_true rfl)
  refine own_go (st7) ?_
  show own_R p e below _ T7 (mkF m 19 #[.val (.int p1), .val (.int p2), .unset, .unset, .unset, .unset, .unset, .unset] [(.ref b1)])
  refine own_go (fun t k => XS.dup X7.here hx rfl (hb hby at_19) rfl rfl k) ?_
  show own_R p e below _ T7 (mkF m 20 #[.val (.int p1), .val (.int p2), .unset, .unset, .unset, .unset, .unset, .unset] [(.ref b1), (.ref b1)])
  refine own_go (fun t k => XS.iconst X7.here hx rfl (hb hby at_20) k) ?_
  show own_R p e below _ T7 (mkF m 21 #[.val (.int p1), .val (.int p2), .unset, .unset, .unset, .unset, .unset, .unset] [(.int (3 : Int32)), (.ref b1), (.ref b1)])
  refine own_go (fun t k => XS.bipush X7.here hx rfl (hb hby at_21) k) ?_
  show own_R p e below _ T7 (mkF m 23 #[.val (.int p1), .val (.int p2), .unset, .unset, .unset, .unset, .unset, .unset] [(.int (90 : Int32)), (.int (3 : Int32)), (.ref b1), (.ref b1)])
  obtain ⟨cl8, Ar8, q8, S8, Nn8, Hh8, G8⟩ := id V_b1_7
  have hin8 : ¬ ((3 : Int32) < 0 ∨ cl8.slots.size ≤ ((3 : Int32)).toNatClampNeg) := inb_of S8 ⟨by decide, by decide⟩
  obtain ⟨T9, h9, X9, e9, W9, st9⟩ := stI X7 hx hZ e7 Ar8 (j := (3 : Int32)) hin8 (g := (mkF m 23 #[.val (.int p1), .val (.int p2), .unset, .unset, .unset, .unset, .unset, .unset] [(.int (90 : Int32)), (.int (3 : Int32)), (.ref b1), (.ref b1)])) rfl rfl (hb hby at_23)
  obtain ⟨Lh9, X9, N9⟩ := own_hide X9 (Fr.snoc X9 N7 g_b1)
  replace Kh := Kh.wr W9 (Or.inr sz_b1)
  replace V_w := Arv.other V_w W9 ne_w_b1
  replace S_NAME_START_RANGES := Sta.wr W9 S_NAME_START_RANGES
  have V_b1_9 : Arv Z h9 b1 k1 .int (34 : Int32) [(.int (58 : Int32)), (.int (95 : Int32)), (.int (65 : Int32)), (.int (90 : Int32)), (.int (0 : Int32)), (.int (0 : Int32)), (.int (0 : Int32)), (.int (0 : Int32)), (.int (0 : Int32)), (.int (0 : Int32)), (.int (0 : Int32)), (.int (0 : Int32)), (.int (0 : Int32)), (.int (0 : Int32)), (.int (0 : Int32)), (.int (0 : Int32)), (.int (0 : Int32)), (.int (0 : Int32)), (.int (0 : Int32)), (.int (0 : Int32)), (.int (0 : Int32)), (.int (0 : Int32)), (.int (0 : Int32)), (.int (0 : Int32)), (.int (0 : Int32)), (.int (0 : Int32)), (.int (0 : Int32)), (.int (0 : Int32)), (.int (0 : Int32)), (.int (0 : Int32)), (.int (0 : Int32)), (.int (0 : Int32)), (.int (0 : Int32)), (.int (0 : Int32))] (.int (0 : Int32)) := Arv.set Ar8 q8 S8 Nn8 Hh8 G8 rfl W9 3 rfl (Nat.le_of_ble_eq_true rfl)
  refine own_go (st9) ?_
  show own_R p e below _ T9 (mkF m 24 #[.val (.int p1), .val (.int p2), .unset, .unset, .unset, .unset, .unset, .unset] [(.ref b1)])
  refine own_go (fun t k => XS.dup X9.here hx rfl (hb hby at_24) rfl rfl k) ?_
  show own_R p e below _ T9 (mkF m 25 #[.val (.int p1), .val (.int p2), .unset, .unset, .unset, .unset, .unset, .unset] [(.ref b1), (.ref b1)])
  refine own_go (fun t k => XS.iconst X9.here hx rfl (hb hby at_25) k) ?_
  show own_R p e below _ T9 (mkF m 26 #[.val (.int p1), .val (.int p2), .unset, .unset, .unset, .unset, .unset, .unset] [(.int (4 : Int32)), (.ref b1), (.ref b1)])
  refine own_go (fun t k => XS.bipush X9.here hx rfl (hb hby at_26) k) ?_
  show own_R p e below _ T9 (mkF m 28 #[.val (.int p1), .val (.int p2), .unset, .unset, .unset, .unset, .unset, .unset] [(.int (97 : Int32)), (.int (4 : Int32)), (.ref b1), (.ref b1)])
  obtain ⟨cl10, Ar10, q10, S10, Nn10, Hh10, G10⟩ := id V_b1_9
  have hin10 : ¬ ((4 : Int32) < 0 ∨ cl10.slots.size ≤ ((4 : Int32)).toNatClampNeg) := inb_of S10 ⟨by decide, by decide⟩
  obtain ⟨T11, h11, X11, e11, W11, st11⟩ := stI X9 hx hZ e9 Ar10 (j := (4 : Int32)) hin10 (g := (mkF m 28 #[.val (.int p1), .val (.int p2), .unset, .unset, .unset, .unset, .unset, .unset] [(.int (97 : Int32)), (.int (4 : Int32)), (.ref b1), (.ref b1)])) rfl rfl (hb hby at_28)
  obtain ⟨Lh11, X11, N11⟩ := own_hide X11 (Fr.snoc X11 N9 g_b1)
  replace Kh := Kh.wr W11 (Or.inr sz_b1)
  replace V_w := Arv.other V_w W11 ne_w_b1
  replace S_NAME_START_RANGES := Sta.wr W11 S_NAME_START_RANGES
  have V_b1_11 : Arv Z h11 b1 k1 .int (34 : Int32) [(.int (58 : Int32)), (.int (95 : Int32)), (.int (65 : Int32)), (.int (90 : Int32)), (.int (97 : Int32)), (.int (0 : Int32)), (.int (0 : Int32)), (.int (0 : Int32)), (.int (0 : Int32)), (.int (0 : Int32)), (.int (0 : Int32)), (.int (0 : Int32)), (.int (0 : Int32)), (.int (0 : Int32)), (.int (0 : Int32)), (.int (0 : Int32)), (.int (0 : Int32)), (.int (0 : Int32)), (.int (0 : Int32)), (.int (0 : Int32)), (.int (0 : Int32)), (.int (0 : Int32)), (.int (0 : Int32)), (.int (0 : Int32)), (.int (0 : Int32)), (.int (0 : Int32)), (.int (0 : Int32)), (.int (0 : Int32)), (.int (0 : Int32)), (.int (0 : Int32)), (.int (0 : Int32)), (.int (0 : Int32)), (.int (0 : Int32)), (.int (0 : Int32))] (.int (0 : Int32)) := Arv.set Ar10 q10 S10 Nn10 Hh10 G10 rfl W11 4 rfl (Nat.le_of_ble_eq_true rfl)
  refine own_go (st11) ?_
  show own_R p e below _ T11 (mkF m 29 #[.val (.int p1), .val (.int p2), .unset, .unset, .unset, .unset, .unset, .unset] [(.ref b1)])
  refine own_go (fun t k => XS.dup X11.here hx rfl (hb hby at_29) rfl rfl k) ?_
  show own_R p e below _ T11 (mkF m 30 #[.val (.int p1), .val (.int p2), .unset, .unset, .unset, .unset, .unset, .unset] [(.ref b1), (.ref b1)])
  refine own_go (fun t k => XS.iconst X11.here hx rfl (hb hby at_30) k) ?_
  show own_R p e below _ T11 (mkF m 31 #[.val (.int p1), .val (.int p2), .unset, .unset, .unset, .unset, .unset, .unset] [(.int (5 : Int32)), (.ref b1), (.ref b1)])
  refine own_go (fun t k => XS.bipush X11.here hx rfl (hb hby at_31) k) ?_
  show own_R p e below _ T11 (mkF m 33 #[.val (.int p1), .val (.int p2), .unset, .unset, .unset, .unset, .unset, .unset] [(.int (122 : Int32)), (.int (5 : Int32)), (.ref b1), (.ref b1)])
  obtain ⟨cl12, Ar12, q12, S12, Nn12, Hh12, G12⟩ := id V_b1_11
  have hin12 : ¬ ((5 : Int32) < 0 ∨ cl12.slots.size ≤ ((5 : Int32)).toNatClampNeg) := inb_of S12 ⟨by decide, by decide⟩
  obtain ⟨T13, h13, X13, e13, W13, st13⟩ := stI X11 hx hZ e11 Ar12 (j := (5 : Int32)) hin12 (g := (mkF m 33 #[.val (.int p1), .val (.int p2), .unset, .unset, .unset, .unset, .unset, .unset] [(.int (122 : Int32)), (.int (5 : Int32)), (.ref b1), (.ref b1)])) rfl rfl (hb hby at_33)
  obtain ⟨Lh13, X13, N13⟩ := own_hide X13 (Fr.snoc X13 N11 g_b1)
  replace Kh := Kh.wr W13 (Or.inr sz_b1)
  replace V_w := Arv.other V_w W13 ne_w_b1
  replace S_NAME_START_RANGES := Sta.wr W13 S_NAME_START_RANGES
  have V_b1_13 : Arv Z h13 b1 k1 .int (34 : Int32) [(.int (58 : Int32)), (.int (95 : Int32)), (.int (65 : Int32)), (.int (90 : Int32)), (.int (97 : Int32)), (.int (122 : Int32)), (.int (0 : Int32)), (.int (0 : Int32)), (.int (0 : Int32)), (.int (0 : Int32)), (.int (0 : Int32)), (.int (0 : Int32)), (.int (0 : Int32)), (.int (0 : Int32)), (.int (0 : Int32)), (.int (0 : Int32)), (.int (0 : Int32)), (.int (0 : Int32)), (.int (0 : Int32)), (.int (0 : Int32)), (.int (0 : Int32)), (.int (0 : Int32)), (.int (0 : Int32)), (.int (0 : Int32)), (.int (0 : Int32)), (.int (0 : Int32)), (.int (0 : Int32)), (.int (0 : Int32)), (.int (0 : Int32)), (.int (0 : Int32)), (.int (0 : Int32)), (.int (0 : Int32)), (.int (0 : Int32)), (.int (0 : Int32))] (.int (0 : Int32)) := Arv.set Ar12 q12 S12 Nn12 Hh12 G12 rfl W13 5 rfl (Nat.le_of_ble_eq_true rfl)
  refine own_go (st13) ?_
  show own_R p e below _ T13 (mkF m 34 #[.val (.int p1), .val (.int p2), .unset, .unset, .unset, .unset, .unset, .unset] [(.ref b1)])
  refine own_go (fun t k => XS.dup X13.here hx rfl (hb hby at_34) rfl rfl k) ?_
  show own_R p e below _ T13 (mkF m 35 #[.val (.int p1), .val (.int p2), .unset, .unset, .unset, .unset, .unset, .unset] [(.ref b1), (.ref b1)])
  refine own_go (fun t k => XS.bipush X13.here hx rfl (hb hby at_35) k) ?_
  show own_R p e below _ T13 (mkF m 37 #[.val (.int p1), .val (.int p2), .unset, .unset, .unset, .unset, .unset, .unset] [(.int (6 : Int32)), (.ref b1), (.ref b1)])
  refine own_go (fun t k => XS.sipush X13.here hx rfl (hb hby at_37) k) ?_
  show own_R p e below _ T13 (mkF m 40 #[.val (.int p1), .val (.int p2), .unset, .unset, .unset, .unset, .unset, .unset] [(.int (192 : Int32)), (.int (6 : Int32)), (.ref b1), (.ref b1)])
  obtain ⟨cl14, Ar14, q14, S14, Nn14, Hh14, G14⟩ := id V_b1_13
  have hin14 : ¬ ((6 : Int32) < 0 ∨ cl14.slots.size ≤ ((6 : Int32)).toNatClampNeg) := inb_of S14 ⟨by decide, by decide⟩
  obtain ⟨T15, h15, X15, e15, W15, st15⟩ := stI X13 hx hZ e13 Ar14 (j := (6 : Int32)) hin14 (g := (mkF m 40 #[.val (.int p1), .val (.int p2), .unset, .unset, .unset, .unset, .unset, .unset] [(.int (192 : Int32)), (.int (6 : Int32)), (.ref b1), (.ref b1)])) rfl rfl (hb hby at_40)
  obtain ⟨Lh15, X15, N15⟩ := own_hide X15 (Fr.snoc X15 N13 g_b1)
  replace Kh := Kh.wr W15 (Or.inr sz_b1)
  replace V_w := Arv.other V_w W15 ne_w_b1
  replace S_NAME_START_RANGES := Sta.wr W15 S_NAME_START_RANGES
  have V_b1_15 : Arv Z h15 b1 k1 .int (34 : Int32) [(.int (58 : Int32)), (.int (95 : Int32)), (.int (65 : Int32)), (.int (90 : Int32)), (.int (97 : Int32)), (.int (122 : Int32)), (.int (192 : Int32)), (.int (0 : Int32)), (.int (0 : Int32)), (.int (0 : Int32)), (.int (0 : Int32)), (.int (0 : Int32)), (.int (0 : Int32)), (.int (0 : Int32)), (.int (0 : Int32)), (.int (0 : Int32)), (.int (0 : Int32)), (.int (0 : Int32)), (.int (0 : Int32)), (.int (0 : Int32)), (.int (0 : Int32)), (.int (0 : Int32)), (.int (0 : Int32)), (.int (0 : Int32)), (.int (0 : Int32)), (.int (0 : Int32)), (.int (0 : Int32)), (.int (0 : Int32)), (.int (0 : Int32)), (.int (0 : Int32)), (.int (0 : Int32)), (.int (0 : Int32)), (.int (0 : Int32)), (.int (0 : Int32))] (.int (0 : Int32)) := Arv.set Ar14 q14 S14 Nn14 Hh14 G14 rfl W15 6 rfl (Nat.le_of_ble_eq_true rfl)
  refine own_go (st15) ?_
  show own_R p e below _ T15 (mkF m 41 #[.val (.int p1), .val (.int p2), .unset, .unset, .unset, .unset, .unset, .unset] [(.ref b1)])
  refine own_go (fun t k => XS.dup X15.here hx rfl (hb hby at_41) rfl rfl k) ?_
  show own_R p e below _ T15 (mkF m 42 #[.val (.int p1), .val (.int p2), .unset, .unset, .unset, .unset, .unset, .unset] [(.ref b1), (.ref b1)])
  refine own_go (fun t k => XS.bipush X15.here hx rfl (hb hby at_42) k) ?_
  show own_R p e below _ T15 (mkF m 44 #[.val (.int p1), .val (.int p2), .unset, .unset, .unset, .unset, .unset, .unset] [(.int (7 : Int32)), (.ref b1), (.ref b1)])
  refine own_go (fun t k => XS.sipush X15.here hx rfl (hb hby at_44) k) ?_
  show own_R p e below _ T15 (mkF m 47 #[.val (.int p1), .val (.int p2), .unset, .unset, .unset, .unset, .unset, .unset] [(.int (214 : Int32)), (.int (7 : Int32)), (.ref b1), (.ref b1)])
  obtain ⟨cl16, Ar16, q16, S16, Nn16, Hh16, G16⟩ := id V_b1_15
  have hin16 : ¬ ((7 : Int32) < 0 ∨ cl16.slots.size ≤ ((7 : Int32)).toNatClampNeg) := inb_of S16 ⟨by decide, by decide⟩
  obtain ⟨T17, h17, X17, e17, W17, st17⟩ := stI X15 hx hZ e15 Ar16 (j := (7 : Int32)) hin16 (g := (mkF m 47 #[.val (.int p1), .val (.int p2), .unset, .unset, .unset, .unset, .unset, .unset] [(.int (214 : Int32)), (.int (7 : Int32)), (.ref b1), (.ref b1)])) rfl rfl (hb hby at_47)
  obtain ⟨Lh17, X17, N17⟩ := own_hide X17 (Fr.snoc X17 N15 g_b1)
  replace Kh := Kh.wr W17 (Or.inr sz_b1)
  replace V_w := Arv.other V_w W17 ne_w_b1
  replace S_NAME_START_RANGES := Sta.wr W17 S_NAME_START_RANGES
  have V_b1_17 : Arv Z h17 b1 k1 .int (34 : Int32) [(.int (58 : Int32)), (.int (95 : Int32)), (.int (65 : Int32)), (.int (90 : Int32)), (.int (97 : Int32)), (.int (122 : Int32)), (.int (192 : Int32)), (.int (214 : Int32)), (.int (0 : Int32)), (.int (0 : Int32)), (.int (0 : Int32)), (.int (0 : Int32)), (.int (0 : Int32)), (.int (0 : Int32)), (.int (0 : Int32)), (.int (0 : Int32)), (.int (0 : Int32)), (.int (0 : Int32)), (.int (0 : Int32)), (.int (0 : Int32)), (.int (0 : Int32)), (.int (0 : Int32)), (.int (0 : Int32)), (.int (0 : Int32)), (.int (0 : Int32)), (.int (0 : Int32)), (.int (0 : Int32)), (.int (0 : Int32)), (.int (0 : Int32)), (.int (0 : Int32)), (.int (0 : Int32)), (.int (0 : Int32)), (.int (0 : Int32)), (.int (0 : Int32))] (.int (0 : Int32)) := Arv.set Ar16 q16 S16 Nn16 Hh16 G16 rfl W17 7 rfl (Nat.le_of_ble_eq_true rfl)
  refine own_go (st17) ?_
  show own_R p e below _ T17 (mkF m 48 #[.val (.int p1), .val (.int p2), .unset, .unset, .unset, .unset, .unset, .unset] [(.ref b1)])
  refine own_go (fun t k => XS.dup X17.here hx rfl (hb hby at_48) rfl rfl k) ?_
  show own_R p e below _ T17 (mkF m 49 #[.val (.int p1), .val (.int p2), .unset, .unset, .unset, .unset, .unset, .unset] [(.ref b1), (.ref b1)])
  refine own_go (fun t k => XS.bipush X17.here hx rfl (hb hby at_49) k) ?_
  show own_R p e below _ T17 (mkF m 51 #[.val (.int p1), .val (.int p2), .unset, .unset, .unset, .unset, .unset, .unset] [(.int (8 : Int32)), (.ref b1), (.ref b1)])
  refine own_go (fun t k => XS.sipush X17.here hx rfl (hb hby at_51) k) ?_
  show own_R p e below _ T17 (mkF m 54 #[.val (.int p1), .val (.int p2), .unset, .unset, .unset, .unset, .unset, .unset] [(.int (216 : Int32)), (.int (8 : Int32)), (.ref b1), (.ref b1)])
  obtain ⟨cl18, Ar18, q18, S18, Nn18, Hh18, G18⟩ := id V_b1_17
  have hin18 : ¬ ((8 : Int32) < 0 ∨ cl18.slots.size ≤ ((8 : Int32)).toNatClampNeg) := inb_of S18 ⟨by decide, by decide⟩
  obtain ⟨T19, h19, X19, e19, W19, st19⟩ := stI X17 hx hZ e17 Ar18 (j := (8 : Int32)) hin18 (g := (mkF m 54 #[.val (.int p1), .val (.int p2), .unset, .unset, .unset, .unset, .unset, .unset] [(.int (216 : Int32)), (.int (8 : Int32)), (.ref b1), (.ref b1)])) rfl rfl (hb hby at_54)
  obtain ⟨Lh19, X19, N19⟩ := own_hide X19 (Fr.snoc X19 N17 g_b1)
  replace Kh := Kh.wr W19 (Or.inr sz_b1)
  replace V_w := Arv.other V_w W19 ne_w_b1
  replace S_NAME_START_RANGES := Sta.wr W19 S_NAME_START_RANGES
  have V_b1_19 : Arv Z h19 b1 k1 .int (34 : Int32) [(.int (58 : Int32)), (.int (95 : Int32)), (.int (65 : Int32)), (.int (90 : Int32)), (.int (97 : Int32)), (.int (122 : Int32)), (.int (192 : Int32)), (.int (214 : Int32)), (.int (216 : Int32)), (.int (0 : Int32)), (.int (0 : Int32)), (.int (0 : Int32)), (.int (0 : Int32)), (.int (0 : Int32)), (.int (0 : Int32)), (.int (0 : Int32)), (.int (0 : Int32)), (.int (0 : Int32)), (.int (0 : Int32)), (.int (0 : Int32)), (.int (0 : Int32)), (.int (0 : Int32)), (.int (0 : Int32)), (.int (0 : Int32)), (.int (0 : Int32)), (.int (0 : Int32)), (.int (0 : Int32)), (.int (0 : Int32)), (.int (0 : Int32)), (.int (0 : Int32)), (.int (0 : Int32)), (.int (0 : Int32)), (.int (0 : Int32)), (.int (0 : Int32))] (.int (0 : Int32)) := Arv.set Ar18 q18 S18 Nn18 Hh18 G18 rfl W19 8 rfl (Nat.le_of_ble_eq_true rfl)
  refine own_go (st19) ?_
  show own_R p e below _ T19 (mkF m 55 #[.val (.int p1), .val (.int p2), .unset, .unset, .unset, .unset, .unset, .unset] [(.ref b1)])
  refine own_go (fun t k => XS.dup X19.here hx rfl (hb hby at_55) rfl rfl k) ?_
  show own_R p e below _ T19 (mkF m 56 #[.val (.int p1), .val (.int p2), .unset, .unset, .unset, .unset, .unset, .unset] [(.ref b1), (.ref b1)])
  refine own_go (fun t k => XS.bipush X19.here hx rfl (hb hby at_56) k) ?_
  show own_R p e below _ T19 (mkF m 58 #[.val (.int p1), .val (.int p2), .unset, .unset, .unset, .unset, .unset, .unset] [(.int (9 : Int32)), (.ref b1), (.ref b1)])
  refine own_go (fun t k => XS.sipush X19.here hx rfl (hb hby at_58) k) ?_
  show own_R p e below _ T19 (mkF m 61 #[.val (.int p1), .val (.int p2), .unset, .unset, .unset, .unset, .unset, .unset] [(.int (246 : Int32)), (.int (9 : Int32)), (.ref b1), (.ref b1)])
  obtain ⟨cl20, Ar20, q20, S20, Nn20, Hh20, G20⟩ := id V_b1_19
  have hin20 : ¬ ((9 : Int32) < 0 ∨ cl20.slots.size ≤ ((9 : Int32)).toNatClampNeg) := inb_of S20 ⟨by decide, by decide⟩
  obtain ⟨T21, h21, X21, e21, W21, st21⟩ := stI X19 hx hZ e19 Ar20 (j := (9 : Int32)) hin20 (g := (mkF m 61 #[.val (.int p1), .val (.int p2), .unset, .unset, .unset, .unset, .unset, .unset] [(.int (246 : Int32)), (.int (9 : Int32)), (.ref b1), (.ref b1)])) rfl rfl (hb hby at_61)
  obtain ⟨Lh21, X21, N21⟩ := own_hide X21 (Fr.snoc X21 N19 g_b1)
  replace Kh := Kh.wr W21 (Or.inr sz_b1)
  replace V_w := Arv.other V_w W21 ne_w_b1
  replace S_NAME_START_RANGES := Sta.wr W21 S_NAME_START_RANGES
  have V_b1_21 : Arv Z h21 b1 k1 .int (34 : Int32) [(.int (58 : Int32)), (.int (95 : Int32)), (.int (65 : Int32)), (.int (90 : Int32)), (.int (97 : Int32)), (.int (122 : Int32)), (.int (192 : Int32)), (.int (214 : Int32)), (.int (216 : Int32)), (.int (246 : Int32)), (.int (0 : Int32)), (.int (0 : Int32)), (.int (0 : Int32)), (.int (0 : Int32)), (.int (0 : Int32)), (.int (0 : Int32)), (.int (0 : Int32)), (.int (0 : Int32)), (.int (0 : Int32)), (.int (0 : Int32)), (.int (0 : Int32)), (.int (0 : Int32)), (.int (0 : Int32)), (.int (0 : Int32)), (.int (0 : Int32)), (.int (0 : Int32)), (.int (0 : Int32)), (.int (0 : Int32)), (.int (0 : Int32)), (.int (0 : Int32)), (.int (0 : Int32)), (.int (0 : Int32)), (.int (0 : Int32)), (.int (0 : Int32))] (.int (0 : Int32)) := Arv.set Ar20 q20 S20 Nn20 Hh20 G20 rfl W21 9 rfl (Nat.le_of_ble_eq_true rfl)
  refine own_go (st21) ?_
  show own_R p e below _ T21 (mkF m 62 #[.val (.int p1), .val (.int p2), .unset, .unset, .unset, .unset, .unset, .unset] [(.ref b1)])
  refine own_go (fun t k => XS.dup X21.here hx rfl (hb hby at_62) rfl rfl k) ?_
  show own_R p e below _ T21 (mkF m 63 #[.val (.int p1), .val (.int p2), .unset, .unset, .unset, .unset, .unset, .unset] [(.ref b1), (.ref b1)])
  refine own_go (fun t k => XS.bipush X21.here hx rfl (hb hby at_63) k) ?_
  show own_R p e below _ T21 (mkF m 65 #[.val (.int p1), .val (.int p2), .unset, .unset, .unset, .unset, .unset, .unset] [(.int (10 : Int32)), (.ref b1), (.ref b1)])
  refine own_go (fun t k => XS.sipush X21.here hx rfl (hb hby at_65) k) ?_
  show own_R p e below _ T21 (mkF m 68 #[.val (.int p1), .val (.int p2), .unset, .unset, .unset, .unset, .unset, .unset] [(.int (248 : Int32)), (.int (10 : Int32)), (.ref b1), (.ref b1)])
  obtain ⟨cl22, Ar22, q22, S22, Nn22, Hh22, G22⟩ := id V_b1_21
  have hin22 : ¬ ((10 : Int32) < 0 ∨ cl22.slots.size ≤ ((10 : Int32)).toNatClampNeg) := inb_of S22 ⟨by decide, by decide⟩
  obtain ⟨T23, h23, X23, e23, W23, st23⟩ := stI X21 hx hZ e21 Ar22 (j := (10 : Int32)) hin22 (g := (mkF m 68 #[.val (.int p1), .val (.int p2), .unset, .unset, .unset, .unset, .unset, .unset] [(.int (248 : Int32)), (.int (10 : Int32)), (.ref b1), (.ref b1)])) rfl rfl (hb hby at_68)
  obtain ⟨Lh23, X23, N23⟩ := own_hide X23 (Fr.snoc X23 N21 g_b1)
  replace Kh := Kh.wr W23 (Or.inr sz_b1)
  replace V_w := Arv.other V_w W23 ne_w_b1
  replace S_NAME_START_RANGES := Sta.wr W23 S_NAME_START_RANGES
  have V_b1_23 : Arv Z h23 b1 k1 .int (34 : Int32) [(.int (58 : Int32)), (.int (95 : Int32)), (.int (65 : Int32)), (.int (90 : Int32)), (.int (97 : Int32)), (.int (122 : Int32)), (.int (192 : Int32)), (.int (214 : Int32)), (.int (216 : Int32)), (.int (246 : Int32)), (.int (248 : Int32)), (.int (0 : Int32)), (.int (0 : Int32)), (.int (0 : Int32)), (.int (0 : Int32)), (.int (0 : Int32)), (.int (0 : Int32)), (.int (0 : Int32)), (.int (0 : Int32)), (.int (0 : Int32)), (.int (0 : Int32)), (.int (0 : Int32)), (.int (0 : Int32)), (.int (0 : Int32)), (.int (0 : Int32)), (.int (0 : Int32)), (.int (0 : Int32)), (.int (0 : Int32)), (.int (0 : Int32)), (.int (0 : Int32)), (.int (0 : Int32)), (.int (0 : Int32)), (.int (0 : Int32)), (.int (0 : Int32))] (.int (0 : Int32)) := Arv.set Ar22 q22 S22 Nn22 Hh22 G22 rfl W23 10 rfl (Nat.le_of_ble_eq_true rfl)
  refine own_go (st23) ?_
  show own_R p e below _ T23 (mkF m 69 #[.val (.int p1), .val (.int p2), .unset, .unset, .unset, .unset, .unset, .unset] [(.ref b1)])
  refine own_go (fun t k => XS.dup X23.here hx rfl (hb hby at_69) rfl rfl k) ?_
  show own_R p e below _ T23 (mkF m 70 #[.val (.int p1), .val (.int p2), .unset, .unset, .unset, .unset, .unset, .unset] [(.ref b1), (.ref b1)])
  refine own_go (fun t k => XS.bipush X23.here hx rfl (hb hby at_70) k) ?_
  show own_R p e below _ T23 (mkF m 72 #[.val (.int p1), .val (.int p2), .unset, .unset, .unset, .unset, .unset, .unset] [(.int (11 : Int32)), (.ref b1), (.ref b1)])
  refine own_go (fun t k => XS.sipush X23.here hx rfl (hb hby at_72) k) ?_
  show own_R p e below _ T23 (mkF m 75 #[.val (.int p1), .val (.int p2), .unset, .unset, .unset, .unset, .unset, .unset] [(.int (767 : Int32)), (.int (11 : Int32)), (.ref b1), (.ref b1)])
  obtain ⟨cl24, Ar24, q24, S24, Nn24, Hh24, G24⟩ := id V_b1_23
  have hin24 : ¬ ((11 : Int32) < 0 ∨ cl24.slots.size ≤ ((11 : Int32)).toNatClampNeg) := inb_of S24 ⟨by decide, by decide⟩
  obtain ⟨T25, h25, X25, e25, W25, st25⟩ := stI X23 hx hZ e23 Ar24 (j := (11 : Int32)) hin24 (g := (mkF m 75 #[.val (.int p1), .val (.int p2), .unset, .unset, .unset, .unset, .unset, .unset] [(.int (767 : Int32)), (.int (11 : Int32)), (.ref b1), (.ref b1)])) rfl rfl (hb hby at_75)
  obtain ⟨Lh25, X25, N25⟩ := own_hide X25 (Fr.snoc X25 N23 g_b1)
  replace Kh := Kh.wr W25 (Or.inr sz_b1)
  replace V_w := Arv.other V_w W25 ne_w_b1
  replace S_NAME_START_RANGES := Sta.wr W25 S_NAME_START_RANGES
  have V_b1_25 : Arv Z h25 b1 k1 .int (34 : Int32) [(.int (58 : Int32)), (.int (95 : Int32)), (.int (65 : Int32)), (.int (90 : Int32)), (.int (97 : Int32)), (.int (122 : Int32)), (.int (192 : Int32)), (.int (214 : Int32)), (.int (216 : Int32)), (.int (246 : Int32)), (.int (248 : Int32)), (.int (767 : Int32)), (.int (0 : Int32)), (.int (0 : Int32)), (.int (0 : Int32)), (.int (0 : Int32)), (.int (0 : Int32)), (.int (0 : Int32)), (.int (0 : Int32)), (.int (0 : Int32)), (.int (0 : Int32)), (.int (0 : Int32)), (.int (0 : Int32)), (.int (0 : Int32)), (.int (0 : Int32)), (.int (0 : Int32)), (.int (0 : Int32)), (.int (0 : Int32)), (.int (0 : Int32)), (.int (0 : Int32)), (.int (0 : Int32)), (.int (0 : Int32)), (.int (0 : Int32)), (.int (0 : Int32))] (.int (0 : Int32)) := Arv.set Ar24 q24 S24 Nn24 Hh24 G24 rfl W25 11 rfl (Nat.le_of_ble_eq_true rfl)
  refine own_go (st25) ?_
  show own_R p e below _ T25 (mkF m 76 #[.val (.int p1), .val (.int p2), .unset, .unset, .unset, .unset, .unset, .unset] [(.ref b1)])
  refine own_go (fun t k => XS.dup X25.here hx rfl (hb hby at_76) rfl rfl k) ?_
  show own_R p e below _ T25 (mkF m 77 #[.val (.int p1), .val (.int p2), .unset, .unset, .unset, .unset, .unset, .unset] [(.ref b1), (.ref b1)])
  refine own_go (fun t k => XS.bipush X25.here hx rfl (hb hby at_77) k) ?_
  show own_R p e below _ T25 (mkF m 79 #[.val (.int p1), .val (.int p2), .unset, .unset, .unset, .unset, .unset, .unset] [(.int (12 : Int32)), (.ref b1), (.ref b1)])
  refine own_go (fun t k => XS.sipush X25.here hx rfl (hb hby at_79) k) ?_
  show own_R p e below _ T25 (mkF m 82 #[.val (.int p1), .val (.int p2), .unset, .unset, .unset, .unset, .unset, .unset] [(.int (880 : Int32)), (.int (12 : Int32)), (.ref b1), (.ref b1)])
  obtain ⟨cl26, Ar26, q26, S26, Nn26, Hh26, G26⟩ := id V_b1_25
  have hin26 : ¬ ((12 : Int32) < 0 ∨ cl26.slots.size ≤ ((12 : Int32)).toNatClampNeg) := inb_of S26 ⟨by decide, by decide⟩
  obtain ⟨T27, h27, X27, e27, W27, st27⟩ := stI X25 hx hZ e25 Ar26 (j := (12 : Int32)) hin26 (g := (mkF m 82 #[.val (.int p1), .val (.int p2), .unset, .unset, .unset, .unset, .unset, .unset] [(.int (880 : Int32)), (.int (12 : Int32)), (.ref b1), (.ref b1)])) rfl rfl (hb hby at_82)
  obtain ⟨Lh27, X27, N27⟩ := own_hide X27 (Fr.snoc X27 N25 g_b1)
  replace Kh := Kh.wr W27 (Or.inr sz_b1)
  replace V_w := Arv.other V_w W27 ne_w_b1
  replace S_NAME_START_RANGES := Sta.wr W27 S_NAME_START_RANGES
  have V_b1_27 : Arv Z h27 b1 k1 .int (34 : Int32) [(.int (58 : Int32)), (.int (95 : Int32)), (.int (65 : Int32)), (.int (90 : Int32)), (.int (97 : Int32)), (.int (122 : Int32)), (.int (192 : Int32)), (.int (214 : Int32)), (.int (216 : Int32)), (.int (246 : Int32)), (.int (248 : Int32)), (.int (767 : Int32)), (.int (880 : Int32)), (.int (0 : Int32)), (.int (0 : Int32)), (.int (0 : Int32)), (.int (0 : Int32)), (.int (0 : Int32)), (.int (0 : Int32)), (.int (0 : Int32)), (.int (0 : Int32)), (.int (0 : Int32)), (.int (0 : Int32)), (.int (0 : Int32)), (.int (0 : Int32)), (.int (0 : Int32)), (.int (0 : Int32)), (.int (0 : Int32)), (.int (0 : Int32)), (.int (0 : Int32)), (.int (0 : Int32)), (.int (0 : Int32)), (.int (0 : Int32)), (.int (0 : Int32))] (.int (0 : Int32)) := Arv.set Ar26 q26 S26 Nn26 Hh26 G26 rfl W27 12 rfl (Nat.le_of_ble_eq_true rfl)
  refine own_go (st27) ?_
  show own_R p e below _ T27 (mkF m 83 #[.val (.int p1), .val (.int p2), .unset, .unset, .unset, .unset, .unset, .unset] [(.ref b1)])
  refine own_go (fun t k => XS.dup X27.here hx rfl (hb hby at_83) rfl rfl k) ?_
  show own_R p e below _ T27 (mkF m 84 #[.val (.int p1), .val (.int p2), .unset, .unset, .unset, .unset, .unset, .unset] [(.ref b1), (.ref b1)])
  refine own_go (fun t k => XS.bipush X27.here hx rfl (hb hby at_84) k) ?_
  show own_R p e below _ T27 (mkF m 86 #[.val (.int p1), .val (.int p2), .unset, .unset, .unset, .unset, .unset, .unset] [(.int (13 : Int32)), (.ref b1), (.ref b1)])
  refine own_go (fun t k => XS.sipush X27.here hx rfl (hb hby at_86) k) ?_
  show own_R p e below _ T27 (mkF m 89 #[.val (.int p1), .val (.int p2), .unset, .unset, .unset, .unset, .unset, .unset] [(.int (893 : Int32)), (.int (13 : Int32)), (.ref b1), (.ref b1)])
  obtain ⟨cl28, Ar28, q28, S28, Nn28, Hh28, G28⟩ := id V_b1_27
  have hin28 : ¬ ((13 : Int32) < 0 ∨ cl28.slots.size ≤ ((13 : Int32)).toNatClampNeg) := inb_of S28 ⟨by decide, by decide⟩
  obtain ⟨T29, h29, X29, e29, W29, st29⟩ := stI X27 hx hZ e27 Ar28 (j := (13 : Int32)) hin28 (g := (mkF m 89 #[.val (.int p1), .val (.int p2), .unset, .unset, .unset, .unset, .unset, .unset] [(.int (893 : Int32)), (.int (13 : Int32)), (.ref b1), (.ref b1)])) rfl rfl (hb hby at_89)
  obtain ⟨Lh29, X29, N29⟩ := own_hide X29 (Fr.snoc X29 N27 g_b1)
  replace Kh := Kh.wr W29 (Or.inr sz_b1)
  replace V_w := Arv.other V_w W29 ne_w_b1
  replace S_NAME_START_RANGES := Sta.wr W29 S_NAME_START_RANGES
  have V_b1_29 : Arv Z h29 b1 k1 .int (34 : Int32) [(.int (58 : Int32)), (.int (95 : Int32)), (.int (65 : Int32)), (.int (90 : Int32)), (.int (97 : Int32)), (.int (122 : Int32)), (.int (192 : Int32)), (.int (214 : Int32)), (.int (216 : Int32)), (.int (246 : Int32)), (.int (248 : Int32)), (.int (767 : Int32)), (.int (880 : Int32)), (.int (893 : Int32)), (.int (0 : Int32)), (.int (0 : Int32)), (.int (0 : Int32)), (.int (0 : Int32)), (.int (0 : Int32)), (.int (0 : Int32)), (.int (0 : Int32)), (.int (0 : Int32)), (.int (0 : Int32)), (.int (0 : Int32)), (.int (0 : Int32)), (.int (0 : Int32)), (.int (0 : Int32)), (.int (0 : Int32)), (.int (0 : Int32)), (.int (0 : Int32)), (.int (0 : Int32)), (.int (0 : Int32)), (.int (0 : Int32)), (.int (0 : Int32))] (.int (0 : Int32)) := Arv.set Ar28 q28 S28 Nn28 Hh28 G28 rfl W29 13 rfl (Nat.le_of_ble_eq_true rfl)
  refine own_go (st29) ?_
  show own_R p e below _ T29 (mkF m 90 #[.val (.int p1), .val (.int p2), .unset, .unset, .unset, .unset, .unset, .unset] [(.ref b1)])
  refine own_go (fun t k => XS.dup X29.here hx rfl (hb hby at_90) rfl rfl k) ?_
  show own_R p e below _ T29 (mkF m 91 #[.val (.int p1), .val (.int p2), .unset, .unset, .unset, .unset, .unset, .unset] [(.ref b1), (.ref b1)])
  refine own_go (fun t k => XS.bipush X29.here hx rfl (hb hby at_91) k) ?_
  show own_R p e below _ T29 (mkF m 93 #[.val (.int p1), .val (.int p2), .unset, .unset, .unset, .unset, .unset, .unset] [(.int (14 : Int32)), (.ref b1), (.ref b1)])
  refine own_go (fun t k => XS.sipush X29.here hx rfl (hb hby at_93) k) ?_
  show own_R p e below _ T29 (mkF m 96 #[.val (.int p1), .val (.int p2), .unset, .unset, .unset, .unset, .unset, .unset] [(.int (895 : Int32)), (.int (14 : Int32)), (.ref b1), (.ref b1)])
  obtain ⟨cl30, Ar30, q30, S30, Nn30, Hh30, G30⟩ := id V_b1_29
  have hin30 : ¬ ((14 : Int32) < 0 ∨ cl30.slots.size ≤ ((14 : Int32)).toNatClampNeg) := inb_of S30 ⟨by decide, by decide⟩
  obtain ⟨T31, h31, X31, e31, W31, st31⟩ := stI X29 hx hZ e29 Ar30 (j := (14 : Int32)) hin30 (g := (mkF m 96 #[.val (.int p1), .val (.int p2), .unset, .unset, .unset, .unset, .unset, .unset] [(.int (895 : Int32)), (.int (14 : Int32)), (.ref b1), (.ref b1)])) rfl rfl (hb hby at_96)
  obtain ⟨Lh31, X31, N31⟩ := own_hide X31 (Fr.snoc X31 N29 g_b1)
  replace Kh := Kh.wr W31 (Or.inr sz_b1)
  replace V_w := Arv.other V_w W31 ne_w_b1
  replace S_NAME_START_RANGES := Sta.wr W31 S_NAME_START_RANGES
  have V_b1_31 : Arv Z h31 b1 k1 .int (34 : Int32) [(.int (58 : Int32)), (.int (95 : Int32)), (.int (65 : Int32)), (.int (90 : Int32)), (.int (97 : Int32)), (.int (122 : Int32)), (.int (192 : Int32)), (.int (214 : Int32)), (.int (216 : Int32)), (.int (246 : Int32)), (.int (248 : Int32)), (.int (767 : Int32)), (.int (880 : Int32)), (.int (893 : Int32)), (.int (895 : Int32)), (.int (0 : Int32)), (.int (0 : Int32)), (.int (0 : Int32)), (.int (0 : Int32)), (.int (0 : Int32)), (.int (0 : Int32)), (.int (0 : Int32)), (.int (0 : Int32)), (.int (0 : Int32)), (.int (0 : Int32)), (.int (0 : Int32)), (.int (0 : Int32)), (.int (0 : Int32)), (.int (0 : Int32)), (.int (0 : Int32)), (.int (0 : Int32)), (.int (0 : Int32)), (.int (0 : Int32)), (.int (0 : Int32))] (.int (0 : Int32)) := Arv.set Ar30 q30 S30 Nn30 Hh30 G30 rfl W31 14 rfl (Nat.le_of_ble_eq_true rfl)
  refine own_go (st31) ?_
  show own_R p e below _ T31 (mkF m 97 #[.val (.int p1), .val (.int p2), .unset, .unset, .unset, .unset, .unset, .unset] [(.ref b1)])
  refine own_go (fun t k => XS.dup X31.here hx rfl (hb hby at_97) rfl rfl k) ?_
  show own_R p e below _ T31 (mkF m 98 #[.val (.int p1), .val (.int p2), .unset, .unset, .unset, .unset, .unset, .unset] [(.ref b1), (.ref b1)])
  refine own_go (fun t k => XS.bipush X31.here hx rfl (hb hby at_98) k) ?_
  show own_R p e below _ T31 (mkF m 100 #[.val (.int p1), .val (.int p2), .unset, .unset, .unset, .unset, .unset, .unset] [(.int (15 : Int32)), (.ref b1), (.ref b1)])
  refine own_go (fun t k => XS.sipush X31.here hx rfl (hb hby at_100) k) ?_
  show own_R p e below _ T31 (mkF m 103 #[.val (.int p1), .val (.int p2), .unset, .unset, .unset, .unset, .unset, .unset] [(.int (8191 : Int32)), (.int (15 : Int32)), (.ref b1), (.ref b1)])
  obtain ⟨cl32, Ar32, q32, S32, Nn32, Hh32, G32⟩ := id V_b1_31
  have hin32 : ¬ ((15 : Int32) < 0 ∨ cl32.slots.size ≤ ((15 : Int32)).toNatClampNeg) := inb_of S32 ⟨by decide, by decide⟩
  obtain ⟨T33, h33, X33, e33, W33, st33⟩ := stI X31 hx hZ e31 Ar32 (j := (15 : Int32)) hin32 (g := (mkF m 103 #[.val (.int p1), .val (.int p2), .unset, .unset, .unset, .unset, .unset, .unset] [(.int (8191 : Int32)), (.int (15 : Int32)), (.ref b1), (.ref b1)])) rfl rfl (hb hby at_103)
  obtain ⟨Lh33, X33, N33⟩ := own_hide X33 (Fr.snoc X33 N31 g_b1)
  replace Kh := Kh.wr W33 (Or.inr sz_b1)
  replace V_w := Arv.other V_w W33 ne_w_b1
  replace S_NAME_START_RANGES := Sta.wr W33 S_NAME_START_RANGES
  have V_b1_33 : Arv Z h33 b1 k1 .int (34 : Int32) [(.int (58 : Int32)), (.int (95 : Int32)), (.int (65 : Int32)), (.int (90 : Int32)), (.int (97 : Int32)), (.int (122 : Int32)), (.int (192 : Int32)), (.int (214 : Int32)), (.int (216 : Int32)), (.int (246 : Int32)), (.int (248 : Int32)), (.int (767 : Int32)), (.int (880 : Int32)), (.int (893 : Int32)), (.int (895 : Int32)), (.int (8191 : Int32)), (.int (0 : Int32)), (.int (0 : Int32)), (.int (0 : Int32)), (.int (0 : Int32)), (.int (0 : Int32)), (.int (0 : Int32)), (.int (0 : Int32)), (.int (0 : Int32)), (.int (0 : Int32)), (.int (0 : Int32)), (.int (0 : Int32)), (.int (0 : Int32)), (.int (0 : Int32)), (.int (0 : Int32)), (.int (0 : Int32)), (.int (0 : Int32)), (.int (0 : Int32)), (.int (0 : Int32))] (.int (0 : Int32)) := Arv.set Ar32 q32 S32 Nn32 Hh32 G32 rfl W33 15 rfl (Nat.le_of_ble_eq_true rfl)
  refine own_go (st33) ?_
  show own_R p e below _ T33 (mkF m 104 #[.val (.int p1), .val (.int p2), .unset, .unset, .unset, .unset, .unset, .unset] [(.ref b1)])
  refine own_go (fun t k => XS.dup X33.here hx rfl (hb hby at_104) rfl rfl k) ?_
  show own_R p e below _ T33 (mkF m 105 #[.val (.int p1), .val (.int p2), .unset, .unset, .unset, .unset, .unset, .unset] [(.ref b1), (.ref b1)])
  refine own_go (fun t k => XS.bipush X33.here hx rfl (hb hby at_105) k) ?_
  show own_R p e below _ T33 (mkF m 107 #[.val (.int p1), .val (.int p2), .unset, .unset, .unset, .unset, .unset, .unset] [(.int (16 : Int32)), (.ref b1), (.ref b1)])
  refine own_go (fun t k => XS.sipush X33.here hx rfl (hb hby at_107) k) ?_
  show own_R p e below _ T33 (mkF m 110 #[.val (.int p1), .val (.int p2), .unset, .unset, .unset, .unset, .unset, .unset] [(.int (8204 : Int32)), (.int (16 : Int32)), (.ref b1), (.ref b1)])
  obtain ⟨cl34, Ar34, q34, S34, Nn34, Hh34, G34⟩ := id V_b1_33
  have hin34 : ¬ ((16 : Int32) < 0 ∨ cl34.slots.size ≤ ((16 : Int32)).toNatClampNeg) := inb_of S34 ⟨by decide, by decide⟩
  obtain ⟨T35, h35, X35, e35, W35, st35⟩ := stI X33 hx hZ e33 Ar34 (j := (16 : Int32)) hin34 (g := (mkF m 110 #[.val (.int p1), .val (.int p2), .unset, .unset, .unset, .unset, .unset, .unset] [(.int (8204 : Int32)), (.int (16 : Int32)), (.ref b1), (.ref b1)])) rfl rfl (hb hby at_110)
  obtain ⟨Lh35, X35, N35⟩ := own_hide X35 (Fr.snoc X35 N33 g_b1)
  replace Kh := Kh.wr W35 (Or.inr sz_b1)
  replace V_w := Arv.other V_w W35 ne_w_b1
  replace S_NAME_START_RANGES := Sta.wr W35 S_NAME_START_RANGES
  have V_b1_35 : Arv Z h35 b1 k1 .int (34 : Int32) [(.int (58 : Int32)), (.int (95 : Int32)), (.int (65 : Int32)), (.int (90 : Int32)), (.int (97 : Int32)), (.int (122 : Int32)), (.int (192 : Int32)), (.int (214 : Int32)), (.int (216 : Int32)), (.int (246 : Int32)), (.int (248 : Int32)), (.int (767 : Int32)), (.int (880 : Int32)), (.int (893 : Int32)), (.int (895 : Int32)), (.int (8191 : Int32)), (.int (8204 : Int32)), (.int (0 : Int32)), (.int (0 : Int32)), (.int (0 : Int32)), (.int (0 : Int32)), (.int (0 : Int32)), (.int (0 : Int32)), (.int (0 : Int32)), (.int (0 : Int32)), (.int (0 : Int32)), (.int (0 : Int32)), (.int (0 : Int32)), (.int (0 : Int32)), (.int (0 : Int32)), (.int (0 : Int32)), (.int (0 : Int32)), (.int (0 : Int32)), (.int (0 : Int32))] (.int (0 : Int32)) := Arv.set Ar34 q34 S34 Nn34 Hh34 G34 rfl W35 16 rfl (Nat.le_of_ble_eq_true rfl)
  refine own_go (st35) ?_
  show own_R p e below _ T35 (mkF m 111 #[.val (.int p1), .val (.int p2), .unset, .unset, .unset, .unset, .unset, .unset] [(.ref b1)])
  refine own_go (fun t k => XS.dup X35.here hx rfl (hb hby at_111) rfl rfl k) ?_
  show own_R p e below _ T35 (mkF m 112 #[.val (.int p1), .val (.int p2), .unset, .unset, .unset, .unset, .unset, .unset] [(.ref b1), (.ref b1)])
  refine own_go (fun t k => XS.bipush X35.here hx rfl (hb hby at_112) k) ?_
  show own_R p e below _ T35 (mkF m 114 #[.val (.int p1), .val (.int p2), .unset, .unset, .unset, .unset, .unset, .unset] [(.int (17 : Int32)), (.ref b1), (.ref b1)])
  refine own_go (fun t k => XS.sipush X35.here hx rfl (hb hby at_114) k) ?_
  show own_R p e below _ T35 (mkF m 117 #[.val (.int p1), .val (.int p2), .unset, .unset, .unset, .unset, .unset, .unset] [(.int (8205 : Int32)), (.int (17 : Int32)), (.ref b1), (.ref b1)])
  obtain ⟨cl36, Ar36, q36, S36, Nn36, Hh36, G36⟩ := id V_b1_35
  have hin36 : ¬ ((17 : Int32) < 0 ∨ cl36.slots.size ≤ ((17 : Int32)).toNatClampNeg) := inb_of S36 ⟨by decide, by decide⟩
  obtain ⟨T37, h37, X37, e37, W37, st37⟩ := stI X35 hx hZ e35 Ar36 (j := (17 : Int32)) hin36 (g := (mkF m 117 #[.val (.int p1), .val (.int p2), .unset, .unset, .unset, .unset, .unset, .unset] [(.int (8205 : Int32)), (.int (17 : Int32)), (.ref b1), (.ref b1)])) rfl rfl (hb hby at_117)
  obtain ⟨Lh37, X37, N37⟩ := own_hide X37 (Fr.snoc X37 N35 g_b1)
  replace Kh := Kh.wr W37 (Or.inr sz_b1)
  replace V_w := Arv.other V_w W37 ne_w_b1
  replace S_NAME_START_RANGES := Sta.wr W37 S_NAME_START_RANGES
  have V_b1_37 : Arv Z h37 b1 k1 .int (34 : Int32) [(.int (58 : Int32)), (.int (95 : Int32)), (.int (65 : Int32)), (.int (90 : Int32)), (.int (97 : Int32)), (.int (122 : Int32)), (.int (192 : Int32)), (.int (214 : Int32)), (.int (216 : Int32)), (.int (246 : Int32)), (.int (248 : Int32)), (.int (767 : Int32)), (.int (880 : Int32)), (.int (893 : Int32)), (.int (895 : Int32)), (.int (8191 : Int32)), (.int (8204 : Int32)), (.int (8205 : Int32)), (.int (0 : Int32)), (.int (0 : Int32)), (.int (0 : Int32)), (.int (0 : Int32)), (.int (0 : Int32)), (.int (0 : Int32)), (.int (0 : Int32)), (.int (0 : Int32)), (.int (0 : Int32)), (.int (0 : Int32)), (.int (0 : Int32)), (.int (0 : Int32)), (.int (0 : Int32)), (.int (0 : Int32)), (.int (0 : Int32)), (.int (0 : Int32))] (.int (0 : Int32)) := Arv.set Ar36 q36 S36 Nn36 Hh36 G36 rfl W37 17 rfl (Nat.le_of_ble_eq_true rfl)
  refine own_go (st37) ?_
  show own_R p e below _ T37 (mkF m 118 #[.val (.int p1), .val (.int p2), .unset, .unset, .unset, .unset, .unset, .unset] [(.ref b1)])
  refine own_go (fun t k => XS.dup X37.here hx rfl (hb hby at_118) rfl rfl k) ?_
  show own_R p e below _ T37 (mkF m 119 #[.val (.int p1), .val (.int p2), .unset, .unset, .unset, .unset, .unset, .unset] [(.ref b1), (.ref b1)])
  refine own_go (fun t k => XS.bipush X37.here hx rfl (hb hby at_119) k) ?_
  show own_R p e below _ T37 (mkF m 121 #[.val (.int p1), .val (.int p2), .unset, .unset, .unset, .unset, .unset, .unset] [(.int (18 : Int32)), (.ref b1), (.ref b1)])
  refine own_go (fun t k => XS.sipush X37.here hx rfl (hb hby at_121) k) ?_
  show own_R p e below _ T37 (mkF m 124 #[.val (.int p1), .val (.int p2), .unset, .unset, .unset, .unset, .unset, .unset] [(.int (8304 : Int32)), (.int (18 : Int32)), (.ref b1), (.ref b1)])
  obtain ⟨cl38, Ar38, q38, S38, Nn38, Hh38, G38⟩ := id V_b1_37
  have hin38 : ¬ ((18 : Int32) < 0 ∨ cl38.slots.size ≤ ((18 : Int32)).toNatClampNeg) := inb_of S38 ⟨by decide, by decide⟩
  obtain ⟨T39, h39, X39, e39, W39, st39⟩ := stI X37 hx hZ e37 Ar38 (j := (18 : Int32)) hin38 (g := (mkF m 124 #[.val (.int p1), .val (.int p2), .unset, .unset, .unset, .unset, .unset, .unset] [(.int (8304 : Int32)), (.int (18 : Int32)), (.ref b1), (.ref b1)])) rfl rfl (hb hby at_124)
  obtain ⟨Lh39, X39, N39⟩ := own_hide X39 (Fr.snoc X39 N37 g_b1)
  replace Kh := Kh.wr W39 (Or.inr sz_b1)
  replace V_w := Arv.other V_w W39 ne_w_b1
  replace S_NAME_START_RANGES := Sta.wr W39 S_NAME_START_RANGES
  have V_b1_39 : Arv Z h39 b1 k1 .int (34 : Int32) [(.int (58 : Int32)), (.int (95 : Int32)), (.int (65 : Int32)), (.int (90 : Int32)), (.int (97 : Int32)), (.int (122 : Int32)), (.int (192 : Int32)), (.int (214 : Int32)), (.int (216 : Int32)), (.int (246 : Int32)), (.int (248 : Int32)), (.int (767 : Int32)), (.int (880 : Int32)), (.int (893 : Int32)), (.int (895 : Int32)), (.int (8191 : Int32)), (.int (8204 : Int32)), (.int (8205 : Int32)), (.int (8304 : Int32)), (.int (0 : Int32)), (.int (0 : Int32)), (.int (0 : Int32)), (.int (0 : Int32)), (.int (0 : Int32)), (.int (0 : Int32)), (.int (0 : Int32)), (.int (0 : Int32)), (.int (0 : Int32)), (.int (0 : Int32)), (.int (0 : Int32)), (.int (0 : Int32)), (.int (0 : Int32)), (.int (0 : Int32)), (.int (0 : Int32))] (.int (0 : Int32)) := Arv.set Ar38 q38 S38 Nn38 Hh38 G38 rfl W39 18 rfl (Nat.le_of_ble_eq_true rfl)
  refine own_go (st39) ?_
  show own_R p e below _ T39 (mkF m 125 #[.val (.int p1), .val (.int p2), .unset, .unset, .unset, .unset, .unset, .unset] [(.ref b1)])
  refine own_go (fun t k => XS.dup X39.here hx rfl (hb hby at_125) rfl rfl k) ?_
  show own_R p e below _ T39 (mkF m 126 #[.val (.int p1), .val (.int p2), .unset, .unset, .unset, .unset, .unset, .unset] [(.ref b1), (.ref b1)])
  refine own_go (fun t k => XS.bipush X39.here hx rfl (hb hby at_126) k) ?_
  show own_R p e below _ T39 (mkF m 128 #[.val (.int p1), .val (.int p2), .unset, .unset, .unset, .unset, .unset, .unset] [(.int (19 : Int32)), (.ref b1), (.ref b1)])
  refine own_go (fun t k => XS.sipush X39.here hx rfl (hb hby at_128) k) ?_
  show own_R p e below _ T39 (mkF m 131 #[.val (.int p1), .val (.int p2), .unset, .unset, .unset, .unset, .unset, .unset] [(.int (8591 : Int32)), (.int (19 : Int32)), (.ref b1), (.ref b1)])
  obtain ⟨cl40, Ar40, q40, S40, Nn40, Hh40, G40⟩ := id V_b1_39
  have hin40 : ¬ ((19 : Int32) < 0 ∨ cl40.slots.size ≤ ((19 : Int32)).toNatClampNeg) := inb_of S40 ⟨by decide, by decide⟩
  obtain ⟨T41, h41, X41, e41, W41, st41⟩ := stI X39 hx hZ e39 Ar40 (j := (19 : Int32)) hin40 (g := (mkF m 131 #[.val (.int p1), .val (.int p2), .unset, .unset, .unset, .unset, .unset, .unset] [(.int (8591 : Int32)), (.int (19 : Int32)), (.ref b1), (.ref b1)])) rfl rfl (hb hby at_131)
  obtain ⟨Lh41, X41, N41⟩ := own_hide X41 (Fr.snoc X41 N39 g_b1)
  replace Kh := Kh.wr W41 (Or.inr sz_b1)
  replace V_w := Arv.other V_w W41 ne_w_b1
  replace S_NAME_START_RANGES := Sta.wr W41 S_NAME_START_RANGES
  have V_b1_41 : Arv Z h41 b1 k1 .int (34 : Int32) [(.int (58 : Int32)), (.int (95 : Int32)), (.int (65 : Int32)), (.int (90 : Int32)), (.int (97 : Int32)), (.int (122 : Int32)), (.int (192 : Int32)), (.int (214 : Int32)), (.int (216 : Int32)), (.int (246 : Int32)), (.int (248 : Int32)), (.int (767 : Int32)), (.int (880 : Int32)), (.int (893 : Int32)), (.int (895 : Int32)), (.int (8191 : Int32)), (.int (8204 : Int32)), (.int (8205 : Int32)), (.int (8304 : Int32)), (.int (8591 : Int32)), (.int (0 : Int32)), (.int (0 : Int32)), (.int (0 : Int32)), (.int (0 : Int32)), (.int (0 : Int32)), (.int (0 : Int32)), (.int (0 : Int32)), (.int (0 : Int32)), (.int (0 : Int32)), (.int (0 : Int32)), (.int (0 : Int32)), (.int (0 : Int32)), (.int (0 : Int32)), (.int (0 : Int32))] (.int (0 : Int32)) := Arv.set Ar40 q40 S40 Nn40 Hh40 G40 rfl W41 19 rfl (Nat.le_of_ble_eq_true rfl)
  refine own_go (st41) ?_
  show own_R p e below _ T41 (mkF m 132 #[.val (.int p1), .val (.int p2), .unset, .unset, .unset, .unset, .unset, .unset] [(.ref b1)])
  refine own_go (fun t k => XS.dup X41.here hx rfl (hb hby at_132) rfl rfl k) ?_
  show own_R p e below _ T41 (mkF m 133 #[.val (.int p1), .val (.int p2), .unset, .unset, .unset, .unset, .unset, .unset] [(.ref b1), (.ref b1)])
  refine own_go (fun t k => XS.bipush X41.here hx rfl (hb hby at_133) k) ?_
  show own_R p e below _ T41 (mkF m 135 #[.val (.int p1), .val (.int p2), .unset, .unset, .unset, .unset, .unset, .unset] [(.int (20 : Int32)), (.ref b1), (.ref b1)])
  refine own_go (fun t k => XS.sipush X41.here hx rfl (hb hby at_135) k) ?_
  show own_R p e below _ T41 (mkF m 138 #[.val (.int p1), .val (.int p2), .unset, .unset, .unset, .unset, .unset, .unset] [(.int (11264 : Int32)), (.int (20 : Int32)), (.ref b1), (.ref b1)])
  obtain ⟨cl42, Ar42, q42, S42, Nn42, Hh42, G42⟩ := id V_b1_41
  have hin42 : ¬ ((20 : Int32) < 0 ∨ cl42.slots.size ≤ ((20 : Int32)).toNatClampNeg) := inb_of S42 ⟨by decide, by decide⟩
  obtain ⟨T43, h43, X43, e43, W43, st43⟩ := stI X41 hx hZ e41 Ar42 (j := (20 : Int32)) hin42 (g := (mkF m 138 #[.val (.int p1), .val (.int p2), .unset, .unset, .unset, .unset, .unset, .unset] [(.int (11264 : Int32)), (.int (20 : Int32)), (.ref b1), (.ref b1)])) rfl rfl (hb hby at_138)
  obtain ⟨Lh43, X43, N43⟩ := own_hide X43 (Fr.snoc X43 N41 g_b1)
  replace Kh := Kh.wr W43 (Or.inr sz_b1)
  replace V_w := Arv.other V_w W43 ne_w_b1
  replace S_NAME_START_RANGES := Sta.wr W43 S_NAME_START_RANGES
  have V_b1_43 : Arv Z h43 b1 k1 .int (34 : Int32) [(.int (58 : Int32)), (.int (95 : Int32)), (.int (65 : Int32)), (.int (90 : Int32)), (.int (97 : Int32)), (.int (122 : Int32)), (.int (192 : Int32)), (.int (214 : Int32)), (.int (216 : Int32)), (.int (246 : Int32)), (.int (248 : Int32)), (.int (767 : Int32)), (.int (880 : Int32)), (.int (893 : Int32)), (.int (895 : Int32)), (.int (8191 : Int32)), (.int (8204 : Int32)), (.int (8205 : Int32)), (.int (8304 : Int32)), (.int (8591 : Int32)), (.int (11264 : Int32)), (.int (0 : Int32)), (.int (0 : Int32)), (.int (0 : Int32)), (.int (0 : Int32)), (.int (0 : Int32)), (.int (0 : Int32)), (.int (0 : Int32)), (.int (0 : Int32)), (.int (0 : Int32)), (.int (0 : Int32)), (.int (0 : Int32)), (.int (0 : Int32)), (.int (0 : Int32))] (.int (0 : Int32)) := Arv.set Ar42 q42 S42 Nn42 Hh42 G42 rfl W43 20 rfl (Nat.le_of_ble_eq_true rfl)
  refine own_go (st43) ?_
  show own_R p e below _ T43 (mkF m 139 #[.val (.int p1), .val (.int p2), .unset, .unset, .unset, .unset, .unset, .unset] [(.ref b1)])
  refine own_go (fun t k => XS.dup X43.here hx rfl (hb hby at_139) rfl rfl k) ?_
  show own_R p e below _ T43 (mkF m 140 #[.val (.int p1), .val (.int p2), .unset, .unset, .unset, .unset, .unset, .unset] [(.ref b1), (.ref b1)])
  refine own_go (fun t k => XS.bipush X43.here hx rfl (hb hby at_140) k) ?_
  show own_R p e below _ T43 (mkF m 142 #[.val (.int p1), .val (.int p2), .unset, .unset, .unset, .unset, .unset, .unset] [(.int (21 : Int32)), (.ref b1), (.ref b1)])
  refine own_go (fun t k => XS.sipush X43.here hx rfl (hb hby at_142) k) ?_
  show own_R p e below _ T43 (mkF m 145 #[.val (.int p1), .val (.int p2), .unset, .unset, .unset, .unset, .unset, .unset] [(.int (12271 : Int32)), (.int (21 : Int32)), (.ref b1), (.ref b1)])
  obtain ⟨cl44, Ar44, q44, S44, Nn44, Hh44, G44⟩ := id V_b1_43
  have hin44 : ¬ ((21 : Int32) < 0 ∨ cl44.slots.size ≤ ((21 : Int32)).toNatClampNeg) := inb_of S44 ⟨by decide, by decide⟩
  obtain ⟨T45, h45, X45, e45, W45, st45⟩ := stI X43 hx hZ e43 Ar44 (j := (21 : Int32)) hin44 (g := (mkF m 145 #[.val (.int p1), .val (.int p2), .unset, .unset, .unset, .unset, .unset, .unset] [(.int (12271 : Int32)), (.int (21 : Int32)), (.ref b1), (.ref b1)])) rfl rfl (hb hby at_145)
  obtain ⟨Lh45, X45, N45⟩ := own_hide X45 (Fr.snoc X45 N43 g_b1)
  replace Kh := Kh.wr W45 (Or.inr sz_b1)
  replace V_w := Arv.other V_w W45 ne_w_b1
  replace S_NAME_START_RANGES := Sta.wr W45 S_NAME_START_RANGES
  have V_b1_45 : Arv Z h45 b1 k1 .int (34 : Int32) [(.int (58 : Int32)), (.int (95 : Int32)), (.int (65 : Int32)), (.int (90 : Int32)), (.int (97 : Int32)), (.int (122 : Int32)), (.int (192 : Int32)), (.int (214 : Int32)), (.int (216 : Int32)), (.int (246 : Int32)), (.int (248 : Int32)), (.int (767 : Int32)), (.int (880 : Int32)), (.int (893 : Int32)), (.int (895 : Int32)), (.int (8191 : Int32)), (.int (8204 : Int32)), (.int (8205 : Int32)), (.int (8304 : Int32)), (.int (8591 : Int32)), (.int (11264 : Int32)), (.int (12271 : Int32)), (.int (0 : Int32)), (.int (0 : Int32)), (.int (0 : Int32)), (.int (0 : Int32)), (.int (0 : Int32)), (.int (0 : Int32)), (.int (0 : Int32)), (.int (0 : Int32)), (.int (0 : Int32)), (.int (0 : Int32)), (.int (0 : Int32)), (.int (0 : Int32))] (.int (0 : Int32)) := Arv.set Ar44 q44 S44 Nn44 Hh44 G44 rfl W45 21 rfl (Nat.le_of_ble_eq_true rfl)
  refine own_go (st45) ?_
  show own_R p e below _ T45 (mkF m 146 #[.val (.int p1), .val (.int p2), .unset, .unset, .unset, .unset, .unset, .unset] [(.ref b1)])
  refine own_go (fun t k => XS.dup X45.here hx rfl (hb hby at_146) rfl rfl k) ?_
  show own_R p e below _ T45 (mkF m 147 #[.val (.int p1), .val (.int p2), .unset, .unset, .unset, .unset, .unset, .unset] [(.ref b1), (.ref b1)])
  refine own_go (fun t k => XS.bipush X45.here hx rfl (hb hby at_147) k) ?_
  show own_R p e below _ T45 (mkF m 149 #[.val (.int p1), .val (.int p2), .unset, .unset, .unset, .unset, .unset, .unset] [(.int (22 : Int32)), (.ref b1), (.ref b1)])
  refine own_go (fun t k => XS.sipush X45.here hx rfl (hb hby at_149) k) ?_
  show own_R p e below _ T45 (mkF m 152 #[.val (.int p1), .val (.int p2), .unset, .unset, .unset, .unset, .unset, .unset] [(.int (12289 : Int32)), (.int (22 : Int32)), (.ref b1), (.ref b1)])
  obtain ⟨cl46, Ar46, q46, S46, Nn46, Hh46, G46⟩ := id V_b1_45
  have hin46 : ¬ ((22 : Int32) < 0 ∨ cl46.slots.size ≤ ((22 : Int32)).toNatClampNeg) := inb_of S46 ⟨by decide, by decide⟩
  obtain ⟨T47, h47, X47, e47, W47, st47⟩ := stI X45 hx hZ e45 Ar46 (j := (22 : Int32)) hin46 (g := (mkF m 152 #[.val (.int p1), .val (.int p2), .unset, .unset, .unset, .unset, .unset, .unset] [(.int (12289 : Int32)), (.int (22 : Int32)), (.ref b1), (.ref b1)])) rfl rfl (hb hby at_152)
  obtain ⟨Lh47, X47, N47⟩ := own_hide X47 (Fr.snoc X47 N45 g_b1)
  replace Kh := Kh.wr W47 (Or.inr sz_b1)
  replace V_w := Arv.other V_w W47 ne_w_b1
  replace S_NAME_START_RANGES := Sta.wr W47 S_NAME_START_RANGES
  have V_b1_47 : Arv Z h47 b1 k1 .int (34 : Int32) [(.int (58 : Int32)), (.int (95 : Int32)), (.int (65 : Int32)), (.int (90 : Int32)), (.int (97 : Int32)), (.int (122 : Int32)), (.int (192 : Int32)), (.int (214 : Int32)), (.int (216 : Int32)), (.int (246 : Int32)), (.int (248 : Int32)), (.int (767 : Int32)), (.int (880 : Int32)), (.int (893 : Int32)), (.int (895 : Int32)), (.int (8191 : Int32)), (.int (8204 : Int32)), (.int (8205 : Int32)), (.int (8304 : Int32)), (.int (8591 : Int32)), (.int (11264 : Int32)), (.int (12271 : Int32)), (.int (12289 : Int32)), (.int (0 : Int32)), (.int (0 : Int32)), (.int (0 : Int32)), (.int (0 : Int32)), (.int (0 : Int32)), (.int (0 : Int32)), (.int (0 : Int32)), (.int (0 : Int32)), (.int (0 : Int32)), (.int (0 : Int32)), (.int (0 : Int32))] (.int (0 : Int32)) := Arv.set Ar46 q46 S46 Nn46 Hh46 G46 rfl W47 22 rfl (Nat.le_of_ble_eq_true rfl)
  refine own_go (st47) ?_
  show own_R p e below _ T47 (mkF m 153 #[.val (.int p1), .val (.int p2), .unset, .unset, .unset, .unset, .unset, .unset] [(.ref b1)])
  refine own_go (fun t k => XS.dup X47.here hx rfl (hb hby at_153) rfl rfl k) ?_
  show own_R p e below _ T47 (mkF m 154 #[.val (.int p1), .val (.int p2), .unset, .unset, .unset, .unset, .unset, .unset] [(.ref b1), (.ref b1)])
  refine own_go (fun t k => XS.bipush X47.here hx rfl (hb hby at_154) k) ?_
  show own_R p e below _ T47 (mkF m 156 #[.val (.int p1), .val (.int p2), .unset, .unset, .unset, .unset, .unset, .unset] [(.int (23 : Int32)), (.ref b1), (.ref b1)])
  refine own_go (X47.ldcInt hx hown (mvT hZ (hw _ (List.mem_of_getElem? (i := 1) rfl))) (g := (mkF m 156 #[.val (.int p1), .val (.int p2), .unset, .unset, .unset, .unset, .unset, .unset] [(.int (23 : Int32)), (.ref b1), (.ref b1)])) rfl (hb hby at_156)) ?_
  show own_R p e below _ T47 (mkF m 158 #[.val (.int p1), .val (.int p2), .unset, .unset, .unset, .unset, .unset, .unset] [(.int (55295 : Int32)), (.int (23 : Int32)), (.ref b1), (.ref b1)])
  obtain ⟨cl48, Ar48, q48, S48, Nn48, Hh48, G48⟩ := id V_b1_47
  have hin48 : ¬ ((23 : Int32) < 0 ∨ cl48.slots.size ≤ ((23 : Int32)).toNatClampNeg) := inb_of S48 ⟨by decide, by decide⟩
  obtain ⟨T49, h49, X49, e49, W49, st49⟩ := stI X47 hx hZ e47 Ar48 (j := (23 : Int32)) hin48 (g := (mkF m 158 #[.val (.int p1), .val (.int p2), .unset, .unset, .unset, .unset, .unset, .unset] [(.int (55295 : Int32)), (.int (23 : Int32)), (.ref b1), (.ref b1)])) rfl rfl (hb hby at_158)
  obtain ⟨Lh49, X49, N49⟩ := own_hide X49 (Fr.snoc X49 N47 g_b1)
  replace Kh := Kh.wr W49 (Or.inr sz_b1)
  replace V_w := Arv.other V_w W49 ne_w_b1
  replace S_NAME_START_RANGES := Sta.wr W49 S_NAME_START_RANGES
  have V_b1_49 : Arv Z h49 b1 k1 .int (34 : Int32) [(.int (58 : Int32)), (.int (95 : Int32)), (.int (65 : Int32)), (.int (90 : Int32)), (.int (97 : Int32)), (.int (122 : Int32)), (.int (192 : Int32)), (.int (214 : Int32)), (.int (216 : Int32)), (.int (246 : Int32)), (.int (248 : Int32)), (.int (767 : Int32)), (.int (880 : Int32)), (.int (893 : Int32)), (.int (895 : Int32)), (.int (8191 : Int32)), (.int (8204 : Int32)), (.int (8205 : Int32)), (.int (8304 : Int32)), (.int (8591 : Int32)), (.int (11264 : Int32)), (.int (12271 : Int32)), (.int (12289 : Int32)), (.int (55295 : Int32)), (.int (0 : Int32)), (.int (0 : Int32)), (.int (0 : Int32)), (.int (0 : Int32)), (.int (0 : Int32)), (.int (0 : Int32)), (.int (0 : Int32)), (.int (0 : Int32)), (.int (0 : Int32)), (.int (0 : Int32))] (.int (0 : Int32)) := Arv.set Ar48 q48 S48 Nn48 Hh48 G48 rfl W49 23 rfl (Nat.le_of_ble_eq_true rfl)
  refine own_go (st49) ?_
  show own_R p e below _ T49 (mkF m 159 #[.val (.int p1), .val (.int p2), .unset, .unset, .unset, .unset, .unset, .unset] [(.ref b1)])
  refine own_go (fun t k => XS.dup X49.here hx rfl (hb hby at_159) rfl rfl k) ?_
  show own_R p e below _ T49 (mkF m 160 #[.val (.int p1), .val (.int p2), .unset, .unset, .unset, .unset, .unset, .unset] [(.ref b1), (.ref b1)])
  refine own_go (fun t k => XS.bipush X49.here hx rfl (hb hby at_160) k) ?_
  show own_R p e below _ T49 (mkF m 162 #[.val (.int p1), .val (.int p2), .unset, .unset, .unset, .unset, .unset, .unset] [(.int (24 : Int32)), (.ref b1), (.ref b1)])
  refine own_go (X49.ldcInt hx hown (mvT hZ (hw _ (List.mem_of_getElem? (i := 2) rfl))) (g := (mkF m 162 #[.val (.int p1), .val (.int p2), .unset, .unset, .unset, .unset, .unset, .unset] [(.int (24 : Int32)), (.ref b1), (.ref b1)])) rfl (hb hby at_162)) ?_
  show own_R p e below _ T49 (mkF m 164 #[.val (.int p1), .val (.int p2), .unset, .unset, .unset, .unset, .unset, .unset] [(.int (63744 : Int32)), (.int (24 : Int32)), (.ref b1), (.ref b1)])
  obtain ⟨cl50, Ar50, q50, S50, Nn50, Hh50, G50⟩ := id V_b1_49
  have hin50 : ¬ ((24 : Int32) < 0 ∨ cl50.slots.size ≤ ((24 : Int32)).toNatClampNeg) := inb_of S50 ⟨by decide, by decide⟩
  obtain ⟨T51, h51, X51, e51, W51, st51⟩ := stI X49 hx hZ e49 Ar50 (j := (24 : Int32)) hin50 (g := (mkF m 164 #[.val (.int p1), .val (.int p2), .unset, .unset, .unset, .unset, .unset, .unset] [(.int (63744 : Int32)), (.int (24 : Int32)), (.ref b1), (.ref b1)])) rfl rfl (hb hby at_164)
  obtain ⟨Lh51, X51, N51⟩ := own_hide X51 (Fr.snoc X51 N49 g_b1)
  replace Kh := Kh.wr W51 (Or.inr sz_b1)
  replace V_w := Arv.other V_w W51 ne_w_b1
  replace S_NAME_START_RANGES := Sta.wr W51 S_NAME_START_RANGES
  have V_b1_51 : Arv Z h51 b1 k1 .int (34 : Int32) [(.int (58 : Int32)), (.int (95 : Int32)), (.int (65 : Int32)), (.int (90 : Int32)), (.int (97 : Int32)), (.int (122 : Int32)), (.int (192 : Int32)), (.int (214 : Int32)), (.int (216 : Int32)), (.int (246 : Int32)), (.int (248 : Int32)), (.int (767 : Int32)), (.int (880 : Int32)), (.int (893 : Int32)), (.int (895 : Int32)), (.int (8191 : Int32)), (.int (8204 : Int32)), (.int (8205 : Int32)), (.int (8304 : Int32)), (.int (8591 : Int32)), (.int (11264 : Int32)), (.int (12271 : Int32)), (.int (12289 : Int32)), (.int (55295 : Int32)), (.int (63744 : Int32)), (.int (0 : Int32)), (.int (0 : Int32)), (.int (0 : Int32)), (.int (0 : Int32)), (.int (0 : Int32)), (.int (0 : Int32)), (.int (0 : Int32)), (.int (0 : Int32)), (.int (0 : Int32))] (.int (0 : Int32)) := Arv.set Ar50 q50 S50 Nn50 Hh50 G50 rfl W51 24 rfl (Nat.le_of_ble_eq_true rfl)
  refine own_go (st51) ?_
  show own_R p e below _ T51 (mkF m 165 #[.val (.int p1), .val (.int p2), .unset, .unset, .unset, .unset, .unset, .unset] [(.ref b1)])
  refine own_go (fun t k => XS.dup X51.here hx rfl (hb hby at_165) rfl rfl k) ?_
  show own_R p e below _ T51 (mkF m 166 #[.val (.int p1), .val (.int p2), .unset, .unset, .unset, .unset, .unset, .unset] [(.ref b1), (.ref b1)])
  refine own_go (fun t k => XS.bipush X51.here hx rfl (hb hby at_166) k) ?_
  show own_R p e below _ T51 (mkF m 168 #[.val (.int p1), .val (.int p2), .unset, .unset, .unset, .unset, .unset, .unset] [(.int (25 : Int32)), (.ref b1), (.ref b1)])
  refine own_go (X51.ldcInt hx hown (mvT hZ (hw _ (List.mem_of_getElem? (i := 3) rfl))) (g := (mkF m 168 #[.val (.int p1), .val (.int p2), .unset, .unset, .unset, .unset, .unset, .unset] [(.int (25 : Int32)), (.ref b1), (.ref b1)])) rfl (hb hby at_168)) ?_
  show own_R p e below _ T51 (mkF m 170 #[.val (.int p1), .val (.int p2), .unset, .unset, .unset, .unset, .unset, .unset] [(.int (64975 : Int32)), (.int (25 : Int32)), (.ref b1), (.ref b1)])
  obtain ⟨cl52, Ar52, q52, S52, Nn52, Hh52, G52⟩ := id V_b1_51
  have hin52 : ¬ ((25 : Int32) < 0 ∨ cl52.slots.size ≤ ((25 : Int32)).toNatClampNeg) := inb_of S52 ⟨by decide, by decide⟩
  obtain ⟨T53, h53, X53, e53, W53, st53⟩ := stI X51 hx hZ e51 Ar52 (j := (25 : Int32)) hin52 (g := (mkF m 170 #[.val (.int p1), .val (.int p2), .unset, .unset, .unset, .unset, .unset, .unset] [(.int (64975 : Int32)), (.int (25 : Int32)), (.ref b1), (.ref b1)])) rfl rfl (hb hby at_170)
  obtain ⟨Lh53, X53, N53⟩ := own_hide X53 (Fr.snoc X53 N51 g_b1)
  replace Kh := Kh.wr W53 (Or.inr sz_b1)
  replace V_w := Arv.other V_w W53 ne_w_b1
  replace S_NAME_START_RANGES := Sta.wr W53 S_NAME_START_RANGES
  have V_b1_53 : Arv Z h53 b1 k1 .int (34 : Int32) [(.int (58 : Int32)), (.int (95 : Int32)), (.int (65 : Int32)), (.int (90 : Int32)), (.int (97 : Int32)), (.int (122 : Int32)), (.int (192 : Int32)), (.int (214 : Int32)), (.int (216 : Int32)), (.int (246 : Int32)), (.int (248 : Int32)), (.int (767 : Int32)), (.int (880 : Int32)), (.int (893 : Int32)), (.int (895 : Int32)), (.int (8191 : Int32)), (.int (8204 : Int32)), (.int (8205 : Int32)), (.int (8304 : Int32)), (.int (8591 : Int32)), (.int (11264 : Int32)), (.int (12271 : Int32)), (.int (12289 : Int32)), (.int (55295 : Int32)), (.int (63744 : Int32)), (.int (64975 : Int32)), (.int (0 : Int32)), (.int (0 : Int32)), (.int (0 : Int32)), (.int (0 : Int32)), (.int (0 : Int32)), (.int (0 : Int32)), (.int (0 : Int32)), (.int (0 : Int32))] (.int (0 : Int32)) := Arv.set Ar52 q52 S52 Nn52 Hh52 G52 rfl W53 25 rfl (Nat.le_of_ble_eq_true rfl)
  refine own_go (st53) ?_
  show own_R p e below _ T53 (mkF m 171 #[.val (.int p1), .val (.int p2), .unset, .unset, .unset, .unset, .unset, .unset] [(.ref b1)])
  refine own_go (fun t k => XS.dup X53.here hx rfl (hb hby at_171) rfl rfl k) ?_
  show own_R p e below _ T53 (mkF m 172 #[.val (.int p1), .val (.int p2), .unset, .unset, .unset, .unset, .unset, .unset] [(.ref b1), (.ref b1)])
  refine own_go (fun t k => XS.bipush X53.here hx rfl (hb hby at_172) k) ?_
  show own_R p e below _ T53 (mkF m 174 #[.val (.int p1), .val (.int p2), .unset, .unset, .unset, .unset, .unset, .unset] [(.int (26 : Int32)), (.ref b1), (.ref b1)])
  refine own_go (X53.ldcInt hx hown (mvT hZ (hw _ (List.mem_of_getElem? (i := 4) rfl))) (g := (mkF m 174 #[.val (.int p1), .val (.int p2), .unset, .unset, .unset, .unset, .unset, .unset] [(.int (26 : Int32)), (.ref b1), (.ref b1)])) rfl (hb hby at_174)) ?_
  show own_R p e below _ T53 (mkF m 176 #[.val (.int p1), .val (.int p2), .unset, .unset, .unset, .unset, .unset, .unset] [(.int (65008 : Int32)), (.int (26 : Int32)), (.ref b1), (.ref b1)])
  obtain ⟨cl54, Ar54, q54, S54, Nn54, Hh54, G54⟩ := id V_b1_53
  have hin54 : ¬ ((26 : Int32) < 0 ∨ cl54.slots.size ≤ ((26 : Int32)).toNatClampNeg) := inb_of S54 ⟨by decide, by decide⟩
  obtain ⟨T55, h55, X55, e55, W55, st55⟩ := stI X53 hx hZ e53 Ar54 (j := (26 : Int32)) hin54 (g := (mkF m 176 #[.val (.int p1), .val (.int p2), .unset, .unset, .unset, .unset, .unset, .unset] [(.int (65008 : Int32)), (.int (26 : Int32)), (.ref b1), (.ref b1)])) rfl rfl (hb hby at_176)
  obtain ⟨Lh55, X55, N55⟩ := own_hide X55 (Fr.snoc X55 N53 g_b1)
  replace Kh := Kh.wr W55 (Or.inr sz_b1)
  replace V_w := Arv.other V_w W55 ne_w_b1
  replace S_NAME_START_RANGES := Sta.wr W55 S_NAME_START_RANGES
  have V_b1_55 : Arv Z h55 b1 k1 .int (34 : Int32) [(.int (58 : Int32)), (.int (95 : Int32)), (.int (65 : Int32)), (.int (90 : Int32)), (.int (97 : Int32)), (.int (122 : Int32)), (.int (192 : Int32)), (.int (214 : Int32)), (.int (216 : Int32)), (.int (246 : Int32)), (.int (248 : Int32)), (.int (767 : Int32)), (.int (880 : Int32)), (.int (893 : Int32)), (.int (895 : Int32)), (.int (8191 : Int32)), (.int (8204 : Int32)), (.int (8205 : Int32)), (.int (8304 : Int32)), (.int (8591 : Int32)), (.int (11264 : Int32)), (.int (12271 : Int32)), (.int (12289 : Int32)), (.int (55295 : Int32)), (.int (63744 : Int32)), (.int (64975 : Int32)), (.int (65008 : Int32)), (.int (0 : Int32)), (.int (0 : Int32)), (.int (0 : Int32)), (.int (0 : Int32)), (.int (0 : Int32)), (.int (0 : Int32)), (.int (0 : Int32))] (.int (0 : Int32)) := Arv.set Ar54 q54 S54 Nn54 Hh54 G54 rfl W55 26 rfl (Nat.le_of_ble_eq_true rfl)
  refine own_go (st55) ?_
  show own_R p e below _ T55 (mkF m 177 #[.val (.int p1), .val (.int p2), .unset, .unset, .unset, .unset, .unset, .unset] [(.ref b1)])
  refine own_go (fun t k => XS.dup X55.here hx rfl (hb hby at_177) rfl rfl k) ?_
  show own_R p e below _ T55 (mkF m 178 #[.val (.int p1), .val (.int p2), .unset, .unset, .unset, .unset, .unset, .unset] [(.ref b1), (.ref b1)])
  refine own_go (fun t k => XS.bipush X55.here hx rfl (hb hby at_178) k) ?_
  show own_R p e below _ T55 (mkF m 180 #[.val (.int p1), .val (.int p2), .unset, .unset, .unset, .unset, .unset, .unset] [(.int (27 : Int32)), (.ref b1), (.ref b1)])
  refine own_go (X55.ldcInt hx hown (mvT hZ (hw _ (List.mem_of_getElem? (i := 5) rfl))) (g := (mkF m 180 #[.val (.int p1), .val (.int p2), .unset, .unset, .unset, .unset, .unset, .unset] [(.int (27 : Int32)), (.ref b1), (.ref b1)])) rfl (hb hby at_180)) ?_
  show own_R p e below _ T55 (mkF m 182 #[.val (.int p1), .val (.int p2), .unset, .unset, .unset, .unset, .unset, .unset] [(.int (65533 : Int32)), (.int (27 : Int32)), (.ref b1), (.ref b1)])
  obtain ⟨cl56, Ar56, q56, S56, Nn56, Hh56, G56⟩ := id V_b1_55
  have hin56 : ¬ ((27 : Int32) < 0 ∨ cl56.slots.size ≤ ((27 : Int32)).toNatClampNeg) := inb_of S56 ⟨by decide, by decide⟩
  obtain ⟨T57, h57, X57, e57, W57, st57⟩ := stI X55 hx hZ e55 Ar56 (j := (27 : Int32)) hin56 (g := (mkF m 182 #[.val (.int p1), .val (.int p2), .unset, .unset, .unset, .unset, .unset, .unset] [(.int (65533 : Int32)), (.int (27 : Int32)), (.ref b1), (.ref b1)])) rfl rfl (hb hby at_182)
  obtain ⟨Lh57, X57, N57⟩ := own_hide X57 (Fr.snoc X57 N55 g_b1)
  replace Kh := Kh.wr W57 (Or.inr sz_b1)
  replace V_w := Arv.other V_w W57 ne_w_b1
  replace S_NAME_START_RANGES := Sta.wr W57 S_NAME_START_RANGES
  have V_b1_57 : Arv Z h57 b1 k1 .int (34 : Int32) [(.int (58 : Int32)), (.int (95 : Int32)), (.int (65 : Int32)), (.int (90 : Int32)), (.int (97 : Int32)), (.int (122 : Int32)), (.int (192 : Int32)), (.int (214 : Int32)), (.int (216 : Int32)), (.int (246 : Int32)), (.int (248 : Int32)), (.int (767 : Int32)), (.int (880 : Int32)), (.int (893 : Int32)), (.int (895 : Int32)), (.int (8191 : Int32)), (.int (8204 : Int32)), (.int (8205 : Int32)), (.int (8304 : Int32)), (.int (8591 : Int32)), (.int (11264 : Int32)), (.int (12271 : Int32)), (.int (12289 : Int32)), (.int (55295 : Int32)), (.int (63744 : Int32)), (.int (64975 : Int32)), (.int (65008 : Int32)), (.int (65533 : Int32)), (.int (0 : Int32)), (.int (0 : Int32)), (.int (0 : Int32)), (.int (0 : Int32)), (.int (0 : Int32)), (.int (0 : Int32))] (.int (0 : Int32)) := Arv.set Ar56 q56 S56 Nn56 Hh56 G56 rfl W57 27 rfl (Nat.le_of_ble_eq_true rfl)
  refine own_go (st57) ?_
  show own_R p e below _ T57 (mkF m 183 #[.val (.int p1), .val (.int p2), .unset, .unset, .unset, .unset, .unset, .unset] [(.ref b1)])
  refine own_go (fun t k => XS.dup X57.here hx rfl (hb hby at_183) rfl rfl k) ?_
  show own_R p e below _ T57 (mkF m 184 #[.val (.int p1), .val (.int p2), .unset, .unset, .unset, .unset, .unset, .unset] [(.ref b1), (.ref b1)])
  refine own_go (fun t k => XS.bipush X57.here hx rfl (hb hby at_184) k) ?_
  show own_R p e below _ T57 (mkF m 186 #[.val (.int p1), .val (.int p2), .unset, .unset, .unset, .unset, .unset, .unset] [(.int (28 : Int32)), (.ref b1), (.ref b1)])
  refine own_go (X57.ldcInt hx hown (mvT hZ (hw _ (List.mem_of_getElem? (i := 6) rfl))) (g := (mkF m 186 #[.val (.int p1), .val (.int p2), .unset, .unset, .unset, .unset, .unset, .unset] [(.int (28 : Int32)), (.ref b1), (.ref b1)])) rfl (hb hby at_186)) ?_
  show own_R p e below _ T57 (mkF m 188 #[.val (.int p1), .val (.int p2), .unset, .unset, .unset, .unset, .unset, .unset] [(.int (65536 : Int32)), (.int (28 : Int32)), (.ref b1), (.ref b1)])
  obtain ⟨cl58, Ar58, q58, S58, Nn58, Hh58, G58⟩ := id V_b1_57
  have hin58 : ¬ ((28 : Int32) < 0 ∨ cl58.slots.size ≤ ((28 : Int32)).toNatClampNeg) := inb_of S58 ⟨by decide, by decide⟩
  obtain ⟨T59, h59, X59, e59, W59, st59⟩ := stI X57 hx hZ e57 Ar58 (j := (28 : Int32)) hin58 (g := (mkF m 188 #[.val (.int p1), .val (.int p2), .unset, .unset, .unset, .unset, .unset, .unset] [(.int (65536 : Int32)), (.int (28 : Int32)), (.ref b1), (.ref b1)])) rfl rfl (hb hby at_188)
  obtain ⟨Lh59, X59, N59⟩ := own_hide X59 (Fr.snoc X59 N57 g_b1)
  replace Kh := Kh.wr W59 (Or.inr sz_b1)
  replace V_w := Arv.other V_w W59 ne_w_b1
  replace S_NAME_START_RANGES := Sta.wr W59 S_NAME_START_RANGES
  have V_b1_59 : Arv Z h59 b1 k1 .int (34 : Int32) [(.int (58 : Int32)), (.int (95 : Int32)), (.int (65 : Int32)), (.int (90 : Int32)), (.int (97 : Int32)), (.int (122 : Int32)), (.int (192 : Int32)), (.int (214 : Int32)), (.int (216 : Int32)), (.int (246 : Int32)), (.int (248 : Int32)), (.int (767 : Int32)), (.int (880 : Int32)), (.int (893 : Int32)), (.int (895 : Int32)), (.int (8191 : Int32)), (.int (8204 : Int32)), (.int (8205 : Int32)), (.int (8304 : Int32)), (.int (8591 : Int32)), (.int (11264 : Int32)), (.int (12271 : Int32)), (.int (12289 : Int32)), (.int (55295 : Int32)), (.int (63744 : Int32)), (.int (64975 : Int32)), (.int (65008 : Int32)), (.int (65533 : Int32)), (.int (65536 : Int32)), (.int (0 : Int32)), (.int (0 : Int32)), (.int (0 : Int32)), (.int (0 : Int32)), (.int (0 : Int32))] (.int (0 : Int32)) := Arv.set Ar58 q58 S58 Nn58 Hh58 G58 rfl W59 28 rfl (Nat.le_of_ble_eq_true rfl)
  refine own_go (st59) ?_
  show own_R p e below _ T59 (mkF m 189 #[.val (.int p1), .val (.int p2), .unset, .unset, .unset, .unset, .unset, .unset] [(.ref b1)])
  refine own_go (fun t k => XS.dup X59.here hx rfl (hb hby at_189) rfl rfl k) ?_
  show own_R p e below _ T59 (mkF m 190 #[.val (.int p1), .val (.int p2), .unset, .unset, .unset, .unset, .unset, .unset] [(.ref b1), (.ref b1)])
  refine own_go (fun t k => XS.bipush X59.here hx rfl (hb hby at_190) k) ?_
  show own_R p e below _ T59 (mkF m 192 #[.val (.int p1), .val (.int p2), .unset, .unset, .unset, .unset, .unset, .unset] [(.int (29 : Int32)), (.ref b1), (.ref b1)])
  refine own_go (X59.ldcInt hx hown (mvT hZ (hw _ (List.mem_of_getElem? (i := 7) rfl))) (g := (mkF m 192 #[.val (.int p1), .val (.int p2), .unset, .unset, .unset, .unset, .unset, .unset] [(.int (29 : Int32)), (.ref b1), (.ref b1)])) rfl (hb hby at_192)) ?_
  show own_R p e below _ T59 (mkF m 194 #[.val (.int p1), .val (.int p2), .unset, .unset, .unset, .unset, .unset, .unset] [(.int (983039 : Int32)), (.int (29 : Int32)), (.ref b1), (.ref b1)])
  obtain ⟨cl60, Ar60, q60, S60, Nn60, Hh60, G60⟩ := id V_b1_59
  have hin60 : ¬ ((29 : Int32) < 0 ∨ cl60.slots.size ≤ ((29 : Int32)).toNatClampNeg) := inb_of S60 ⟨by decide, by decide⟩
  obtain ⟨T61, h61, X61, e61, W61, st61⟩ := stI X59 hx hZ e59 Ar60 (j := (29 : Int32)) hin60 (g := (mkF m 194 #[.val (.int p1), .val (.int p2), .unset, .unset, .unset, .unset, .unset, .unset] [(.int (983039 : Int32)), (.int (29 : Int32)), (.ref b1), (.ref b1)])) rfl rfl (hb hby at_194)
  obtain ⟨Lh61, X61, N61⟩ := own_hide X61 (Fr.snoc X61 N59 g_b1)
  replace Kh := Kh.wr W61 (Or.inr sz_b1)
  replace V_w := Arv.other V_w W61 ne_w_b1
  replace S_NAME_START_RANGES := Sta.wr W61 S_NAME_START_RANGES
  have V_b1_61 : Arv Z h61 b1 k1 .int (34 : Int32) [(.int (58 : Int32)), (.int (95 : Int32)), (.int (65 : Int32)), (.int (90 : Int32)), (.int (97 : Int32)), (.int (122 : Int32)), (.int (192 : Int32)), (.int (214 : Int32)), (.int (216 : Int32)), (.int (246 : Int32)), (.int (248 : Int32)), (.int (767 : Int32)), (.int (880 : Int32)), (.int (893 : Int32)), (.int (895 : Int32)), (.int (8191 : Int32)), (.int (8204 : Int32)), (.int (8205 : Int32)), (.int (8304 : Int32)), (.int (8591 : Int32)), (.int (11264 : Int32)), (.int (12271 : Int32)), (.int (12289 : Int32)), (.int (55295 : Int32)), (.int (63744 : Int32)), (.int (64975 : Int32)), (.int (65008 : Int32)), (.int (65533 : Int32)), (.int (65536 : Int32)), (.int (983039 : Int32)), (.int (0 : Int32)), (.int (0 : Int32)), (.int (0 : Int32)), (.int (0 : Int32))] (.int (0 : Int32)) := Arv.set Ar60 q60 S60 Nn60 Hh60 G60 rfl W61 29 rfl (Nat.le_of_ble_eq_true rfl)
  refine own_go (st61) ?_
  show own_R p e below _ T61 (mkF m 195 #[.val (.int p1), .val (.int p2), .unset, .unset, .unset, .unset, .unset, .unset] [(.ref b1)])
  refine own_go (fun t k => XS.dup X61.here hx rfl (hb hby at_195) rfl rfl k) ?_
  show own_R p e below _ T61 (mkF m 196 #[.val (.int p1), .val (.int p2), .unset, .unset, .unset, .unset, .unset, .unset] [(.ref b1), (.ref b1)])
  refine own_go (fun t k => XS.bipush X61.here hx rfl (hb hby at_196) k) ?_
  show own_R p e below _ T61 (mkF m 198 #[.val (.int p1), .val (.int p2), .unset, .unset, .unset, .unset, .unset, .unset] [(.int (30 : Int32)), (.ref b1), (.ref b1)])
  refine own_go (fun t k => XS.iconst X61.here hx rfl (hb hby at_198) k) ?_
  show own_R p e below _ T61 (mkF m 199 #[.val (.int p1), .val (.int p2), .unset, .unset, .unset, .unset, .unset, .unset] [(.int (0 : Int32)), (.int (30 : Int32)), (.ref b1), (.ref b1)])
  obtain ⟨cl62, Ar62, q62, S62, Nn62, Hh62, G62⟩ := id V_b1_61
  have hin62 : ¬ ((30 : Int32) < 0 ∨ cl62.slots.size ≤ ((30 : Int32)).toNatClampNeg) := inb_of S62 ⟨by decide, by decide⟩
  obtain ⟨T63, h63, X63, e63, W63, st63⟩ := stI X61 hx hZ e61 Ar62 (j := (30 : Int32)) hin62 (g := (mkF m 199 #[.val (.int p1), .val (.int p2), .unset, .unset, .unset, .unset, .unset, .unset] [(.int (0 : Int32)), (.int (30 : Int32)), (.ref b1), (.ref b1)])) rfl rfl (hb hby at_199)
  obtain ⟨Lh63, X63, N63⟩ := own_hide X63 (Fr.snoc X63 N61 g_b1)
  replace Kh := Kh.wr W63 (Or.inr sz_b1)
  replace V_w := Arv.other V_w W63 ne_w_b1
  replace S_NAME_START_RANGES := Sta.wr W63 S_NAME_START_RANGES
  have V_b1_63 : Arv Z h63 b1 k1 .int (34 : Int32) [(.int (58 : Int32)), (.int (95 : Int32)), (.int (65 : Int32)), (.int (90 : Int32)), (.int (97 : Int32)), (.int (122 : Int32)), (.int (192 : Int32)), (.int (214 : Int32)), (.int (216 : Int32)), (.int (246 : Int32)), (.int (248 : Int32)), (.int (767 : Int32)), (.int (880 : Int32)), (.int (893 : Int32)), (.int (895 : Int32)), (.int (8191 : Int32)), (.int (8204 : Int32)), (.int (8205 : Int32)), (.int (8304 : Int32)), (.int (8591 : Int32)), (.int (11264 : Int32)), (.int (12271 : Int32)), (.int (12289 : Int32)), (.int (55295 : Int32)), (.int (63744 : Int32)), (.int (64975 : Int32)), (.int (65008 : Int32)), (.int (65533 : Int32)), (.int (65536 : Int32)), (.int (983039 : Int32)), (.int (0 : Int32)), (.int (0 : Int32)), (.int (0 : Int32)), (.int (0 : Int32))] (.int (0 : Int32)) := Arv.set Ar62 q62 S62 Nn62 Hh62 G62 rfl W63 30 rfl (Nat.le_of_ble_eq_true rfl)
  refine own_go (st63) ?_
  show own_R p e below _ T63 (mkF m 200 #[.val (.int p1), .val (.int p2), .unset, .unset, .unset, .unset, .unset, .unset] [(.ref b1)])
  refine own_go (fun t k => XS.dup X63.here hx rfl (hb hby at_200) rfl rfl k) ?_
  show own_R p e below _ T63 (mkF m 201 #[.val (.int p1), .val (.int p2), .unset, .unset, .unset, .unset, .unset, .unset] [(.ref b1), (.ref b1)])
  refine own_go (fun t k => XS.bipush X63.here hx rfl (hb hby at_201) k) ?_
  show own_R p e below _ T63 (mkF m 203 #[.val (.int p1), .val (.int p2), .unset, .unset, .unset, .unset, .unset, .unset] [(.int (31 : Int32)), (.ref b1), (.ref b1)])
  refine own_go (X63.ldcInt hx hown (mvT hZ (hw _ (List.mem_of_getElem? (i := 8) rfl))) (g := (mkF m 203 #[.val (.int p1), .val (.int p2), .unset, .unset, .unset, .unset, .unset, .unset] [(.int (31 : Int32)), (.ref b1), (.ref b1)])) rfl (hb hby at_203)) ?_
  show own_R p e below _ T63 (mkF m 205 #[.val (.int p1), .val (.int p2), .unset, .unset, .unset, .unset, .unset, .unset] [(.int (1114111 : Int32)), (.int (31 : Int32)), (.ref b1), (.ref b1)])
  obtain ⟨cl64, Ar64, q64, S64, Nn64, Hh64, G64⟩ := id V_b1_63
  have hin64 : ¬ ((31 : Int32) < 0 ∨ cl64.slots.size ≤ ((31 : Int32)).toNatClampNeg) := inb_of S64 ⟨by decide, by decide⟩
  obtain ⟨T65, h65, X65, e65, W65, st65⟩ := stI X63 hx hZ e63 Ar64 (j := (31 : Int32)) hin64 (g := (mkF m 205 #[.val (.int p1), .val (.int p2), .unset, .unset, .unset, .unset, .unset, .unset] [(.int (1114111 : Int32)), (.int (31 : Int32)), (.ref b1), (.ref b1)])) rfl rfl (hb hby at_205)
  obtain ⟨Lh65, X65, N65⟩ := own_hide X65 (Fr.snoc X65 N63 g_b1)
  replace Kh := Kh.wr W65 (Or.inr sz_b1)
  replace V_w := Arv.other V_w W65 ne_w_b1
  replace S_NAME_START_RANGES := Sta.wr W65 S_NAME_START_RANGES
  have V_b1_65 : Arv Z h65 b1 k1 .int (34 : Int32) [(.int (58 : Int32)), (.int (95 : Int32)), (.int (65 : Int32)), (.int (90 : Int32)), (.int (97 : Int32)), (.int (122 : Int32)), (.int (192 : Int32)), (.int (214 : Int32)), (.int (216 : Int32)), (.int (246 : Int32)), (.int (248 : Int32)), (.int (767 : Int32)), (.int (880 : Int32)), (.int (893 : Int32)), (.int (895 : Int32)), (.int (8191 : Int32)), (.int (8204 : Int32)), (.int (8205 : Int32)), (.int (8304 : Int32)), (.int (8591 : Int32)), (.int (11264 : Int32)), (.int (12271 : Int32)), (.int (12289 : Int32)), (.int (55295 : Int32)), (.int (63744 : Int32)), (.int (64975 : Int32)), (.int (65008 : Int32)), (.int (65533 : Int32)), (.int (65536 : Int32)), (.int (983039 : Int32)), (.int (0 : Int32)), (.int (1114111 : Int32)), (.int (0 : Int32)), (.int (0 : Int32))] (.int (0 : Int32)) := Arv.set Ar64 q64 S64 Nn64 Hh64 G64 rfl W65 31 rfl (Nat.le_of_ble_eq_true rfl)
  refine own_go (st65) ?_
  show own_R p e below _ T65 (mkF m 206 #[.val (.int p1), .val (.int p2), .unset, .unset, .unset, .unset, .unset, .unset] [(.ref b1)])
  refine own_go (fun t k => XS.dup X65.here hx rfl (hb hby at_206) rfl rfl k) ?_
  show own_R p e below _ T65 (mkF m 207 #[.val (.int p1), .val (.int p2), .unset, .unset, .unset, .unset, .unset, .unset] [(.ref b1), (.ref b1)])
  refine own_go (fun t k => XS.bipush X65.here hx rfl (hb hby at_207) k) ?_
  show own_R p e below _ T65 (mkF m 209 #[.val (.int p1), .val (.int p2), .unset, .unset, .unset, .unset, .unset, .unset] [(.int (32 : Int32)), (.ref b1), (.ref b1)])
  refine own_go (X65.ldcInt hx hown (mvT hZ (hw _ (List.mem_of_getElem? (i := 9) rfl))) (g := (mkF m 209 #[.val (.int p1), .val (.int p2), .unset, .unset, .unset, .unset, .unset, .unset] [(.int (32 : Int32)), (.ref b1), (.ref b1)])) rfl (hb hby at_209)) ?_
  show own_R p e below _ T65 (mkF m 211 #[.val (.int p1), .val (.int p2), .unset, .unset, .unset, .unset, .unset, .unset] [(.int (-2147483648 : Int32)), (.int (32 : Int32)), (.ref b1), (.ref b1)])
  obtain ⟨cl66, Ar66, q66, S66, Nn66, Hh66, G66⟩ := id V_b1_65
  have hin66 : ¬ ((32 : Int32) < 0 ∨ cl66.slots.size ≤ ((32 : Int32)).toNatClampNeg) := inb_of S66 ⟨by decide, by decide⟩
  obtain ⟨T67, h67, X67, e67, W67, st67⟩ := stI X65 hx hZ e65 Ar66 (j := (32 : Int32)) hin66 (g := (mkF m 211 #[.val (.int p1), .val (.int p2), .unset, .unset, .unset, .unset, .unset, .unset] [(.int (-2147483648 : Int32)), (.int (32 : Int32)), (.ref b1), (.ref b1)])) rfl rfl (hb hby at_211)
  obtain ⟨Lh67, X67, N67⟩ := own_hide X67 (Fr.snoc X67 N65 g_b1)
  replace Kh := Kh.wr W67 (Or.inr sz_b1)
  replace V_w := Arv.other V_w W67 ne_w_b1
  replace S_NAME_START_RANGES := Sta.wr W67 S_NAME_START_RANGES
  have V_b1_67 : Arv Z h67 b1 k1 .int (34 : Int32) [(.int (58 : Int32)), (.int (95 : Int32)), (.int (65 : Int32)), (.int (90 : Int32)), (.int (97 : Int32)), (.int (122 : Int32)), (.int (192 : Int32)), (.int (214 : Int32)), (.int (216 : Int32)), (.int (246 : Int32)), (.int (248 : Int32)), (.int (767 : Int32)), (.int (880 : Int32)), (.int (893 : Int32)), (.int (895 : Int32)), (.int (8191 : Int32)), (.int (8204 : Int32)), (.int (8205 : Int32)), (.int (8304 : Int32)), (.int (8591 : Int32)), (.int (11264 : Int32)), (.int (12271 : Int32)), (.int (12289 : Int32)), (.int (55295 : Int32)), (.int (63744 : Int32)), (.int (64975 : Int32)), (.int (65008 : Int32)), (.int (65533 : Int32)), (.int (65536 : Int32)), (.int (983039 : Int32)), (.int (0 : Int32)), (.int (1114111 : Int32)), (.int (-2147483648 : Int32)), (.int (0 : Int32))] (.int (0 : Int32)) := Arv.set Ar66 q66 S66 Nn66 Hh66 G66 rfl W67 32 rfl (Nat.le_of_ble_eq_true rfl)
  refine own_go (st67) ?_
  show own_R p e below _ T67 (mkF m 212 #[.val (.int p1), .val (.int p2), .unset, .unset, .unset, .unset, .unset, .unset] [(.ref b1)])
  refine own_go (fun t k => XS.dup X67.here hx rfl (hb hby at_212) rfl rfl k) ?_
  show own_R p e below _ T67 (mkF m 213 #[.val (.int p1), .val (.int p2), .unset, .unset, .unset, .unset, .unset, .unset] [(.ref b1), (.ref b1)])
  refine own_go (fun t k => XS.bipush X67.here hx rfl (hb hby at_213) k) ?_
  show own_R p e below _ T67 (mkF m 215 #[.val (.int p1), .val (.int p2), .unset, .unset, .unset, .unset, .unset, .unset] [(.int (33 : Int32)), (.ref b1), (.ref b1)])
  refine own_go (X67.ldcInt hx hown (mvT hZ (hw _ (List.mem_of_getElem? (i := 10) rfl))) (g := (mkF m 215 #[.val (.int p1), .val (.int p2), .unset, .unset, .unset, .unset, .unset, .unset] [(.int (33 : Int32)), (.ref b1), (.ref b1)])) rfl (hb hby at_215)) ?_
  show own_R p e below _ T67 (mkF m 217 #[.val (.int p1), .val (.int p2), .unset, .unset, .unset, .unset, .unset, .unset] [(.int (2147483647 : Int32)), (.int (33 : Int32)), (.ref b1), (.ref b1)])
  obtain ⟨cl68, Ar68, q68, S68, Nn68, Hh68, G68⟩ := id V_b1_67
  have hin68 : ¬ ((33 : Int32) < 0 ∨ cl68.slots.size ≤ ((33 : Int32)).toNatClampNeg) := inb_of S68 ⟨by decide, by decide⟩
  obtain ⟨T69, h69, X69, e69, W69, st69⟩ := stI X67 hx hZ e67 Ar68 (j := (33 : Int32)) hin68 (g := (mkF m 217 #[.val (.int p1), .val (.int p2), .unset, .unset, .unset, .unset, .unset, .unset] [(.int (2147483647 : Int32)), (.int (33 : Int32)), (.ref b1), (.ref b1)])) rfl rfl (hb hby at_217)
  obtain ⟨Lh69, X69, N69⟩ := own_hide X69 (Fr.snoc X69 N67 g_b1)
  replace Kh := Kh.wr W69 (Or.inr sz_b1)
  replace V_w := Arv.other V_w W69 ne_w_b1
  replace S_NAME_START_RANGES := Sta.wr W69 S_NAME_START_RANGES
  have V_b1_69 : Arv Z h69 b1 k1 .int (34 : Int32) [(.int (58 : Int32)), (.int (95 : Int32)), (.int (65 : Int32)), (.int (90 : Int32)), (.int (97 : Int32)), (.int (122 : Int32)), (.int (192 : Int32)), (.int (214 : Int32)), (.int (216 : Int32)), (.int (246 : Int32)), (.int (248 : Int32)), (.int (767 : Int32)), (.int (880 : Int32)), (.int (893 : Int32)), (.int (895 : Int32)), (.int (8191 : Int32)), (.int (8204 : Int32)), (.int (8205 : Int32)), (.int (8304 : Int32)), (.int (8591 : Int32)), (.int (11264 : Int32)), (.int (12271 : Int32)), (.int (12289 : Int32)), (.int (55295 : Int32)), (.int (63744 : Int32)), (.int (64975 : Int32)), (.int (65008 : Int32)), (.int (65533 : Int32)), (.int (65536 : Int32)), (.int (983039 : Int32)), (.int (0 : Int32)), (.int (1114111 : Int32)), (.int (-2147483648 : Int32)), (.int (2147483647 : Int32))] (.int (0 : Int32)) := Arv.set Ar68 q68 S68 Nn68 Hh68 G68 rfl W69 33 rfl (Nat.le_of_ble_eq_true rfl)
  refine own_go (st69) ?_
  show own_R p e below _ T69 (mkF m 218 #[.val (.int p1), .val (.int p2), .unset, .unset, .unset, .unset, .unset, .unset] [(.ref b1)])
  refine own_go (fun t k => XS.astoreN X69.here hx rfl (hb hby at_218) rfl rfl (l' := #[.val (.int p1), .val (.int p2), .val (.ref b1), .unset, .unset, .unset, .unset, .unset]) rfl k) ?_
  show own_R p e below _ T69 (mkF m 219 #[.val (.int p1), .val (.int p2), .val (.ref b1), .unset, .unset, .unset, .unset, .unset] [])
  refine own_go (fun t k => XS.iloadN X69.here hx rfl (hb hby at_219) rfl  k) ?_
  show own_R p e below _ T69 (mkF m 220 #[.val (.int p1), .val (.int p2), .val (.ref b1), .unset, .unset, .unset, .unset, .unset] [(.int p2)])
  refine own_go (X69.ldcInt hx hown (mvT hZ (hw _ (List.mem_of_getElem? (i := 10) rfl))) (g := (mkF m 220 #[.val (.int p1), .val (.int p2), .val (.ref b1), .unset, .unset, .unset, .unset, .unset] [(.int p2)])) rfl (hb hby at_220)) ?_
  show own_R p e below _ T69 (mkF m 222 #[.val (.int p1), .val (.int p2), .val (.ref b1), .unset, .unset, .unset, .unset, .unset] [(.int (2147483647 : Int32)), (.int p2)])
  refine own_go (fun t k => XS.iand X69.here hx rfl (hb hby at_222) rfl k) ?_
  show own_R p e below _ T69 (mkF m 223 #[.val (.int p1), .val (.int p2), .val (.ref b1), .unset, .unset, .unset, .unset, .unset] [(.int (p2 &&& (2147483647 : Int32)))])
  have hi0 := own_idx p2
  refine own_go (fun t k => XS.aloadN X69.here hx rfl (hb hby at_223) rfl rfl  k) ?_
  show own_R p e below _ T69 (mkF m 224 #[.val (.int p1), .val (.int p2), .val (.ref b1), .unset, .unset, .unset, .unset, .unset] [(.ref b1), (.int (p2 &&& (2147483647 : Int32)))])
  obtain ⟨cl70, Ar70, q70, S70, Nn70, Hh70, G70⟩ := id V_b1_69
  refine own_go (X69.arraylength hx (by rw [e69]; exact Ar70.1) (State.isArrayOf_alike hZ.alike Ar70.2.1) (g := (mkF m 224 #[.val (.int p1), .val (.int p2), .val (.ref b1), .unset, .unset, .unset, .unset, .unset] [(.ref b1), (.int (p2 &&& (2147483647 : Int32)))])) rfl rfl (hb hby at_224)) ?_
  rw [len_of S70 Nn70]
  show own_R p e below _ T69 (mkF m 225 #[.val (.int p1), .val (.int p2), .val (.ref b1), .unset, .unset, .unset, .unset, .unset] [(.int (34 : Int32)), (.int (p2 &&& (2147483647 : Int32)))])
  refine own_go (fun t k => iremM X69 hx rfl (hb hby at_225) rfl (by decide) k) ?_
  show own_R p e below _ T69 (mkF m 226 #[.val (.int p1), .val (.int p2), .val (.ref b1), .unset, .unset, .unset, .unset, .unset] [(.int ((p2 &&& (2147483647 : Int32)) % (34 : Int32)))])
  refine own_go (fun t k => XS.istoreN X69.here hx rfl (hb hby at_226) rfl (l' := #[.val (.int p1), .val (.int p2), .val (.ref b1), .val (.int ((p2 &&& (2147483647 : Int32)) % (34 : Int32))), .unset, .unset, .unset, .unset]) rfl k) ?_
  show own_R p e below _ T69 (mkF m 227 #[.val (.int p1), .val (.int p2), .val (.ref b1), .val (.int ((p2 &&& (2147483647 : Int32)) % (34 : Int32))), .unset, .unset, .unset, .unset] [])
  obtain ⟨ix, hix⟩ : ∃ z, z = ((p2 &&& (2147483647 : Int32)) % (34 : Int32)) := ⟨_, rfl⟩
  rw [← hix]
  show own_R p e below _ T69 (mkF m 227 #[.val (.int p1), .val (.int p2), .val (.ref b1), .val (.int ix), .unset, .unset, .unset, .unset] [])
  refine own_go (fun t k => XS.iloadN X69.here hx rfl (hb hby at_227) rfl  k) ?_
  show own_R p e below _ T69 (mkF m 228 #[.val (.int p1), .val (.int p2), .val (.ref b1), .val (.int ix), .unset, .unset, .unset, .unset] [(.int p2)])
  refine own_go (fun t k => XS.bipush X69.here hx rfl (hb hby at_228) k) ?_
  show own_R p e below _ T69 (mkF m 230 #[.val (.int p1), .val (.int p2), .val (.ref b1), .val (.int ix), .unset, .unset, .unset, .unset] [(.int (16 : Int32)), (.int p2)])
  refine own_go (fun t k => XS.iushr X69.here hx rfl (hb hby at_230) rfl k) ?_
  show own_R p e below _ T69 (mkF m 231 #[.val (.int p1), .val (.int p2), .val (.ref b1), .val (.int ix), .unset, .unset, .unset, .unset] [(.int ((p2.toUInt32 >>> ((16 : Int32) &&& 31).toUInt32).toInt32))])
  refine own_go (fun t k => XS.iconst X69.here hx rfl (hb hby at_231) k) ?_
  show own_R p e below _ T69 (mkF m 232 #[.val (.int p1), .val (.int p2), .val (.ref b1), .val (.int ix), .unset, .unset, .unset, .unset] [(.int (3 : Int32)), (.int ((p2.toUInt32 >>> ((16 : Int32) &&& 31).toUInt32).toInt32))])
  refine own_go (fun t k => XS.iand X69.here hx rfl (hb hby at_232) rfl k) ?_
  show own_R p e below _ T69 (mkF m 233 #[.val (.int p1), .val (.int p2), .val (.ref b1), .val (.int ix), .unset, .unset, .unset, .unset] [(.int (((p2.toUInt32 >>> ((16 : Int32) &&& 31).toUInt32).toInt32) &&& (3 : Int32)))])
  refine own_go (fun t k => XS.iconst X69.here hx rfl (hb hby at_233) k) ?_
  show own_R p e below _ T69 (mkF m 234 #[.val (.int p1), .val (.int p2), .val (.ref b1), .val (.int ix), .unset, .unset, .unset, .unset] [(.int (3 : Int32)), (.int (((p2.toUInt32 >>> ((16 : Int32) &&& 31).toUInt32).toInt32) &&& (3 : Int32)))])
  refine own_go (fun t k => iremM X69 hx rfl (hb hby at_234) rfl (by decide) k) ?_
  show own_R p e below _ T69 (mkF m 235 #[.val (.int p1), .val (.int p2), .val (.ref b1), .val (.int ix), .unset, .unset, .unset, .unset] [(.int ((((p2.toUInt32 >>> ((16 : Int32) &&& 31).toUInt32).toInt32) &&& (3 : Int32)) % (3 : Int32)))])
  refine own_go (fun t k => XS.iconst X69.here hx rfl (hb hby at_235) k) ?_
  show own_R p e below _ T69 (mkF m 236 #[.val (.int p1), .val (.int p2), .val (.ref b1), .val (.int ix), .unset, .unset, .unset, .unset] [(.int (1 : Int32)), (.int ((((p2.toUInt32 >>> ((16 : Int32) &&& 31).toUInt32).toInt32) &&& (3 : Int32)) % (3 : Int32)))])
  refine own_go (fun t k => XS.isub X69.here hx rfl (hb hby at_236) rfl k) ?_
  show own_R p e below _ T69 (mkF m 237 #[.val (.int p1), .val (.int p2), .val (.ref b1), .val (.int ix), .unset, .unset, .unset, .unset] [(.int (((((p2.toUInt32 >>> ((16 : Int32) &&& 31).toUInt32).toInt32) &&& (3 : Int32)) % (3 : Int32)) - (1 : Int32)))])
  refine own_go (fun t k => XS.istore X69.here hx rfl (hb hby at_237) rfl (l' := #[.val (.int p1), .val (.int p2), .val (.ref b1), .val (.int ix), .val (.int (((((p2.toUInt32 >>> ((16 : Int32) &&& 31).toUInt32).toInt32) &&& (3 : Int32)) % (3 : Int32)) - (1 : Int32))), .unset, .unset, .unset]) rfl k) ?_
  show own_R p e below _ T69 (mkF m 239 #[.val (.int p1), .val (.int p2), .val (.ref b1), .val (.int ix), .val (.int (((((p2.toUInt32 >>> ((16 : Int32) &&& 31).toUInt32).toInt32) &&& (3 : Int32)) % (3 : Int32)) - (1 : Int32))), .unset, .unset, .unset] [])
  refine own_go (fun t k => XS.aloadN X69.here hx rfl (hb hby at_239) rfl rfl  k) ?_
  show own_R p e below _ T69 (mkF m 240 #[.val (.int p1), .val (.int p2), .val (.ref b1), .val (.int ix), .val (.int (((((p2.toUInt32 >>> ((16 : Int32) &&& 31).toUInt32).toInt32) &&& (3 : Int32)) % (3 : Int32)) - (1 : Int32))), .unset, .unset, .unset] [(.ref b1)])
  refine own_go (fun t k => XS.iloadN X69.here hx rfl (hb hby at_240) rfl  k) ?_
  show own_R p e below _ T69 (mkF m 241 #[.val (.int p1), .val (.int p2), .val (.ref b1), .val (.int ix), .val (.int (((((p2.toUInt32 >>> ((16 : Int32) &&& 31).toUInt32).toInt32) &&& (3 : Int32)) % (3 : Int32)) - (1 : Int32))), .unset, .unset, .unset] [(.int ix), (.ref b1)])
  obtain ⟨cl71, Ar71, q71, S71, Nn71, Hh71, G71⟩ := id V_b1_69
  have hin71 : ¬ (ix < 0 ∨ cl71.slots.size ≤ (ix).toNatClampNeg) := inb_of S71 ⟨by rw [hix]; exact hi0.1, by rw [hix]; exact hi0.2⟩
  obtain ⟨ee, hee⟩ := own_ints [(58 : Int32), (95 : Int32), (65 : Int32), (90 : Int32), (97 : Int32), (122 : Int32), (192 : Int32), (214 : Int32), (216 : Int32), (246 : Int32), (248 : Int32), (767 : Int32), (880 : Int32), (893 : Int32), (895 : Int32), (8191 : Int32), (8204 : Int32), (8205 : Int32), (8304 : Int32), (8591 : Int32), (11264 : Int32), (12271 : Int32), (12289 : Int32), (55295 : Int32), (63744 : Int32), (64975 : Int32), (65008 : Int32), (65533 : Int32), (65536 : Int32), (983039 : Int32), (0 : Int32), (1114111 : Int32), (-2147483648 : Int32), (2147483647 : Int32)] [(.int (58 : Int32)), (.int (95 : Int32)), (.int (65 : Int32)), (.int (90 : Int32)), (.int (97 : Int32)), (.int (122 : Int32)), (.int (192 : Int32)), (.int (214 : Int32)), (.int (216 : Int32)), (.int (246 : Int32)), (.int (248 : Int32)), (.int (767 : Int32)), (.int (880 : Int32)), (.int (893 : Int32)), (.int (895 : Int32)), (.int (8191 : Int32)), (.int (8204 : Int32)), (.int (8205 : Int32)), (.int (8304 : Int32)), (.int (8591 : Int32)), (.int (11264 : Int32)), (.int (12271 : Int32)), (.int (12289 : Int32)), (.int (55295 : Int32)), (.int (63744 : Int32)), (.int (64975 : Int32)), (.int (65008 : Int32)), (.int (65533 : Int32)), (.int (65536 : Int32)), (.int (983039 : Int32)), (.int (0 : Int32)), (.int (1114111 : Int32)), (.int (-2147483648 : Int32)), (.int (2147483647 : Int32))] rfl (ix).toNatClampNeg
  have hat71 : cl71.slots[(ix).toNatClampNeg]? = some (.int ee) := Has.at Hh71 hin71 hee
  refine own_go (X69.iaload hx (j := ix) (v := (.int ee)) (by rw [e69]; exact Ar71.1) (State.isArrayOf_alike hZ.alike Ar71.2.1) Ar71.2.2 hin71 hat71 (g := (mkF m 241 #[.val (.int p1), .val (.int p2), .val (.ref b1), .val (.int ix), .val (.int (((((p2.toUInt32 >>> ((16 : Int32) &&& 31).toUInt32).toInt32) &&& (3 : Int32)) % (3 : Int32)) - (1 : Int32))), .unset, .unset, .unset] [(.int ix), (.ref b1)])) rfl rfl (hb hby at_241)) ?_
  show own_R p e below _ T69 (mkF m 242 #[.val (.int p1), .val (.int p2), .val (.ref b1), .val (.int ix), .val (.int (((((p2.toUInt32 >>> ((16 : Int32) &&& 31).toUInt32).toInt32) &&& (3 : Int32)) % (3 : Int32)) - (1 : Int32))), .unset, .unset, .unset] [(.int ee)])
  refine own_go (fun t k => XS.iload X69.here hx rfl (hb hby at_242) rfl  k) ?_
  show own_R p e below _ T69 (mkF m 244 #[.val (.int p1), .val (.int p2), .val (.ref b1), .val (.int ix), .val (.int (((((p2.toUInt32 >>> ((16 : Int32) &&& 31).toUInt32).toInt32) &&& (3 : Int32)) % (3 : Int32)) - (1 : Int32))), .unset, .unset, .unset] [(.int (((((p2.toUInt32 >>> ((16 : Int32) &&& 31).toUInt32).toInt32) &&& (3 : Int32)) % (3 : Int32)) - (1 : Int32))), (.int ee)])
  refine own_go (fun t k => XS.iadd X69.here hx rfl (hb hby at_244) rfl k) ?_
  show own_R p e below _ T69 (mkF m 245 #[.val (.int p1), .val (.int p2), .val (.ref b1), .val (.int ix), .val (.int (((((p2.toUInt32 >>> ((16 : Int32) &&& 31).toUInt32).toInt32) &&& (3 : Int32)) % (3 : Int32)) - (1 : Int32))), .unset, .unset, .unset] [(.int (ee + (((((p2.toUInt32 >>> ((16 : Int32) &&& 31).toUInt32).toInt32) &&& (3 : Int32)) % (3 : Int32)) - (1 : Int32))))])
  refine own_go (fun t k => XS.istore X69.here hx rfl (hb hby at_245) rfl (l' := #[.val (.int p1), .val (.int p2), .val (.ref b1), .val (.int ix), .val (.int (((((p2.toUInt32 >>> ((16 : Int32) &&& 31).toUInt32).toInt32) &&& (3 : Int32)) % (3 : Int32)) - (1 : Int32))), .val (.int (ee + (((((p2.toUInt32 >>> ((16 : Int32) &&& 31).toUInt32).toInt32) &&& (3 : Int32)) % (3 : Int32)) - (1 : Int32)))), .unset, .unset]) rfl k) ?_
  show own_R p e below _ T69 (mkF m 247 #[.val (.int p1), .val (.int p2), .val (.ref b1), .val (.int ix), .val (.int (((((p2.toUInt32 >>> ((16 : Int32) &&& 31).toUInt32).toInt32) &&& (3 : Int32)) % (3 : Int32)) - (1 : Int32))), .val (.int (ee + (((((p2.toUInt32 >>> ((16 : Int32) &&& 31).toUInt32).toInt32) &&& (3 : Int32)) % (3 : Int32)) - (1 : Int32)))), .unset, .unset] [])
  obtain ⟨eb, heb⟩ : ∃ z, z = (ee + (((((p2.toUInt32 >>> ((16 : Int32) &&& 31).toUInt32).toInt32) &&& (3 : Int32)) % (3 : Int32)) - (1 : Int32))) := ⟨_, rfl⟩
  rw [← heb]
  show own_R p e below _ T69 (mkF m 247 #[.val (.int p1), .val (.int p2), .val (.ref b1), .val (.int ix), .val (.int (((((p2.toUInt32 >>> ((16 : Int32) &&& 31).toUInt32).toInt32) &&& (3 : Int32)) % (3 : Int32)) - (1 : Int32))), .val (.int eb), .unset, .unset] [])
  refine own_go (fun t k => XS.iloadN X69.here hx rfl (hb hby at_247) rfl  k) ?_
  show own_R p e below _ T69 (mkF m 248 #[.val (.int p1), .val (.int p2), .val (.ref b1), .val (.int ix), .val (.int (((((p2.toUInt32 >>> ((16 : Int32) &&& 31).toUInt32).toInt32) &&& (3 : Int32)) % (3 : Int32)) - (1 : Int32))), .val (.int eb), .unset, .unset] [(.int p1)])
  obtain ⟨_, _, ⟨T72, L72, k72, n72⟩, -, X72, ⟨Lc72, hQ72, l72, y72, z72⟩, st72⟩ := Jvm.LawKit.callS X69 hx (y := (⟨"com/example/xtd/xtd/model/XmlCharacters", "isNameStart", "(I)Z"⟩ : MethodName)) hown (mvT hZ (hw _ (List.mem_of_getElem? (i := 11) rfl))) (mvT hZ (hw _ (List.mem_of_getElem? (i := 12) rfl))) (mvT hZ (hw _ (List.mem_of_getElem? (i := 13) rfl))) (mvT hZ (hw _ (List.mem_of_getElem? (i := 14) rfl))) (by decide) (backOf (W := 0) (rmisl l Z a0 hw [] p1 w kw h69 n0 (Nat.le_trans Z0 Kh.1) V_w S_NAME_START_RANGES) hZ (hw _ (List.mem_of_getElem? (i := 14) rfl)) (hw _ (List.mem_of_getElem? (i := 13) rfl)) (by decide) (by decide)) (g := (mkF m 248 #[.val (.int p1), .val (.int p2), .val (.ref b1), .val (.int ix), .val (.int (((((p2.toUInt32 >>> ((16 : Int32) &&& 31).toUInt32).toInt32) &&& (3 : Int32)) % (3 : Int32)) - (1 : Int32))), .val (.int eb), .unset, .unset] [(.int p1)])) rfl (by rw [hml]; rfl) (argsL := [(.int p1)]) (rest := []) (lenOf pd_0 rfl) rfl (by show 2 * 0 + _ ≤ _; exact Nat.le_of_eq rfl) (hb hby at_248) (fun _ _ => ⟨rfl, e69, (by decide : 1 + 0 ≤ _), (by decide : 34 + 0 ≤ _)⟩)
  dsimp only [Pt.U, Pt.locs, Pt.cells, Pt.slots] at X72 l72 y72 z72 st72 hQ72
  subst l72 y72 z72
  obtain ⟨rfl, Nq72, e72⟩ := hQ72
  obtain ⟨Lh72, X72, N72⟩ := own_hide X72 (Fr.app N69 Nq72)
  refine own_go (st72) ?_
  show own_R p e below _ T72 (mkF m 251 #[.val (.int p1), .val (.int p2), .val (.ref b1), .val (.int ix), .val (.int (((((p2.toUInt32 >>> ((16 : Int32) &&& 31).toUInt32).toInt32) &&& (3 : Int32)) % (3 : Int32)) - (1 : Int32))), .val (.int eb), .unset, .unset] [(.int (if own_l (Int32.toInt p1) then (1 : Int32) else (0 : Int32)))])
  refine own_go (fun t k => XS.iloadN X72.here hx rfl (hb hby at_251) rfl  k) ?_
  show own_R p e below _ T72 (mkF m 252 #[.val (.int p1), .val (.int p2), .val (.ref b1), .val (.int ix), .val (.int (((((p2.toUInt32 >>> ((16 : Int32) &&& 31).toUInt32).toInt32) &&& (3 : Int32)) % (3 : Int32)) - (1 : Int32))), .val (.int eb), .unset, .unset] [(.int p1), (.int (if own_l (Int32.toInt p1) then (1 : Int32) else (0 : Int32)))])
  obtain ⟨_, _, ⟨T73, L73, k73, n73⟩, -, X73, ⟨Lc73, hQ73, l73, y73, z73⟩, st73⟩ := Jvm.LawKit.callS X72 hx (y := (⟨"com/example/xtd/xtd/model/XmlCharactersIsNameStartPinLaw", "reference", "(I)Z"⟩ : MethodName)) hown (mvT hZ (hw _ (List.mem_of_getElem? (i := 17) rfl))) (mvT hZ (hw _ (List.mem_of_getElem? (i := 18) rfl))) (mvT hZ (hw _ (List.mem_of_getElem? (i := 19) rfl))) (mvT hZ (hw _ (List.mem_of_getElem? (i := 20) rfl))) (by decide) (backOf (W := 1) (rmrefl l Z a0 hw [] p1 h69 n0 (Nat.le_trans Z0 Kh.1)) hZ (hw _ (List.mem_of_getElem? (i := 20) rfl)) (hw _ (List.mem_of_getElem? (i := 19) rfl)) (by decide) (by decide)) (g := (mkF m 252 #[.val (.int p1), .val (.int p2), .val (.ref b1), .val (.int ix), .val (.int (((((p2.toUInt32 >>> ((16 : Int32) &&& 31).toUInt32).toInt32) &&& (3 : Int32)) % (3 : Int32)) - (1 : Int32))), .val (.int eb), .unset, .unset] [(.int p1), (.int (if own_l (Int32.toInt p1) then (1 : Int32) else (0 : Int32)))])) rfl (by rw [hml]; rfl) (argsL := [(.int p1)]) (rest := [(.int (if own_l (Int32.toInt p1) then (1 : Int32) else (0 : Int32)))]) (lenOf pd_0 rfl) rfl (by show 2 * 0 + _ ≤ _; exact Nat.le_of_eq rfl) (hb hby at_252) (fun _ _ => ⟨rfl, e72, (by decide : 1 + 0 ≤ _), (by decide : 34 + 0 ≤ _)⟩)
  dsimp only [Pt.U, Pt.locs, Pt.cells, Pt.slots] at X73 l73 y73 z73 st73 hQ73
  subst l73 y73 z73
  obtain ⟨rfl, Nq73, e73⟩ := hQ73
  obtain ⟨Lh73, X73, N73⟩ := own_hide X73 (Fr.app N72 Nq73)
  refine own_go (st73) ?_
  show own_R p e below _ T73 (mkF m 255 #[.val (.int p1), .val (.int p2), .val (.ref b1), .val (.int ix), .val (.int (((((p2.toUInt32 >>> ((16 : Int32) &&& 31).toUInt32).toInt32) &&& (3 : Int32)) % (3 : Int32)) - (1 : Int32))), .val (.int eb), .unset, .unset] [(.int (if own_l (Int32.toInt p1) then (1 : Int32) else (0 : Int32))), (.int (if own_l (Int32.toInt p1) then (1 : Int32) else (0 : Int32)))])
  refine own_go (fun t k => XS.icmpNo X73.here hx rfl (hb hby at_255) rfl (teq (rfl : (if own_l (Int32.toInt p1) then (1 : Int32) else (0 : Int32)) = (if own_l (Int32.toInt p1) then (1 : Int32) else (0 : Int32)))).2 k) ?_
  show own_R p e below _ T73 (mkF m 258 #[.val (.int p1), .val (.int p2), .val (.ref b1), .val (.int ix), .val (.int (((((p2.toUInt32 >>> ((16 : Int32) &&& 31).toUInt32).toInt32) &&& (3 : Int32)) % (3 : Int32)) - (1 : Int32))), .val (.int eb), .unset, .unset] [])
  refine own_go (fun t k => XS.iconst X73.here hx rfl (hb hby at_258) k) ?_
  show own_R p e below _ T73 (mkF m 259 #[.val (.int p1), .val (.int p2), .val (.ref b1), .val (.int ix), .val (.int (((((p2.toUInt32 >>> ((16 : Int32) &&& 31).toUInt32).toInt32) &&& (3 : Int32)) % (3 : Int32)) - (1 : Int32))), .val (.int eb), .unset, .unset] [(.int (1 : Int32))])
  refine own_go (fun t k => XS.goto X73.here hx rfl (pc0 := 259) (pc' := 263) rfl (hb hby at_259) (by decide) (by decide) k) ?_
  show own_R p e below _ T73 (mkF m 263 #[.val (.int p1), .val (.int p2), .val (.ref b1), .val (.int ix), .val (.int (((((p2.toUInt32 >>> ((16 : Int32) &&& 31).toUInt32).toInt32) &&& (3 : Int32)) % (3 : Int32)) - (1 : Int32))), .val (.int eb), .unset, .unset] [(.int (1 : Int32))])
  refine own_go (fun t k => XS.istore X73.here hx rfl (hb hby at_263) rfl (l' := #[.val (.int p1), .val (.int p2), .val (.ref b1), .val (.int ix), .val (.int (((((p2.toUInt32 >>> ((16 : Int32) &&& 31).toUInt32).toInt32) &&& (3 : Int32)) % (3 : Int32)) - (1 : Int32))), .val (.int eb), .val (.int (1 : Int32)), .unset]) rfl k) ?_
  show own_R p e below _ T73 (mkF m 265 #[.val (.int p1), .val (.int p2), .val (.ref b1), .val (.int ix), .val (.int (((((p2.toUInt32 >>> ((16 : Int32) &&& 31).toUInt32).toInt32) &&& (3 : Int32)) % (3 : Int32)) - (1 : Int32))), .val (.int eb), .val (.int (1 : Int32)), .unset] [])
  refine own_go (fun t k => XS.iload X73.here hx rfl (hb hby at_265) rfl  k) ?_
  show own_R p e below _ T73 (mkF m 267 #[.val (.int p1), .val (.int p2), .val (.ref b1), .val (.int ix), .val (.int (((((p2.toUInt32 >>> ((16 : Int32) &&& 31).toUInt32).toInt32) &&& (3 : Int32)) % (3 : Int32)) - (1 : Int32))), .val (.int eb), .val (.int (1 : Int32)), .unset] [(.int eb)])
  obtain ⟨_, _, ⟨T74, L74, k74, n74⟩, -, X74, ⟨Lc74, hQ74, l74, y74, z74⟩, st74⟩ := Jvm.LawKit.callS X73 hx (y := (⟨"com/example/xtd/xtd/model/XmlCharacters", "isNameStart", "(I)Z"⟩ : MethodName)) hown (mvT hZ (hw _ (List.mem_of_getElem? (i := 11) rfl))) (mvT hZ (hw _ (List.mem_of_getElem? (i := 12) rfl))) (mvT hZ (hw _ (List.mem_of_getElem? (i := 13) rfl))) (mvT hZ (hw _ (List.mem_of_getElem? (i := 14) rfl))) (by decide) (backOf (W := 0) (rmisl l Z a0 hw [] eb w kw h69 n0 (Nat.le_trans Z0 Kh.1) V_w S_NAME_START_RANGES) hZ (hw _ (List.mem_of_getElem? (i := 14) rfl)) (hw _ (List.mem_of_getElem? (i := 13) rfl)) (by decide) (by decide)) (g := (mkF m 267 #[.val (.int p1), .val (.int p2), .val (.ref b1), .val (.int ix), .val (.int (((((p2.toUInt32 >>> ((16 : Int32) &&& 31).toUInt32).toInt32) &&& (3 : Int32)) % (3 : Int32)) - (1 : Int32))), .val (.int eb), .val (.int (1 : Int32)), .unset] [(.int eb)])) rfl (by rw [hml]; rfl) (argsL := [(.int eb)]) (rest := []) (lenOf pd_0 rfl) rfl (by show 2 * 0 + _ ≤ _; exact Nat.le_of_eq rfl) (hb hby at_267) (fun _ _ => ⟨rfl, e73, (by decide : 1 + 0 ≤ _), (by decide : 34 + 0 ≤ _)⟩)
  dsimp only [Pt.U, Pt.locs, Pt.cells, Pt.slots] at X74 l74 y74 z74 st74 hQ74
  subst l74 y74 z74
  obtain ⟨rfl, Nq74, e74⟩ := hQ74
  obtain ⟨Lh74, X74, N74⟩ := own_hide X74 (Fr.app N73 Nq74)
  refine own_go (st74) ?_
  show own_R p e below _ T74 (mkF m 270 #[.val (.int p1), .val (.int p2), .val (.ref b1), .val (.int ix), .val (.int (((((p2.toUInt32 >>> ((16 : Int32) &&& 31).toUInt32).toInt32) &&& (3 : Int32)) % (3 : Int32)) - (1 : Int32))), .val (.int eb), .val (.int (1 : Int32)), .unset] [(.int (if own_l (Int32.toInt eb) then (1 : Int32) else (0 : Int32)))])
  refine own_go (fun t k => XS.iload X74.here hx rfl (hb hby at_270) rfl  k) ?_
  show own_R p e below _ T74 (mkF m 272 #[.val (.int p1), .val (.int p2), .val (.ref b1), .val (.int ix), .val (.int (((((p2.toUInt32 >>> ((16 : Int32) &&& 31).toUInt32).toInt32) &&& (3 : Int32)) % (3 : Int32)) - (1 : Int32))), .val (.int eb), .val (.int (1 : Int32)), .unset] [(.int eb), (.int (if own_l (Int32.toInt eb) then (1 : Int32) else (0 : Int32)))])
  obtain ⟨_, _, ⟨T75, L75, k75, n75⟩, -, X75, ⟨Lc75, hQ75, l75, y75, z75⟩, st75⟩ := Jvm.LawKit.callS X74 hx (y := (⟨"com/example/xtd/xtd/model/XmlCharactersIsNameStartPinLaw", "reference", "(I)Z"⟩ : MethodName)) hown (mvT hZ (hw _ (List.mem_of_getElem? (i := 17) rfl))) (mvT hZ (hw _ (List.mem_of_getElem? (i := 18) rfl))) (mvT hZ (hw _ (List.mem_of_getElem? (i := 19) rfl))) (mvT hZ (hw _ (List.mem_of_getElem? (i := 20) rfl))) (by decide) (backOf (W := 1) (rmrefl l Z a0 hw [] eb h69 n0 (Nat.le_trans Z0 Kh.1)) hZ (hw _ (List.mem_of_getElem? (i := 20) rfl)) (hw _ (List.mem_of_getElem? (i := 19) rfl)) (by decide) (by decide)) (g := (mkF m 272 #[.val (.int p1), .val (.int p2), .val (.ref b1), .val (.int ix), .val (.int (((((p2.toUInt32 >>> ((16 : Int32) &&& 31).toUInt32).toInt32) &&& (3 : Int32)) % (3 : Int32)) - (1 : Int32))), .val (.int eb), .val (.int (1 : Int32)), .unset] [(.int eb), (.int (if own_l (Int32.toInt eb) then (1 : Int32) else (0 : Int32)))])) rfl (by rw [hml]; rfl) (argsL := [(.int eb)]) (rest := [(.int (if own_l (Int32.toInt eb) then (1 : Int32) else (0 : Int32)))]) (lenOf pd_0 rfl) rfl (by show 2 * 0 + _ ≤ _; exact Nat.le_of_eq rfl) (hb hby at_272) (fun _ _ => ⟨rfl, e74, (by decide : 1 + 0 ≤ _), (by decide : 34 + 0 ≤ _)⟩)
  dsimp only [Pt.U, Pt.locs, Pt.cells, Pt.slots] at X75 l75 y75 z75 st75 hQ75
  subst l75 y75 z75
  obtain ⟨rfl, Nq75, e75⟩ := hQ75
  obtain ⟨Lh75, X75, N75⟩ := own_hide X75 (Fr.app N74 Nq75)
  refine own_go (st75) ?_
  show own_R p e below _ T75 (mkF m 275 #[.val (.int p1), .val (.int p2), .val (.ref b1), .val (.int ix), .val (.int (((((p2.toUInt32 >>> ((16 : Int32) &&& 31).toUInt32).toInt32) &&& (3 : Int32)) % (3 : Int32)) - (1 : Int32))), .val (.int eb), .val (.int (1 : Int32)), .unset] [(.int (if own_l (Int32.toInt eb) then (1 : Int32) else (0 : Int32))), (.int (if own_l (Int32.toInt eb) then (1 : Int32) else (0 : Int32)))])
  refine own_go (fun t k => XS.icmpNo X75.here hx rfl (hb hby at_275) rfl (teq (rfl : (if own_l (Int32.toInt eb) then (1 : Int32) else (0 : Int32)) = (if own_l (Int32.toInt eb) then (1 : Int32) else (0 : Int32)))).2 k) ?_
  show own_R p e below _ T75 (mkF m 278 #[.val (.int p1), .val (.int p2), .val (.ref b1), .val (.int ix), .val (.int (((((p2.toUInt32 >>> ((16 : Int32) &&& 31).toUInt32).toInt32) &&& (3 : Int32)) % (3 : Int32)) - (1 : Int32))), .val (.int eb), .val (.int (1 : Int32)), .unset] [])
  refine own_go (fun t k => XS.iconst X75.here hx rfl (hb hby at_278) k) ?_
  show own_R p e below _ T75 (mkF m 279 #[.val (.int p1), .val (.int p2), .val (.ref b1), .val (.int ix), .val (.int (((((p2.toUInt32 >>> ((16 : Int32) &&& 31).toUInt32).toInt32) &&& (3 : Int32)) % (3 : Int32)) - (1 : Int32))), .val (.int eb), .val (.int (1 : Int32)), .unset] [(.int (1 : Int32))])
  refine own_go (fun t k => XS.goto X75.here hx rfl (pc0 := 279) (pc' := 283) rfl (hb hby at_279) (by decide) (by decide) k) ?_
  show own_R p e below _ T75 (mkF m 283 #[.val (.int p1), .val (.int p2), .val (.ref b1), .val (.int ix), .val (.int (((((p2.toUInt32 >>> ((16 : Int32) &&& 31).toUInt32).toInt32) &&& (3 : Int32)) % (3 : Int32)) - (1 : Int32))), .val (.int eb), .val (.int (1 : Int32)), .unset] [(.int (1 : Int32))])
  refine own_go (fun t k => XS.istore X75.here hx rfl (hb hby at_283) rfl (l' := #[.val (.int p1), .val (.int p2), .val (.ref b1), .val (.int ix), .val (.int (((((p2.toUInt32 >>> ((16 : Int32) &&& 31).toUInt32).toInt32) &&& (3 : Int32)) % (3 : Int32)) - (1 : Int32))), .val (.int eb), .val (.int (1 : Int32)), .val (.int (1 : Int32))]) rfl k) ?_
  show own_R p e below _ T75 (mkF m 285 #[.val (.int p1), .val (.int p2), .val (.ref b1), .val (.int ix), .val (.int (((((p2.toUInt32 >>> ((16 : Int32) &&& 31).toUInt32).toInt32) &&& (3 : Int32)) % (3 : Int32)) - (1 : Int32))), .val (.int eb), .val (.int (1 : Int32)), .val (.int (1 : Int32))] [])
  refine own_go (fun t k => XS.iload X75.here hx rfl (hb hby at_285) rfl  k) ?_
  show own_R p e below _ T75 (mkF m 287 #[.val (.int p1), .val (.int p2), .val (.ref b1), .val (.int ix), .val (.int (((((p2.toUInt32 >>> ((16 : Int32) &&& 31).toUInt32).toInt32) &&& (3 : Int32)) % (3 : Int32)) - (1 : Int32))), .val (.int eb), .val (.int (1 : Int32)), .val (.int (1 : Int32))] [(.int (1 : Int32))])
  refine own_go (fun t k => XS.ifNo X75.here hx rfl (hb hby at_287) rfl ((if0 _ _).trans (feq (by decide : ¬ ((1 : Int32) = (0 : Int32)))).1) k) ?_
  show own_R p e below _ T75 (mkF m 290 #[.val (.int p1), .val (.int p2), .val (.ref b1), .val (.int ix), .val (.int (((((p2.toUInt32 >>> ((16 : Int32) &&& 31).toUInt32).toInt32) &&& (3 : Int32)) % (3 : Int32)) - (1 : Int32))), .val (.int eb), .val (.int (1 : Int32)), .val (.int (1 : Int32))] [])
  refine own_go (fun t k => XS.iload X75.here hx rfl (hb hby at_290) rfl  k) ?_
  show own_R p e below _ T75 (mkF m 292 #[.val (.int p1), .val (.int p2), .val (.ref b1), .val (.int ix), .val (.int (((((p2.toUInt32 >>> ((16 : Int32) &&& 31).toUInt32).toInt32) &&& (3 : Int32)) % (3 : Int32)) - (1 : Int32))), .val (.int eb), .val (.int (1 : Int32)), .val (.int (1 : Int32))] [(.int (1 : Int32))])
  refine own_go (fun t k => XS.ifNo X75.here hx rfl (hb hby at_292) rfl ((if0 _ _).trans (feq (by decide : ¬ ((1 : Int32) = (0 : Int32)))).1) k) ?_
  show own_R p e below _ T75 (mkF m 295 #[.val (.int p1), .val (.int p2), .val (.ref b1), .val (.int ix), .val (.int (((((p2.toUInt32 >>> ((16 : Int32) &&& 31).toUInt32).toInt32) &&& (3 : Int32)) % (3 : Int32)) - (1 : Int32))), .val (.int eb), .val (.int (1 : Int32)), .val (.int (1 : Int32))] [])
  refine own_go (fun t k => XS.iconst X75.here hx rfl (hb hby at_295) k) ?_
  show own_R p e below _ T75 (mkF m 296 #[.val (.int p1), .val (.int p2), .val (.ref b1), .val (.int ix), .val (.int (((((p2.toUInt32 >>> ((16 : Int32) &&& 31).toUInt32).toInt32) &&& (3 : Int32)) % (3 : Int32)) - (1 : Int32))), .val (.int eb), .val (.int (1 : Int32)), .val (.int (1 : Int32))] [(.int (1 : Int32))])
  refine own_go (fun t k => XS.goto X75.here hx rfl (pc0 := 296) (pc' := 300) rfl (hb hby at_296) (by decide) (by decide) k) ?_
  show own_R p e below _ T75 (mkF m 300 #[.val (.int p1), .val (.int p2), .val (.ref b1), .val (.int ix), .val (.int (((((p2.toUInt32 >>> ((16 : Int32) &&& 31).toUInt32).toInt32) &&& (3 : Int32)) % (3 : Int32)) - (1 : Int32))), .val (.int eb), .val (.int (1 : Int32)), .val (.int (1 : Int32))] [(.int (1 : Int32))])
  refine own_retN X75 hx Bd.returns (by simp) (BodyLoose.notSynchronized Bd) (hb hby at_300) (by decide) (by decide) ?_
  exact ⟨rfl, N75⟩
set_option maxRecDepth 65536 in
set_option maxHeartbeats 40000000 in
theorem comes_1 {Post : Tables → Env → Array Value → State → Outcome → State → Prop} (hpost : ∀ tb e args s v u, (limb_1_1.after args s (.returned v) u = true ∧ limb_1_2.after args s (.returned v) u = true ∧ True) → FrameEnd s (.returned v) u (Jvm.fieldLocs frame_1_writes args s ++ Jvm.arrayLocs frame_1_arrays args s ++ Jvm.staticLocs frame_1_statics s) 16 192 → Post tb e args s (.returned v) u) :
    ArmFor flags0 classFile x code maxLocals ret World_1 tables_1 room_1 Calls_1 rest_1 Pre_1 Post := by
  intro l hfl _ _ p e ha hc hk s m args below hf hA hF happ hP
  obtain ⟨hcalls, hrest, hpre⟩ := hP
  obtain ⟨-, -, -, hnamed, -, -, -, hat⟩ := (Spec.applies_iff hf).mp happ
  obtain ⟨hg, hn⟩ := and_e (Cond.before_iff.mp (show (Jvm.Cond.and given_1 narrow_1).before args s = true from hpre))
  obtain ⟨g0, gr0⟩ := and_e hg
  obtain ⟨ga0, gr1⟩ := and_e gr0
  have ga1 := gr1
  obtain ⟨w0, w1, rfl⟩ : ∃ w0 w1 : Value, args = #[w0, w1] := by
    have hs : args.size = 2 := by simpa [Cond.value, given_1] using g0
    obtain ⟨L⟩ := args
    match L, hs with
    | [w0, w1], _ => exact ⟨w0, w1, rfl⟩
  have hw := fun d (hd : d ∈ tables_1) => atoms_spec (ws := Jvm.Cond.code x code maxLocals ret :: tables_1) hat d (List.mem_cons_of_mem _ hd)
  have hfit : Fit s := fun {y c} hc i hi => by
    obtain ⟨ha, rfl⟩ := Array.getElem?_eq_some_iff.mp hc
    have q := List.all_eq_true.mp ((Array.all_eq_true_iff_forall_mem.mp hF) _ (Array.getElem_mem ha)) i (List.mem_range.mpr hi)
    simpa [Array.getElem?_eq_getElem hi] using q
  obtain ⟨i0, ei0⟩ := is_v ga0
  obtain rfl : w0 = (.int i0) := Option.some.inj ei0
  obtain ⟨i1, ei1⟩ := is_v ga1
  obtain rfl : w1 = (.int i1) := Option.some.inj ei1
  obtain ⟨na, nr⟩ := and_e hn
  obtain ⟨nl, nr0⟩ := and_e nr
  obtain ⟨ne0, nr1⟩ := and_e nr0
  obtain ⟨ne1, nr2⟩ := and_e nr1
  obtain ⟨ne2, nr3⟩ := and_e nr2
  obtain ⟨ne3, nr4⟩ := and_e nr3
  obtain ⟨ne4, nr5⟩ := and_e nr4
  obtain ⟨ne5, nr6⟩ := and_e nr5
  obtain ⟨ne6, nr7⟩ := and_e nr6
  obtain ⟨ne7, nr8⟩ := and_e nr7
  obtain ⟨ne8, nr9⟩ := and_e nr8
  obtain ⟨ne9, nr10⟩ := and_e nr9
  obtain ⟨ne10, nr11⟩ := and_e nr10
  obtain ⟨ne11, nr12⟩ := and_e nr11
  obtain ⟨ne12, nr13⟩ := and_e nr12
  obtain ⟨ne13, nr14⟩ := and_e nr13
  obtain ⟨ne14, nr15⟩ := and_e nr14
  obtain ⟨ne15, nr16⟩ := and_e nr15
  obtain ⟨ne16, nr17⟩ := and_e nr16
  obtain ⟨ne17, nr18⟩ := and_e nr17
  obtain ⟨ne18, nr19⟩ := and_e nr18
  obtain ⟨ne19, nr20⟩ := and_e nr19
  obtain ⟨ne20, nr21⟩ := and_e nr20
  obtain ⟨ne21, nr22⟩ := and_e nr21
  obtain ⟨ne22, nr23⟩ := and_e nr22
  have ne23 := nr23
  obtain ⟨w, ew⟩ := arr_v na
  obtain ⟨cl, A⟩ := Arr.start ew na
  have Vw := own_arv (n := 24) (vs := [192, 214, 216, 246, 248, 767, 880, 893, 895, 8191, 8204, 8205, 8304, 8591, 11264, 12271, 12289, 55295, 63744, 64975, 65008, 65533, 65536, 983039]) hfit ew A (by decide) (Cond.eq_int (Cond.before_iff.mpr nl) rfl) rfl (fun i hi => by
    have hc : i = 0 ∨ i = 1 ∨ i = 2 ∨ i = 3 ∨ i = 4 ∨ i = 5 ∨ i = 6 ∨ i = 7 ∨ i = 8 ∨ i = 9 ∨ i = 10 ∨ i = 11 ∨ i = 12 ∨ i = 13 ∨ i = 14 ∨ i = 15 ∨ i = 16 ∨ i = 17 ∨ i = 18 ∨ i = 19 ∨ i = 20 ∨ i = 21 ∨ i = 22 ∨ i = 23 := by omega
    rcases hc with rfl | rfl | rfl | rfl | rfl | rfl | rfl | rfl | rfl | rfl | rfl | rfl | rfl | rfl | rfl | rfl | rfl | rfl | rfl | rfl | rfl | rfl | rfl | rfl
    · exact Cond.eq_int (Cond.before_iff.mpr ne0) rfl
    · exact Cond.eq_int (Cond.before_iff.mpr ne1) rfl
    · exact Cond.eq_int (Cond.before_iff.mpr ne2) rfl
    · exact Cond.eq_int (Cond.before_iff.mpr ne3) rfl
    · exact Cond.eq_int (Cond.before_iff.mpr ne4) rfl
    · exact Cond.eq_int (Cond.before_iff.mpr ne5) rfl
    · exact Cond.eq_int (Cond.before_iff.mpr ne6) rfl
    · exact Cond.eq_int (Cond.before_iff.mpr ne7) rfl
    · exact Cond.eq_int (Cond.before_iff.mpr ne8) rfl
    · exact Cond.eq_int (Cond.before_iff.mpr ne9) rfl
    · exact Cond.eq_int (Cond.before_iff.mpr ne10) rfl
    · exact Cond.eq_int (Cond.before_iff.mpr ne11) rfl
    · exact Cond.eq_int (Cond.before_iff.mpr ne12) rfl
    · exact Cond.eq_int (Cond.before_iff.mpr ne13) rfl
    · exact Cond.eq_int (Cond.before_iff.mpr ne14) rfl
    · exact Cond.eq_int (Cond.before_iff.mpr ne15) rfl
    · exact Cond.eq_int (Cond.before_iff.mpr ne16) rfl
    · exact Cond.eq_int (Cond.before_iff.mpr ne17) rfl
    · exact Cond.eq_int (Cond.before_iff.mpr ne18) rfl
    · exact Cond.eq_int (Cond.before_iff.mpr ne19) rfl
    · exact Cond.eq_int (Cond.before_iff.mpr ne20) rfl
    · exact Cond.eq_int (Cond.before_iff.mpr ne21) rfl
    · exact Cond.eq_int (Cond.before_iff.mpr ne22) rfl
    · exact Cond.eq_int (Cond.before_iff.mpr ne23) rfl)
  have Sw := Sta.start ew (Or.inr ⟨hw _ (List.mem_of_getElem? (i := 13) rfl), hw _ (List.mem_of_getElem? (i := 16) rfl)⟩)
  obtain ⟨n, o, h1, h2, h3, _, L, rfl, ⟨rfl, N⟩, hq⟩ := rm0 l s _ hw tables_1 i0 i1 w cl.cls s.heap s.heap.size (Nat.le_refl _) Vw Sw p e ha hc hk s m _ below hf ((Spec.applies_iff_loose hf).mp happ).1 ⟨rfl, State.Warmed39.refl s, rfl⟩ trivial
  refine ⟨n, _, h1, h2, h3, hpost _ _ _ _ _ _ ⟨Cond.after_iff.mpr rfl, Cond.after_iff.mpr (eq_i res_at (Term.int_eval (1)) rfl), trivial⟩ ⟨hq.1, hq.2.1, (hq.2.2.sift fun y hy => Or.inr (N y hy)).mono (by decide) (by decide)⟩⟩
theorem main_1_1 : Claimed_1_1 := comes_1 fun _ _ _ _ _ _ h hF => ⟨h.1, hF⟩
theorem main_1_2 : Claimed_1_2 := comes_1 fun _ _ _ _ _ _ h hF => ⟨h.2.1, hF⟩
end Jvm.Pilot.@@N@@
namespace Jvm.Pilot.@@N@@
open Jvm Jvm.ClassFile Sem Op Lib Jvm.Free Jvm.Stand Jvm.Pilot.@@N@@.Jvm.D
/-! MADE BY PROGRAM (witnessworld.py) out of the Statement's table words and the real class files: 9 classes; the members and pool entries that the words name. The judged class is class 1, her method 3. -/
namespace start1
open Jvm.ClassFile
def u (s : String) : CpInfo := .utf8 (stringToUtf16 s)
/-- a pool by its gaps: so many unusable entries, then the entry; so many at the end -/
def gap : Nat → List CpInfo → List CpInfo
  | 0, r => r
  | n + 1, r => .unusable :: gap n r
def poolList (es : List (Nat × CpInfo)) (last : Nat) : List CpInfo := es.foldr (fun e r => gap e.1 (e.2 :: r)) (gap last [])
def pool (es : List (Nat × CpInfo)) (last : Nat) : Array CpInfo := ⟨poolList es last⟩
def fileOf (pool : Array CpInfo) (this : Nat) (attrs : Array Attribute := #[]) (ms : Array MethodInfo := #[]) (fl : Nat := 33) (sup : Nat := 0) (ifs : Array Nat := #[]) (fds : Array FieldInfo := #[]) : ClassFile where
  minorVersion := 0
  majorVersion := 65
  constantPool := pool
  accessFlags := fl
  thisClass := this
  superClass := sup
  interfaces := ifs
  fields := fds
  methods := ms
  attributes := attrs
def plain (name : String) (sup : Option ClassId) : Class where
  name := name
  kind := .ordinary
  loader := none
  accessFlags := 33
  super := sup
  interfaces := #[]
  cf := none
  fields := #[]
  methods := #[]
  instanceTypes := #[]
  staticTypes := #[]
  resolved := #[]
  callSites := []
  init := .initialized
  statics := none
  mirror := none

def pool0 : Array CpInfo := pool [(5, u "<init>"), (0, u "()V"), (1, .class_ 10), (1, u "java/lang/Object")] 113

def k0m0 : Method := { name := "<init>", desc := "()V", sig := { parameters := [], returnType := none }, accessFlags := 1, code := none }
/-- java/lang/Object -/
def k0 : Class := { plain "java/lang/Object" none with
  accessFlags := 33
  interfaces := #[]
  cf := some (fileOf pool0 8 #[] #[{ accessFlags := 1, nameIndex := 5, descriptorIndex := 6, attributes := #[] }] 33 0 #[] #[])
  fields := #[]
  methods := #[k0m0]
  instanceTypes := #[]
  staticTypes := #[]
  resolved := Array.replicate 124 none
  statics := none }

def pool1 : Array CpInfo := pool [(2, .class_ 4), (1, u "java/lang/Object"), (0, u "<init>"), (0, u "()V"), (0, .methodref 8 9), (0, .class_ 10), (0, .nameAndType 11 12), (0, u "com/example/xtd/xtd/model/XmlCharactersIsNameStartPinLaw"), (0, u "within"), (0, u "(III)Z"), (0, .integer 55295), (0, .integer 63744), (0, .integer 64975), (0, .integer 65008), (0, .integer 65533), (0, .integer 65536), (0, .integer 983039), (0, .integer 1114111), (2, .integer 2147483648), (0, .integer 2147483647), (0, .methodref 26 27), (0, .class_ 28), (0, .nameAndType 29 30), (0, u "com/example/xtd/xtd/model/XmlCharacters"), (0, u "isNameStart"), (0, u "(I)Z"), (0, .methodref 8 32), (0, .nameAndType 33 30), (0, u "reference"), (3, u "law"), (0, u "(II)Z")] 4

def k1m0 : Method := { name := "<init>", desc := "()V", sig := { parameters := [], returnType := none }, accessFlags := 2, code := none }
def k1c1 : Code := { maxStack := 2, maxLocals := 3, code := method_2_code, exceptionTable := #[], attributes := #[] }
def k1m1 : Method := { name := "within", desc := "(III)Z", sig := { parameters := [.int, .int, .int], returnType := some .boolean }, accessFlags := 10, code := some k1c1 }
def k1c2 : Code := { maxStack := 3, maxLocals := 1, code := method_3_code, exceptionTable := #[], attributes := #[] }
def k1m2 : Method := { name := "reference", desc := "(I)Z", sig := { parameters := [.int], returnType := some .boolean }, accessFlags := 10, code := some k1c2 }
def k1c3 : Code := { maxStack := 4, maxLocals := 8, code := code, exceptionTable := #[], attributes := #[] }
def k1m3 : Method := { name := "law", desc := "(II)Z", sig := { parameters := [.int, .int], returnType := some .boolean }, accessFlags := 9, code := some k1c3 }
/-- com/example/xtd/xtd/model/XmlCharactersIsNameStartPinLaw -/
def k1 : Class := { plain "com/example/xtd/xtd/model/XmlCharactersIsNameStartPinLaw" (some 0) with
  accessFlags := 49
  interfaces := #[]
  cf := some (fileOf pool1 8 #[] #[{ accessFlags := 2, nameIndex := 5, descriptorIndex := 6, attributes := #[] }, { accessFlags := 10, nameIndex := 11, descriptorIndex := 12, attributes := #[] }, { accessFlags := 10, nameIndex := 33, descriptorIndex := 30, attributes := #[] }, { accessFlags := 9, nameIndex := 37, descriptorIndex := 38, attributes := #[] }] 49 2 #[] #[])
  fields := #[]
  methods := #[k1m0, k1m1, k1m2, k1m3]
  instanceTypes := #[]
  staticTypes := #[]
  resolved := Array.replicate 43 none
  statics := none }

def pool2 : Array CpInfo := pool [(2, .class_ 4), (1, u "java/lang/Object"), (0, u "<init>"), (0, u "()V"), (5, .fieldref 13 14), (0, .class_ 15), (0, .nameAndType 16 17), (0, u "com/example/xtd/xtd/model/XmlCharacters"), (0, u "NAME_START_RANGES"), (0, u "[I"), (2, u "isNameStart"), (0, u "(I)Z"), (34, u "PUBLIC_ID_PUNCTUATION"), (0, u "Ljava/lang/String;")] 15

def k2m0 : Method := { name := "<init>", desc := "()V", sig := { parameters := [], returnType := none }, accessFlags := 2, code := none }
def k2c1 : Code := { maxStack := 4, maxLocals := 3, code := prog_116_method_4_code, exceptionTable := #[], attributes := #[] }
def k2m1 : Method := { name := "isNameStart", desc := "(I)Z", sig := { parameters := [.int], returnType := some .boolean }, accessFlags := 8, code := some k2c1 }
/-- com/example/xtd/xtd/model/XmlCharacters -/
def k2 : Class := { plain "com/example/xtd/xtd/model/XmlCharacters" (some 0) with
  accessFlags := 48
  interfaces := #[]
  cf := some (fileOf pool2 13 #[] #[{ accessFlags := 2, nameIndex := 5, descriptorIndex := 6, attributes := #[] }, { accessFlags := 8, nameIndex := 20, descriptorIndex := 21, attributes := #[] }] 48 2 #[] #[{ accessFlags := 26, nameIndex := 16, descriptorIndex := 17, attributes := #[] }, { accessFlags := 26, nameIndex := 56, descriptorIndex := 57, attributes := #[] }])
  fields := #[{ name := "NAME_START_RANGES", type := (.array .int), accessFlags := 26, slot := 0, constantValue := 0 }, { name := "PUBLIC_ID_PUNCTUATION", type := (.object "java/lang/String"), accessFlags := 26, slot := 1, constantValue := 0 }]
  methods := #[k2m0, k2m1]
  instanceTypes := #[]
  staticTypes := #[(.array .int), (.object "java/lang/String")]
  resolved := Array.replicate 73 none
  statics := some 0 }

def pool3 : Array CpInfo := pool [(1, u "java/lang/Cloneable"), (0, .class_ 1), (0, u "java/lang/Object"), (0, .class_ 3)] 3

/-- java/lang/Cloneable -/
def k3 : Class := { plain "java/lang/Cloneable" (some 0) with
  accessFlags := 1537
  interfaces := #[]
  cf := some (fileOf pool3 2 #[] #[] 1537 4 #[] #[])
  fields := #[]
  methods := #[]
  instanceTypes := #[]
  staticTypes := #[]
  resolved := Array.replicate 8 none
  statics := none }

def pool4 : Array CpInfo := pool [(1, u "java/io/Serializable"), (0, .class_ 1), (0, u "java/lang/Object"), (0, .class_ 3)] 3

/-- java/io/Serializable -/
def k4 : Class := { plain "java/io/Serializable" (some 0) with
  accessFlags := 1537
  interfaces := #[]
  cf := some (fileOf pool4 2 #[] #[] 1537 4 #[] #[])
  fields := #[]
  methods := #[]
  instanceTypes := #[]
  staticTypes := #[]
  resolved := Array.replicate 8 none
  statics := none }

/-- the primitive byte -/
def k5 : Class := { plain "byte" none with kind := .primitive 'B', accessFlags := 0x411 }
/-- [B -/
def k6 : Class := { plain "[B" (some 0) with kind := .array 5 .byte, interfaces := #[3, 4], accessFlags := 1041 }

/-- the primitive int -/
def k7 : Class := { plain "int" none with kind := .primitive 'I', accessFlags := 0x411 }
/-- [I -/
def k8 : Class := { plain "[I" (some 0) with kind := .array 7 .int, interfaces := #[3, 4], accessFlags := 1041 }

def heap : Heap := #[{ cls := 2, slots := #[.ref 1, .null], vm := .statics 2 },
  { cls := 8, slots := #[.int 192, .int 214, .int 216, .int 246, .int 248, .int 767, .int 880, .int 893, .int 895, .int 8191, .int 8204, .int 8205, .int 8304, .int 8591, .int 11264, .int 12271, .int 12289, .int 55295, .int 63744, .int 64975, .int 65008, .int 65533, .int 65536, .int 983039], vm := .none }]
def classes : Array Class := #[k0, k1, k2, k3, k4, k5, k6, k7, k8]
def interned : List (Array UInt16 × Addr) := []
def slotsUsed : Nat := 26
def theMethod : MethodId := ⟨1, 3⟩
def args0 : Array Value := #[.int 200, .int 3]
def aboutOver (below : List Frame) : State where
  vm := { classes := classes, interned := interned.toArray }
  heap := heap
  slotsUsed := slotsUsed
  threads := #[{ frames := .invoking theMethod args0 :: below }]
def below0 : List Frame := [.native { method := ⟨0, 0⟩, args := #[] }]
def about1 : State := aboutOver below0
def p0 : Program := .bare "" "" ""
def e0 : Env := launch0.env 0 0 0
theorem w_frames : about1.frames = Frame.invoking theMethod args0 :: below0 := rfl
set_option maxRecDepth 65536 in
theorem w_args : argsFit about1.vm theMethod args0 = true := by decide +kernel
set_option maxRecDepth 65536 in
theorem w_heap : heapFits about1 = true := by decide +kernel
set_option maxRecDepth 65536 in
theorem w_runnable : about1.curStatus? = some .runnable := by decide +kernel
set_option maxRecDepth 65536 in
theorem w_alone : about1.alone = true := by decide +kernel
set_option maxRecDepth 65536 in
theorem w_named : about1.methodNamed? x = some theMethod := by decide +kernel
set_option maxRecDepth 65536 in
theorem w_hears : about1.hears theMethod below0 = true := by decide +kernel
set_option maxRecDepth 65536 in
theorem w_ripe : about1.ripe theMethod args0 below0 = true := by decide +kernel
theorem w_running : about1.status = .running := rfl
set_option maxRecDepth 65536 in
theorem w_room : about1.hasRoom e0.platform room_1 = true :=
  launch0.hasRoom_least _ room_1 (by decide +kernel) (by decide +kernel) (by decide +kernel) (by decide +kernel) (by decide +kernel) (by decide +kernel)
theorem allAtoms_all (ts : List Jvm.Cond) (a : Array Jvm.Value) (st : Jvm.State) : (allAtoms ts).before a st = ts.all (fun c => c.before a st) := by
  induction ts with
  | nil => rfl
  | cons c t ih =>
    show (Jvm.Cond.and c (allAtoms t)).before a st = _
    rw [Jvm.Cond.before_and, ih, List.all_cons]
def words1 : List Jvm.Cond := Jvm.Cond.code x code maxLocals ret :: tables_1
/-- a 'code' word, met by the world's own term for the bytes: nothing is compared byte by byte -/
theorem code_word {y : MethodName} {bytes : ByteArray} {mx : Nat} {rt : Option FieldType} {a : Array Value} {s : State} {m : MethodId} {meth : Method} {c : Code} (h1 : s.methodNamed? y = some m) (h2 : s.vm.method? m = some meth) (h3 : meth.code = some c) (h4 : c.code = bytes)
    (h5 : (c.maxLocals == mx && c.exceptionTable.isEmpty && decide (c.maxStack ≤ mostOperands) && decide (meth.sig.returnType = rt) && !meth.locks && decide (parseMethodDescriptor y.desc = some meth.sig)) = true) : (Jvm.Cond.code y bytes mx rt).before a s = true := by
  simp only [Bool.and_eq_true, beq_iff_eq, Bool.not_eq_true', decide_eq_true_eq] at h5
  obtain ⟨⟨⟨⟨⟨g1, g2⟩, g3⟩, g4⟩, g5⟩, g6⟩ := h5
  simp [Cond.before, Cond.holds, Cond.value, h1, h2, h3, h4, g1, g2, g3, g4, g5, g6]
def isCode : Jvm.Cond → Bool
  | .code _ _ _ _ => true
  | _ => false
theorem all_split {L : List Jvm.Cond} {P : Jvm.Cond → Bool} (h1 : L.all (fun c => isCode c || P c) = true) (h2 : ∀ c ∈ L.filter isCode, P c = true) : L.all P = true := by
  refine List.all_eq_true.mpr fun c hc => ?_
  have h := List.all_eq_true.mp h1 c hc
  rcases Bool.eq_false_or_eq_true (isCode c) with hi | hi
  · exact h2 c (List.mem_filter.mpr ⟨hc, hi⟩)
  · simpa [hi] using h
set_option maxRecDepth 65536 in
theorem w_c0 : (Jvm.Cond.code x code maxLocals ret).before args0 about1 = true := code_word (m := ⟨1, 3⟩) (meth := k1m3) (c := k1c3) (by decide +kernel) rfl rfl rfl (by decide +kernel)
set_option maxRecDepth 65536 in
theorem w_c1 : (Jvm.Cond.code ({ cls := "com/example/xtd/xtd/model/XmlCharacters", name := "isNameStart", desc := "(I)Z" } : Jvm.MethodName) prog_116_method_4_code (3 : Nat) (Option.some Jvm.ClassFile.FieldType.boolean)).before args0 about1 = true := code_word (m := ⟨2, 1⟩) (meth := k2m1) (c := k2c1) (by decide +kernel) rfl rfl rfl (by decide +kernel)
set_option maxRecDepth 65536 in
theorem w_c2 : (Jvm.Cond.code ({ cls := "com/example/xtd/xtd/model/XmlCharactersIsNameStartPinLaw", name := "reference", desc := "(I)Z" } : Jvm.MethodName) method_3_code (1 : Nat) (Option.some Jvm.ClassFile.FieldType.boolean)).before args0 about1 = true := code_word (m := ⟨1, 2⟩) (meth := k1m2) (c := k1c2) (by decide +kernel) rfl rfl rfl (by decide +kernel)
set_option maxRecDepth 65536 in
theorem w_c3 : (Jvm.Cond.code ({ cls := "com/example/xtd/xtd/model/XmlCharactersIsNameStartPinLaw", name := "within", desc := "(III)Z" } : Jvm.MethodName) method_2_code (3 : Nat) (Option.some Jvm.ClassFile.FieldType.boolean)).before args0 about1 = true := code_word (m := ⟨1, 1⟩) (meth := k1m1) (c := k1c1) (by decide +kernel) rfl rfl rfl (by decide +kernel)
def codes1 : List Jvm.Cond := [Jvm.Cond.code x code maxLocals ret, Jvm.Cond.code ({ cls := "com/example/xtd/xtd/model/XmlCharacters", name := "isNameStart", desc := "(I)Z" } : Jvm.MethodName) prog_116_method_4_code (3 : Nat) (Option.some Jvm.ClassFile.FieldType.boolean), Jvm.Cond.code ({ cls := "com/example/xtd/xtd/model/XmlCharactersIsNameStartPinLaw", name := "reference", desc := "(I)Z" } : Jvm.MethodName) method_3_code (1 : Nat) (Option.some Jvm.ClassFile.FieldType.boolean), Jvm.Cond.code ({ cls := "com/example/xtd/xtd/model/XmlCharactersIsNameStartPinLaw", name := "within", desc := "(III)Z" } : Jvm.MethodName) method_2_code (3 : Nat) (Option.some Jvm.ClassFile.FieldType.boolean)]
set_option maxRecDepth 65536 in
theorem codes_eq : words1.filter isCode = codes1 := rfl
theorem w_codes : ∀ c ∈ words1.filter isCode, c.before args0 about1 = true := by
  rw [codes_eq]
  intro c hc
  simp only [codes1, List.mem_cons, List.not_mem_nil, or_false] at hc
  rcases hc with rfl | rfl | rfl | rfl
  · exact w_c0
  · exact w_c1
  · exact w_c2
  · exact w_c3
set_option maxRecDepth 65536 in
theorem w_t1 : (words1.take 24).all (fun c => isCode c || c.before args0 about1) = true := by decide +kernel
set_option maxRecDepth 65536 in
theorem w_t2 : (words1.drop 24).all (fun c => isCode c || c.before args0 about1) = true := by decide +kernel
theorem w_tables : (allAtoms (Jvm.Cond.code x code maxLocals ret :: tables_1)).before args0 about1 = true := by
  rw [allAtoms_all]
  show words1.all (fun c => c.before args0 about1) = true
  refine all_split ?_ w_codes
  rw [← List.take_append_drop 24 words1, List.all_append, w_t1, w_t2]
  rfl
set_option maxRecDepth 65536 in
theorem w_case : (Jvm.Cond.and given_1 narrow_1).before args0 about1 = true := by decide +kernel
theorem w_applies : (headSpec (Jvm.Cond.code x code maxLocals ret :: tables_1) room_1).applies x e0.platform about1 = true :=
  (Spec.applies_iff w_frames).mpr ⟨w_running, w_runnable, w_alone, w_named, w_hears, w_ripe, w_room, w_tables⟩
theorem atStart : AtStart classFile x code maxLocals ret World_1 tables_1 room_1 Calls_1 rest_1 Pre_1 launch0 p0 e0 about1 theMethod args0 below0 :=
  ⟨lists_1, trivial, launch0.admits_env _ _ _, launch0.least_env, fairChoices_fair.cas, fairChoices_fair.clock, w_frames, w_args, w_heap, w_applies, trivial, trivial, w_case⟩
end start1
theorem witness_1 : WitnessClaimed_1 := ⟨start1.p0, start1.e0, start1.about1, start1.theMethod, start1.args0, start1.below0, start1.atStart⟩
end Jvm.Pilot.@@N@@
