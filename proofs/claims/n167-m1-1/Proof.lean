import JvmDerived
import JvmDerived.Pilot.@@N@@Statement
import JvmDerived.Pilot.@@N@@Code
set_option linter.unusedVariables false
set_option linter.unusedSimpArgs false
@@BLOCK:HandJ.lean.txt@@
@@BLOCK:SymMore.lean.txt@@
namespace Jvm.Pilot.@@N@@
open Jvm Jvm.ClassFile Sem Op Lib Jvm.Free Jvm.Stand Jvm.LawKit Jvm.RoadKit Bundle Jvm.Pilot.@@N@@.Jvm.D
section OwnKit
variable {p : Program} {l : Launch} {e : Env} {R : Room} {s : State} {m : MethodId} {args : Array Value} {below : List Frame} {meth : Method} {c : Code} {T T' : State} {locs : List Loc} {cells slots : Nat} {F F' : JFrame} {K : State → Prop}
/-- from the frame F the run comes to a state that K takes -/
def own_R (p : Program) (e : Env) (below : List Frame) (K : State → Prop) (T : State) (F : JFrame) : Prop := ∃ t, Steps p.tables e below (T.setTop F) t ∧ K t
theorem own_go (h : ∀ t, Steps p.tables e below (T'.setTop F') t → Steps p.tables e below (T.setTop F) t) (r : own_R p e below K T' F') : own_R p e below K T F := by
  obtain ⟨t, h1, h2⟩ := r
  exact ⟨t, h t h1, h2⟩
/-- the end of the body: it returned, and Q holds -/
def own_E (s : State) (below : List Frame) (Q : Option Value → Heap → List Loc → Prop) (k n : Nat) (t : State) : Prop :=
  t.status = .running ∧ ∃ v L, Ended t below (.returned v) ∧ Q v t.heap L ∧ FrameEnd s (.returned v) t L k n
/-- a join: the run stands at F', the heap as I says -/
def own_K (p : Program) (l : Launch) (e : Env) (R : Room) (s : State) (m : MethodId) (args : Array Value) (below : List Frame) (meth : Method) (c : Code) (n0 cells slots : Nat) (I : Heap → Prop) (F' : JFrame) (t : State) : Prop :=
  ∃ (T' : State) (L' : List Loc), t = T'.setTop F' ∧ Stand p l e R s m args below meth c T' L' cells slots ∧ I T'.heap ∧ Fr n0 L'
theorem own_here {n0 : Nat} {I : Heap → Prop} (X : Stand p l e R s m args below meth c T locs cells slots) (i : I T.heap) (N : Fr n0 locs) : own_R p e below (own_K p l e R s m args below meth c n0 cells slots I F) T F :=
  ⟨_, Steps.refl _, T, locs, rfl, X, i, N⟩
theorem own_hide {n0 : Nat} (X : Stand p l e R s m args below meth c T locs cells slots) (N : Fr n0 locs) : ∃ L, Stand p l e R s m args below meth c T L cells slots ∧ Fr n0 L := ⟨_, X, N⟩
theorem own_retN {Q : Option Value → Heap → List Loc → Prop} {k n : Nat} (X : Stand p l e R s m args below meth c T locs cells slots) (hx : p.tables.exec = Jvm.exec) {pc : Nat} {Ls : Array Slot} {z : Int32} {t : FieldType} {rest : List Value} (hret : meth.sig.returnType = some t) (ht : t = .boolean ∨ t = .byte ∨ t = .char ∨ t = .short) (hlk : meth.locks = false)
    (hd : decode c.code pc = .ok (.ireturn, 1)) (hk : cells ≤ k) (hn : slots ≤ n) (hQ : Q (some (.int (nar t z))) T.heap locs) : own_R p e below (own_E s below Q k n) T (mkF m pc Ls (.int z :: rest)) := by
  obtain ⟨fs, hr, hrun, hended, hW, hsame⟩ := X.leave (v := some (.int (nar t z))) (fun h => by rw [hret] at h; cases h) hlk
  exact ⟨_, retN X hx hret ht hd hr, hrun, _, _, hended, hQ, ⟨_, rfl⟩, hW, hsame.mono hk hn⟩
theorem own_retW {Q : Option Value → Heap → List Loc → Prop} {k n : Nat} (X : Stand p l e R s m args below meth c T locs cells slots) (hx : p.tables.exec = Jvm.exec) {pc : Nat} {Ls : Array Slot} {w : Value} {t : FieldType} {i : Instr} {rest : List Value} (hret : meth.sig.returnType = some t) (hnw : narrow t w = w)
    (hi : (i = .ireturn ∧ (t = .int ∨ t = .boolean ∨ t = .byte ∨ t = .char ∨ t = .short) ∧ ∃ z, w = .int z) ∨ (i = .lreturn ∧ t = .long ∧ ∃ z, w = .long z) ∨ (i = .dreturn ∧ t = .double ∧ ∃ z, w = .double z) ∨ (i = .freturn ∧ t = .float ∧ ∃ z, w = .float z) ∨ (i = .areturn ∧ t.isReference = true ∧ w.isRef = true)) (hlk : meth.locks = false)
    (hd : decode c.code pc = .ok (i, 1)) (hk : cells ≤ k) (hn : slots ≤ n) (hQ : Q (some w) T.heap locs) : own_R p e below (own_E s below Q k n) T (mkF m pc Ls (w :: rest)) := by
  obtain ⟨fs, hr, hrun, hended, hW, hsame⟩ := X.leave (v := some w) (fun h => by rw [hret] at h; cases h) hlk
  exact ⟨_, retOut X hx hret hnw hi hd hr, hrun, _, _, hended, hQ, ⟨_, rfl⟩, hW, hsame.mono hk hn⟩
theorem own_retV {Q : Option Value → Heap → List Loc → Prop} {k n : Nat} (X : Stand p l e R s m args below meth c T locs cells slots) (hx : p.tables.exec = Jvm.exec) {pc : Nat} {Ls : Array Slot} (hret : meth.sig.returnType = none) (hlk : meth.locks = false)
    (hd : decode c.code pc = .ok (.return_, 1)) (hk : cells ≤ k) (hn : slots ≤ n) (hQ : Q none T.heap locs) : own_R p e below (own_E s below Q k n) T (mkF m pc Ls []) := by
  obtain ⟨fs, hr, hrun, hended, hW, hsame⟩ := X.leave (v := none) (fun _ => rfl) hlk
  exact ⟨_, X.returnOut hx hret hd hr, hrun, _, _, hended, hQ, ⟨_, rfl⟩, hW, hsame.mono hk hn⟩
theorem own_lti {x y : Int32} {a b : Int} (h : x < y) (ha : x.toInt = a) (hb : y.toInt = b) : a < b := by rw [← ha, ← hb]; exact Int32.lt_iff_toInt_lt.mp h
theorem own_nlti {x y : Int32} {a b : Int} (h : ¬ x < y) (ha : x.toInt = a) (hb : y.toInt = b) : b ≤ a := by rw [← ha, ← hb]; rw [Int32.lt_iff_toInt_lt] at h; omega
theorem own_eqi {x y : Int32} {a b : Int} (h : x = y) (ha : x.toInt = a) (hb : y.toInt = b) : a = b := by rw [← ha, ← hb, h]
theorem own_nei {x y : Int32} {a b : Int} (h : ¬ x = y) (ha : x.toInt = a) (hb : y.toInt = b) : a ≠ b := by rw [← ha, ← hb]; exact fun q => h (Int32.toInt_inj.mp q)
theorem own_if0 {P : Prop} [Decidable P] (h : (if P then (1 : Int32) else (0 : Int32)) = (0 : Int32)) : ¬ P := fun q => by rw [if_pos q] at h; exact absurd h (by decide)
theorem own_if1 {P : Prop} [Decidable P] (h : ¬ (if P then (1 : Int32) else (0 : Int32)) = (0 : Int32)) : P := by
  by_cases q : P
  · exact q
  · exact absurd (if_neg q) h
theorem own_b01 {P : Prop} [Decidable P] : nar .boolean (if P then (1 : Int32) else (0 : Int32)) = (if P then (1 : Int32) else (0 : Int32)) := by split <;> rfl
/-- the end of the body, where a String constant may have been interned -/
def own_EW (s : State) (below : List Frame) (Q : Option Value → Heap → List Loc → Prop) (k n : Nat) (t : State) : Prop :=
  t.status = .running ∧ ∃ v L, Ended t below (.returned v) ∧ Q v t.heap L ∧ ReturnedEndW s (.returned v) t L k n
theorem own_retNW {Q : Option Value → Heap → List Loc → Prop} {k n j : Nat} {vm₁ : Vm} (X : Stand p l e R (s.setVm vm₁) m args below meth c T locs cells slots) (hx : p.tables.exec = Jvm.exec) {pc : Nat} {Ls : Array Slot} {z : Int32} {t : FieldType} {rest : List Value} (hret : meth.sig.returnType = some t) (ht : t = .boolean ∨ t = .byte ∨ t = .char ∨ t = .short) (hlk : meth.locks = false)
    (hd : decode c.code pc = .ok (.ireturn, 1)) (hS : s.Since vm₁ j) (hj : j ≤ T.heap.size) (hk : cells ≤ k) (hn : slots ≤ n) (hQ : Q (some (.int (nar t z))) T.heap locs) : own_R p e below (own_EW s below Q k n) T (mkF m pc Ls (.int z :: rest)) := by
  obtain ⟨fs, hr, hrun, hended, h1, h2, h3, h4⟩ := X.leaveW hS hj (v := some (.int (nar t z))) (fun h => by rw [hret] at h; cases h) hlk
  exact ⟨_, retN X hx hret ht hd hr, hrun, _, _, hended, hQ, h1, h2, h3, h4.mono hk hn⟩
end OwnKit
theorem pd_0 : parseMethodDescriptor "(J)C" = some ⟨[.long], some .char⟩ := by decide +kernel
theorem pd_1 : parseMethodDescriptor "(II)I" = some ⟨[.int, .int], some .int⟩ := by decide +kernel
theorem pd_2 : parseMethodDescriptor "()V" = some ⟨[], none⟩ := by decide +kernel
theorem pd_3 : parseMethodDescriptor "([CII)V" = some ⟨[(.array .char), .int, .int], none⟩ := by decide +kernel
theorem pd_4 : parseMethodDescriptor "(C)V" = some ⟨[.char], none⟩ := by decide +kernel
theorem pd_5 : parseMethodDescriptor "(JLjava/lang/String;)Lcom/example/xtd/xtd/model/Position;" = some ⟨[.long, (.object "java/lang/String")], some (.object "com/example/xtd/xtd/model/Position")⟩ := by decide +kernel
theorem pd_6 : parseMethodDescriptor "(IIJLjava/lang/String;)V" = some ⟨[.int, .int, .long, (.object "java/lang/String")], none⟩ := by decide +kernel
theorem pd_7 : parseMethodDescriptor "()I" = some ⟨[], some .int⟩ := by decide +kernel
def own_step (x : Int32) (q : Int32 × Int32 × Int32) : Int32 × Int32 × Int32 :=
  if x = (13 : Int32) then (q.1 + (1 : Int32), (1 : Int32), (1 : Int32)) else if x = (10 : Int32) then (if q.2.2 = (0 : Int32) then (q.1 + (1 : Int32), (1 : Int32), (0 : Int32)) else (q.1, q.2.1, (0 : Int32))) else (q.1, q.2.1 + (1 : Int32), (0 : Int32))
def own_run (xs : List Int32) : Nat → Nat → Int32 × Int32 × Int32 → Int32 × Int32 × Int32
  | 0, _, q => q
  | k + 1, i, q => own_run xs k (i + 1) (own_step (xs.getD i 0) q)
theorem own_run0 (xs : List Int32) (i : Nat) (q : Int32 × Int32 × Int32) : own_run xs 0 i q = q := rfl
theorem own_runS (xs : List Int32) (k i : Nat) (q : Int32 × Int32 × Int32) : own_run xs (k + 1) i q = own_run xs k (i + 1) (own_step (xs.getD i 0) q) := rfl
theorem own_run_add (xs : List Int32) : ∀ (k j i : Nat) (q : Int32 × Int32 × Int32), own_run xs (k + j) i q = own_run xs j (i + k) (own_run xs k i q)
  | 0, j, i, q => by rw [Nat.zero_add]; rfl
  | k + 1, j, i, q => by rw [Nat.succ_add, own_runS, own_run_add xs k j (i + 1), own_runS, Nat.add_assoc, Nat.add_comm 1 k]
def own_J (q : Int32 × Int32 × Int32) : Prop := q.2.2 ≠ (0 : Int32) → q.2.1 = (1 : Int32)
theorem own_stepJ (x : Int32) (q : Int32 × Int32 × Int32) : own_J (own_step x q) := by
  unfold own_J own_step
  split
  · exact fun _ => rfl
  · split
    · split <;> exact fun h => absurd rfl h
    · exact fun h => absurd rfl h
theorem own_runJ (xs : List Int32) : ∀ (k i : Nat) (q : Int32 × Int32 × Int32), own_J q → own_J (own_run xs k i q)
  | 0, _, _, h => h
  | k + 1, i, q, _ => own_runJ xs k (i + 1) _ (own_stepJ _ _)
theorem own_t1 {x l c r : Int32} (h1 : ¬ x = (13 : Int32)) (h2 : ¬ x = (10 : Int32)) : own_step x (l, c, r) = (l, c + (1 : Int32), (0 : Int32)) := by unfold own_step; rw [if_neg h1, if_neg h2]
theorem own_t2 {x l c r : Int32} (h1 : x = (13 : Int32)) : own_step x (l, c, r) = (l + (1 : Int32), (1 : Int32), (1 : Int32)) := by unfold own_step; rw [if_pos h1]
theorem own_t3 {x l c r : Int32} (h1 : ¬ x = (13 : Int32)) (h2 : x = (10 : Int32)) (h3 : r = (0 : Int32)) : own_step x (l, c, r) = (l + (1 : Int32), (1 : Int32), (0 : Int32)) := by unfold own_step; rw [if_neg h1, if_pos h2, if_pos h3]
theorem own_t4 {x l c r : Int32} (h1 : ¬ x = (13 : Int32)) (h2 : x = (10 : Int32)) (h3 : ¬ r = (0 : Int32)) : own_step x (l, c, r) = (l, c, (0 : Int32)) := by unfold own_step; rw [if_neg h1, if_pos h2, if_neg h3]
theorem own_gt {x : Int32} (h : (13 : Int32) < x) : ¬ x = (13 : Int32) ∧ ¬ x = (10 : Int32) := by
  have a : (13 : Int32).toInt = 13 := rfl
  have b : (10 : Int32).toInt = 10 := rfl
  rw [Int32.lt_iff_toInt_lt] at h
  constructor <;> rw [← Int32.toInt_inj] <;> omega
theorem own_os6 {a b : Addr} {m t e i v : Int32} {s6 s7 : Slot} (h : One s6) : storeLocals #[.val (.ref a), .val (.ref b), .val (.int m), .val (.int t), .val (.int e), .val (.int i), s6, s7] 6 (.int v) = some #[.val (.ref a), .val (.ref b), .val (.int m), .val (.int t), .val (.int e), .val (.int i), .val (.int v), s7] := by
  rcases h with rfl | ⟨w, rfl, hw⟩
  · rfl
  · cases w <;> first | rfl | (simp [Value.category] at hw)
theorem own_os7 {a b : Addr} {m t e i v u : Int32} {s7 : Slot} (h : One s7) : storeLocals #[.val (.ref a), .val (.ref b), .val (.int m), .val (.int t), .val (.int e), .val (.int i), .val (.int u), s7] 7 (.int v) = some #[.val (.ref a), .val (.ref b), .val (.int m), .val (.int t), .val (.int e), .val (.int i), .val (.int u), .val (.int v)] := by
  rcases h with rfl | ⟨w, rfl, hw⟩
  · rfl
  · cases w <;> first | rfl | (simp [Value.category] at hw)
theorem own_getD (l : List Int32) (j : Nat) : (l.map Value.int).getD j (.int (0 : Int32)) = .int (l.getD j 0) := by
  simp only [List.getD_eq_getElem?_getD, List.getElem?_map]
  cases l[j]? <;> rfl
theorem own_nn {k : Int32} (h0 : 0 ≤ k.toInt) : k.toNatClampNeg = k.toInt.toNat := rfl
theorem own_nlt {t i j : Int32} (h : ¬ i < t) (hij : ¬ j < i) : ¬ j < t := by rw [Int32.lt_iff_toInt_lt] at *; omega
theorem own_col1 (c i m : Int32) : (c + (i - m)) + (1 : Int32) = c + ((i + (1 : Int32)) - m) := by
  have a1 := c_isub i m
  have a2 := c_iadd c (i - m)
  have a3 := c_iadd (c + (i - m)) 1
  have a4 := c_iadd i 1
  have a5 := c_isub (i + 1) m
  have a6 := c_iadd c ((i + 1) - m)
  have r1 := rng32 ((c + (i - m)) + 1)
  have r2 := rng32 (c + ((i + 1) - m))
  rw [← Int32.toInt_inj]; omega
theorem own_col2 (i e : Int32) : ((1 : Int32) + (i - e)) + (1 : Int32) = (1 : Int32) + ((i + (1 : Int32)) - e) := own_col1 1 i e
theorem own_col3 (c t m : Int32) : ((c + t) - m) = c + (t - m) := by
  have a1 := c_isub t m
  have a2 := c_iadd c (t - m)
  have a3 := c_iadd c t
  have a4 := c_isub (c + t) m
  have r1 := rng32 ((c + t) - m)
  have r2 := rng32 (c + (t - m))
  rw [← Int32.toInt_inj]; omega
theorem own_col4 (i : Int32) : (1 : Int32) = (1 : Int32) + ((i + (1 : Int32)) - (i + (1 : Int32))) := by
  have a5 := c_isub (i + 1) (i + 1)
  have a6 := c_iadd 1 ((i + 1) - (i + 1))
  have r1 := rng32 ((i + 1) - (i + 1))
  have r2 := rng32 ((1 : Int32) + ((i + 1) - (i + 1)))
  have k : (1 : Int32).toInt = 1 := rfl
  rw [← Int32.toInt_inj]; omega
theorem own_up {i : Int32} (h0 : 0 ≤ i.toInt) (h1 : i.toInt < 4) : (i + (1 : Int32)).toInt = i.toInt + 1 := by
  have a4 := c_iadd i 1
  have r := rng32 (i + 1)
  have k : (1 : Int32).toInt = 1 := rfl
  omega
theorem own_dn {i : Int32} (h0 : 0 < i.toInt) : (i - (1 : Int32)).toInt = i.toInt - 1 := by
  have a4 := c_isub i 1
  have r := rng32 (i - 1)
  have r2 := rng32 i
  have k : (1 : Int32).toInt = 1 := rfl
  omega
theorem d1_0 : decode method_2_code 0 = .ok (.lload_n 0, 1) := by decide +kernel
theorem d1_1 : decode method_2_code 1 = .ok (.ldc2_w 7, 3) := by decide +kernel
theorem d1_4 : decode method_2_code 4 = .ok (.land, 1) := by decide +kernel
theorem d1_5 : decode method_2_code 5 = .ok (.l2i, 1) := by decide +kernel
theorem d1_6 : decode method_2_code 6 = .ok (.istore_n 2, 1) := by decide +kernel
theorem d1_7 : decode method_2_code 7 = .ok (.iload_n 2, 1) := by decide +kernel
theorem d1_8 : decode method_2_code 8 = .ok (.ifCond .ne 6, 3) := by decide +kernel
theorem d1_11 : decode method_2_code 11 = .ok (.bipush 13, 2) := by decide +kernel
theorem d1_13 : decode method_2_code 13 = .ok (.ireturn, 1) := by decide +kernel
theorem d1_14 : decode method_2_code 14 = .ok (.iload_n 2, 1) := by decide +kernel
theorem d1_15 : decode method_2_code 15 = .ok (.iconst 1, 1) := by decide +kernel
theorem d1_16 : decode method_2_code 16 = .ok (.if_icmp .ne 6, 3) := by decide +kernel
theorem d1_19 : decode method_2_code 19 = .ok (.bipush 10, 2) := by decide +kernel
theorem d1_21 : decode method_2_code 21 = .ok (.ireturn, 1) := by decide +kernel
theorem d1_22 : decode method_2_code 22 = .ok (.lload_n 0, 1) := by decide +kernel
theorem d1_23 : decode method_2_code 23 = .ok (.iconst 2, 1) := by decide +kernel
theorem d1_24 : decode method_2_code 24 = .ok (.lushr, 1) := by decide +kernel
theorem d1_25 : decode method_2_code 25 = .ok (.ldc2_w 9, 3) := by decide +kernel
theorem d1_28 : decode method_2_code 28 = .ok (.land, 1) := by decide +kernel
theorem d1_29 : decode method_2_code 29 = .ok (.l2i, 1) := by decide +kernel
theorem d1_30 : decode method_2_code 30 = .ok (.i2c, 1) := by decide +kernel
theorem d1_31 : decode method_2_code 31 = .ok (.ireturn, 1) := by decide +kernel
theorem pn_0 : plainName "com/example/xtd/xtd/model/LineCounterCountPinLaw" = true := by first | (simp [plainName, overriddenIn]; done) | decide +kernel
theorem ef_pick (m : MethodId) (x0 : Int64) : entryFrame m #[(.long x0)] 3 = mkF m 0 #[.val (.long x0), .second, .unset] [] := by first | (simp [entryFrame, mkF, argsToLocals, Value.category]; done) | rfl
def Qpick (Z : State) (q1 : Int64) (h0 : Heap) (n0 : Nat) (v : Option Value) (h : Heap) (L : List Loc) : Prop := v = some (.int (if ((q1 &&& (3 : Int64)).toInt32) = (0 : Int32) then (nar .char (13 : Int32)) else if ((q1 &&& (3 : Int64)).toInt32) = (1 : Int32) then (nar .char (10 : Int32)) else (nar .char ((((q1.toUInt64 >>> ((2 : Int32) &&& 0x3f).toInt64.toUInt64).toInt64) &&& (65535 : Int64)).toInt32.toUInt32.toUInt16.toUInt32.toInt32)))) ∧ Fr n0 L ∧ h = h0
set_option maxRecDepth 65536 in
set_option maxHeartbeats 40000000 in
theorem rmpick (l : Launch) (Z : State) (a0 : Array Value) (hw : ∀ d ∈ tables_1, d.before a0 Z = true) (ws : List Jvm.Cond) (q1 : Int64) (h0 : Heap) (n0 : Nat) (Z0 : n0 ≤ h0.size) :
    MetFree l (⟨"com/example/xtd/xtd/model/LineCounterCountPinLaw", "pick", "(J)C"⟩ : MethodName) (head1 (Jvm.Cond.code (⟨"com/example/xtd/xtd/model/LineCounterCountPinLaw", "pick", "(J)C"⟩ : MethodName) method_2_code 3 (some .char) :: ws) ({ frames := 0, cells := 0, slots := 0, locals := 0 } : Room)) (fun aS U => aS = #[(.long q1)] ∧ Z.Warmed39 U.vm ∧ U.heap = h0) (fun _ _ _ _ _ => True) (fun _ U o U' => ∃ v L, o = .returned v ∧ Qpick Z q1 h0 n0 v U'.heap L ∧ FrameEnd U o U' L ({ frames := 0, cells := 0, slots := 0, locals := 0 } : Room).cells ({ frames := 0, cells := 0, slots := 0, locals := 0 } : Room).slots) := by
  refine MetFree.of_bodySF (plainFor_of_name pn_0) hisR ?_
  intro p e s m args below meth c s₁ Bd hml0 hP hK
  obtain ⟨rfl, hZ, hh⟩ := hP
  have hx := Bd.exec
  have hby := Bd.bytes
  have hml : c.maxLocals = 3 := hml0
  have hown : s.vm.findClass "com/example/xtd/xtd/model/LineCounterCountPinLaw" = some m.cls := findClass_of_methodNamed Bd.named
  have hnm := (name_of_methodNamed Bd.named Bd.method).1
  have X0 : Stand p l e ({ frames := 0, cells := 0, slots := 0, locals := 0 } : Room) s m #[(.long q1)] below meth c s₁ [] 0 0 := Stand.of_body Bd
  have e0 : s₁.heap = h0 := by rw [← hh, Bd.state]; rfl
  have N0 := Fr.nil n0
  have Kh : Keep h0 h0 [] := Keep.refl _ _
  suffices H : own_R p e below (own_E s below (Qpick Z q1 h0 n0) ({ frames := 0, cells := 0, slots := 0, locals := 0 } : Room).cells ({ frames := 0, cells := 0, slots := 0, locals := 0 } : Room).slots) s₁ (mkF m 0 #[.val (.long q1), .second, .unset] []) by
    obtain ⟨t, hst, hrun, v, L, hend, hQ, hF⟩ := H
    exact ⟨t, _, castTop (ef_pick m q1) hst, hrun, hend, v, L, rfl, hQ, hF⟩
  show own_R p e below _ s₁ (mkF m 0 #[.val (.long q1), .second, .unset] [])
  refine own_go (fun t k => XS.lloadN X0.here hx rfl (hb hby d1_0) rfl  k) ?_
  show own_R p e below _ s₁ (mkF m 1 #[.val (.long q1), .second, .unset] [(.long q1)])
  refine own_go (X0.ldc2Long hx hown (mvT hZ (hw _ (List.mem_of_getElem? (i := 5) rfl))) (g := (mkF m 1 #[.val (.long q1), .second, .unset] [(.long q1)])) rfl (hb hby d1_1)) ?_
  show own_R p e below _ s₁ (mkF m 4 #[.val (.long q1), .second, .unset] [(.long (3 : Int64)), (.long q1)])
  refine own_go (fun t k => XS.land X0.here hx rfl (hb hby d1_4) rfl k) ?_
  show own_R p e below _ s₁ (mkF m 5 #[.val (.long q1), .second, .unset] [(.long (q1 &&& (3 : Int64)))])
  refine own_go (fun t k => XS.l2i X0.here hx rfl (hb hby d1_5) rfl k) ?_
  show own_R p e below _ s₁ (mkF m 6 #[.val (.long q1), .second, .unset] [(.int ((q1 &&& (3 : Int64)).toInt32))])
  refine own_go (fun t k => XS.istoreN X0.here hx rfl (hb hby d1_6) rfl (l' := #[.val (.long q1), .second, .val (.int ((q1 &&& (3 : Int64)).toInt32))]) rfl k) ?_
  show own_R p e below _ s₁ (mkF m 7 #[.val (.long q1), .second, .val (.int ((q1 &&& (3 : Int64)).toInt32))] [])
  refine own_go (fun t k => XS.iloadN X0.here hx rfl (hb hby d1_7) rfl  k) ?_
  show own_R p e below _ s₁ (mkF m 8 #[.val (.long q1), .second, .val (.int ((q1 &&& (3 : Int64)).toInt32))] [(.int ((q1 &&& (3 : Int64)).toInt32))])
  by_cases hc8_1 : ((q1 &&& (3 : Int64)).toInt32) = (0 : Int32)
  · -- pc 8: yes
    refine own_go (fun t k => XS.ifNo X0.here hx rfl (hb hby d1_8) rfl ((if0 _ _).trans (teq hc8_1).2) k) ?_
    show own_R p e below _ s₁ (mkF m 11 #[.val (.long q1), .second, .val (.int ((q1 &&& (3 : Int64)).toInt32))] [])
    refine own_go (fun t k => XS.bipush X0.here hx rfl (hb hby d1_11) k) ?_
    show own_R p e below _ s₁ (mkF m 13 #[.val (.long q1), .second, .val (.int ((q1 &&& (3 : Int64)).toInt32))] [(.int (13 : Int32))])
    refine own_retN X0 hx Bd.returns (by simp) (BodyLoose.notSynchronized Bd) (hb hby d1_13) (by decide) (by decide) ?_
    exact ⟨(by simp only [if_pos hc8_1]), N0, e0⟩
  · -- pc 8: no
    refine own_go (fun t k => XS.ifYes X0.here hx rfl (pc0 := 8) (pc' := 14) rfl (hb hby d1_8) rfl ((if0 _ _).trans (feq hc8_1).2) (by decide) (by decide) k) ?_
    show own_R p e below _ s₁ (mkF m 14 #[.val (.long q1), .second, .val (.int ((q1 &&& (3 : Int64)).toInt32))] [])
    refine own_go (fun t k => XS.iloadN X0.here hx rfl (hb hby d1_14) rfl  k) ?_
    show own_R p e below _ s₁ (mkF m 15 #[.val (.long q1), .second, .val (.int ((q1 &&& (3 : Int64)).toInt32))] [(.int ((q1 &&& (3 : Int64)).toInt32))])
    refine own_go (fun t k => XS.iconst X0.here hx rfl (hb hby d1_15) k) ?_
    show own_R p e below _ s₁ (mkF m 16 #[.val (.long q1), .second, .val (.int ((q1 &&& (3 : Int64)).toInt32))] [(.int (1 : Int32)), (.int ((q1 &&& (3 : Int64)).toInt32))])
    by_cases hc16_2 : ((q1 &&& (3 : Int64)).toInt32) = (1 : Int32)
    · -- pc 16: yes
      refine own_go (fun t k => XS.icmpNo X0.here hx rfl (hb hby d1_16) rfl (teq hc16_2).2 k) ?_
      show own_R p e below _ s₁ (mkF m 19 #[.val (.long q1), .second, .val (.int ((q1 &&& (3 : Int64)).toInt32))] [])
      refine own_go (fun t k => XS.bipush X0.here hx rfl (hb hby d1_19) k) ?_
      show own_R p e below _ s₁ (mkF m 21 #[.val (.long q1), .second, .val (.int ((q1 &&& (3 : Int64)).toInt32))] [(.int (10 : Int32))])
      refine own_retN X0 hx Bd.returns (by simp) (BodyLoose.notSynchronized Bd) (hb hby d1_21) (by decide) (by decide) ?_
      exact ⟨(by simp only [if_neg hc8_1, if_pos hc16_2]), N0, e0⟩
    · -- pc 16: no
      refine own_go (fun t k => XS.icmpYes X0.here hx rfl (pc0 := 16) (pc' := 22) rfl (hb hby d1_16) rfl (feq hc16_2).2 (by decide) (by decide) k) ?_
      show own_R p e below _ s₁ (mkF m 22 #[.val (.long q1), .second, .val (.int ((q1 &&& (3 : Int64)).toInt32))] [])
      refine own_go (fun t k => XS.lloadN X0.here hx rfl (hb hby d1_22) rfl  k) ?_
      show own_R p e below _ s₁ (mkF m 23 #[.val (.long q1), .second, .val (.int ((q1 &&& (3 : Int64)).toInt32))] [(.long q1)])
      refine own_go (fun t k => XS.iconst X0.here hx rfl (hb hby d1_23) k) ?_
      show own_R p e below _ s₁ (mkF m 24 #[.val (.long q1), .second, .val (.int ((q1 &&& (3 : Int64)).toInt32))] [(.int (2 : Int32)), (.long q1)])
      refine own_go (fun t k => XS.lushr X0.here hx rfl (hb hby d1_24) rfl k) ?_
      show own_R p e below _ s₁ (mkF m 25 #[.val (.long q1), .second, .val (.int ((q1 &&& (3 : Int64)).toInt32))] [(.long ((q1.toUInt64 >>> ((2 : Int32) &&& 0x3f).toInt64.toUInt64).toInt64))])
      refine own_go (X0.ldc2Long hx hown (mvT hZ (hw _ (List.mem_of_getElem? (i := 6) rfl))) (g := (mkF m 25 #[.val (.long q1), .second, .val (.int ((q1 &&& (3 : Int64)).toInt32))] [(.long ((q1.toUInt64 >>> ((2 : Int32) &&& 0x3f).toInt64.toUInt64).toInt64))])) rfl (hb hby d1_25)) ?_
      show own_R p e below _ s₁ (mkF m 28 #[.val (.long q1), .second, .val (.int ((q1 &&& (3 : Int64)).toInt32))] [(.long (65535 : Int64)), (.long ((q1.toUInt64 >>> ((2 : Int32) &&& 0x3f).toInt64.toUInt64).toInt64))])
      refine own_go (fun t k => XS.land X0.here hx rfl (hb hby d1_28) rfl k) ?_
      show own_R p e below _ s₁ (mkF m 29 #[.val (.long q1), .second, .val (.int ((q1 &&& (3 : Int64)).toInt32))] [(.long (((q1.toUInt64 >>> ((2 : Int32) &&& 0x3f).toInt64.toUInt64).toInt64) &&& (65535 : Int64)))])
      refine own_go (fun t k => XS.l2i X0.here hx rfl (hb hby d1_29) rfl k) ?_
      show own_R p e below _ s₁ (mkF m 30 #[.val (.long q1), .second, .val (.int ((q1 &&& (3 : Int64)).toInt32))] [(.int ((((q1.toUInt64 >>> ((2 : Int32) &&& 0x3f).toInt64.toUInt64).toInt64) &&& (65535 : Int64)).toInt32))])
      refine own_go (fun t k => XS.i2c X0.here hx rfl (hb hby d1_30) rfl k) ?_
      show own_R p e below _ s₁ (mkF m 31 #[.val (.long q1), .second, .val (.int ((q1 &&& (3 : Int64)).toInt32))] [(.int (((((q1.toUInt64 >>> ((2 : Int32) &&& 0x3f).toInt64.toUInt64).toInt64) &&& (65535 : Int64)).toInt32).toUInt32.toUInt16.toUInt32.toInt32))])
      refine own_retN X0 hx Bd.returns (by simp) (BodyLoose.notSynchronized Bd) (hb hby d1_31) (by decide) (by decide) ?_
      exact ⟨(by simp only [if_neg hc8_1, if_neg hc16_2]), N0, e0⟩
theorem d2_0 : decode jdk_29_method_69_code 0 = .ok (.iload_n 0, 1) := by decide +kernel
theorem d2_1 : decode jdk_29_method_69_code 1 = .ok (.iload_n 1, 1) := by decide +kernel
theorem d2_2 : decode jdk_29_method_69_code 2 = .ok (.if_icmp .gt 7, 3) := by decide +kernel
theorem d2_5 : decode jdk_29_method_69_code 5 = .ok (.iload_n 0, 1) := by decide +kernel
theorem d2_6 : decode jdk_29_method_69_code 6 = .ok (.goto 4, 3) := by decide +kernel
theorem d2_9 : decode jdk_29_method_69_code 9 = .ok (.iload_n 1, 1) := by decide +kernel
theorem d2_10 : decode jdk_29_method_69_code 10 = .ok (.ireturn, 1) := by decide +kernel
theorem ef_2 (m : MethodId) (x0 : Int32) (x1 : Int32) : entryFrame m #[(.int x0), (.int x1)] 2 = mkF m 0 #[.val (.int x0), .val (.int x1)] [] := by first | (simp [entryFrame, mkF, argsToLocals, Value.category]; done) | rfl
def Q2 (Z : State) (p1 : Int32) (p2 : Int32) (h0 : Heap) (n0 : Nat) (v : Option Value) (h : Heap) (L : List Loc) : Prop := v = some (.int (if p2 < p1 then p2 else p1)) ∧ Fr n0 L ∧ h = h0
set_option maxRecDepth 65536 in
set_option maxHeartbeats 40000000 in
theorem rm2 (l : Launch) (Z : State) (a0 : Array Value) (hw : ∀ d ∈ tables_1, d.before a0 Z = true) (ws : List Jvm.Cond) (p1 : Int32) (p2 : Int32) (h0 : Heap) (n0 : Nat) (Z0 : n0 ≤ h0.size) :
    MetFree l (⟨"java/lang/Math", "min", "(II)I"⟩ : MethodName) (head1 (Jvm.Cond.code (⟨"java/lang/Math", "min", "(II)I"⟩ : MethodName) jdk_29_method_69_code 2 (some .int) :: ws) ({ frames := 0, cells := 0, slots := 0, locals := 0 } : Room)) (fun aS U => aS = #[(.int p1), (.int p2)] ∧ Z.Warmed39 U.vm ∧ U.heap = h0) (fun _ _ _ _ _ => True) (fun _ U o U' => ∃ v L, o = .returned v ∧ Q2 Z p1 p2 h0 n0 v U'.heap L ∧ FrameEnd U o U' L ({ frames := 0, cells := 0, slots := 0, locals := 0 } : Room).cells ({ frames := 0, cells := 0, slots := 0, locals := 0 } : Room).slots) := by
  refine MetFree.of_bodySF (Jvm.Free.JP.mathPlain rfl (by decide +kernel)) hisR ?_
  intro p e s m args below meth c s₁ Bd hml0 hP hK
  obtain ⟨rfl, hZ, hh⟩ := hP
  have hx := Bd.exec
  have hby := Bd.bytes
  have hml : c.maxLocals = 2 := hml0
  have hown : s.vm.findClass "java/lang/Math" = some m.cls := findClass_of_methodNamed Bd.named
  have hnm := (name_of_methodNamed Bd.named Bd.method).1
  have X0 : Stand p l e ({ frames := 0, cells := 0, slots := 0, locals := 0 } : Room) s m #[(.int p1), (.int p2)] below meth c s₁ [] 0 0 := Stand.of_body Bd
  have e0 : s₁.heap = h0 := by rw [← hh, Bd.state]; rfl
  have N0 := Fr.nil n0
  have Kh : Keep h0 h0 [] := Keep.refl _ _
  suffices H : own_R p e below (own_E s below (Q2 Z p1 p2 h0 n0) ({ frames := 0, cells := 0, slots := 0, locals := 0 } : Room).cells ({ frames := 0, cells := 0, slots := 0, locals := 0 } : Room).slots) s₁ (mkF m 0 #[.val (.int p1), .val (.int p2)] []) by
    obtain ⟨t, hst, hrun, v, L, hend, hQ, hF⟩ := H
    exact ⟨t, _, castTop (ef_2 m p1 p2) hst, hrun, hend, v, L, rfl, hQ, hF⟩
  show own_R p e below _ s₁ (mkF m 0 #[.val (.int p1), .val (.int p2)] [])
  refine own_go (fun t k => XS.iloadN X0.here hx rfl (hb hby d2_0) rfl  k) ?_
  show own_R p e below _ s₁ (mkF m 1 #[.val (.int p1), .val (.int p2)] [(.int p1)])
  refine own_go (fun t k => XS.iloadN X0.here hx rfl (hb hby d2_1) rfl  k) ?_
  show own_R p e below _ s₁ (mkF m 2 #[.val (.int p1), .val (.int p2)] [(.int p2), (.int p1)])
  by_cases hc2_1 : p2 < p1
  · -- pc 2: yes
    refine own_go (fun t k => XS.icmpYes X0.here hx rfl (pc0 := 2) (pc' := 9) rfl (hb hby d2_2) rfl (tlt hc2_1).2.2.1 (by decide) (by decide) k) ?_
    show own_R p e below _ s₁ (mkF m 9 #[.val (.int p1), .val (.int p2)] [])
    refine own_go (fun t k => XS.iloadN X0.here hx rfl (hb hby d2_9) rfl  k) ?_
    show own_R p e below _ s₁ (mkF m 10 #[.val (.int p1), .val (.int p2)] [(.int p2)])
    refine own_retW X0 hx Bd.returns rfl (Or.inl ⟨rfl, Or.inl rfl, _, rfl⟩) (BodyLoose.notSynchronized Bd) (hb hby d2_10) (by decide) (by decide) ?_
    exact ⟨by rw [if_pos hc2_1], N0, e0⟩
  · -- pc 2: no
    refine own_go (fun t k => XS.icmpNo X0.here hx rfl (hb hby d2_2) rfl (flt hc2_1).2.2.1 k) ?_
    show own_R p e below _ s₁ (mkF m 5 #[.val (.int p1), .val (.int p2)] [])
    refine own_go (fun t k => XS.iloadN X0.here hx rfl (hb hby d2_5) rfl  k) ?_
    show own_R p e below _ s₁ (mkF m 6 #[.val (.int p1), .val (.int p2)] [(.int p1)])
    refine own_go (fun t k => XS.goto X0.here hx rfl (pc0 := 6) (pc' := 10) rfl (hb hby d2_6) (by decide) (by decide) k) ?_
    show own_R p e below _ s₁ (mkF m 10 #[.val (.int p1), .val (.int p2)] [(.int p1)])
    refine own_retW X0 hx Bd.returns rfl (Or.inl ⟨rfl, Or.inl rfl, _, rfl⟩) (BodyLoose.notSynchronized Bd) (hb hby d2_10) (by decide) (by decide) ?_
    exact ⟨by rw [if_neg hc2_1], N0, e0⟩
theorem d3_0 : decode jdk_29_method_65_code 0 = .ok (.iload_n 0, 1) := by decide +kernel
theorem d3_1 : decode jdk_29_method_65_code 1 = .ok (.iload_n 1, 1) := by decide +kernel
theorem d3_2 : decode jdk_29_method_65_code 2 = .ok (.if_icmp .lt 7, 3) := by decide +kernel
theorem d3_5 : decode jdk_29_method_65_code 5 = .ok (.iload_n 0, 1) := by decide +kernel
theorem d3_6 : decode jdk_29_method_65_code 6 = .ok (.goto 4, 3) := by decide +kernel
theorem d3_9 : decode jdk_29_method_65_code 9 = .ok (.iload_n 1, 1) := by decide +kernel
theorem d3_10 : decode jdk_29_method_65_code 10 = .ok (.ireturn, 1) := by decide +kernel
theorem ef_3 (m : MethodId) (x0 : Int32) (x1 : Int32) : entryFrame m #[(.int x0), (.int x1)] 2 = mkF m 0 #[.val (.int x0), .val (.int x1)] [] := by first | (simp [entryFrame, mkF, argsToLocals, Value.category]; done) | rfl
def Q3 (Z : State) (p1 : Int32) (p2 : Int32) (h0 : Heap) (n0 : Nat) (v : Option Value) (h : Heap) (L : List Loc) : Prop := v = some (.int (if p1 < p2 then p2 else p1)) ∧ Fr n0 L ∧ h = h0
set_option maxRecDepth 65536 in
set_option maxHeartbeats 40000000 in
theorem rm3 (l : Launch) (Z : State) (a0 : Array Value) (hw : ∀ d ∈ tables_1, d.before a0 Z = true) (ws : List Jvm.Cond) (p1 : Int32) (p2 : Int32) (h0 : Heap) (n0 : Nat) (Z0 : n0 ≤ h0.size) :
    MetFree l (⟨"java/lang/Math", "max", "(II)I"⟩ : MethodName) (head1 (Jvm.Cond.code (⟨"java/lang/Math", "max", "(II)I"⟩ : MethodName) jdk_29_method_65_code 2 (some .int) :: ws) ({ frames := 0, cells := 0, slots := 0, locals := 0 } : Room)) (fun aS U => aS = #[(.int p1), (.int p2)] ∧ Z.Warmed39 U.vm ∧ U.heap = h0) (fun _ _ _ _ _ => True) (fun _ U o U' => ∃ v L, o = .returned v ∧ Q3 Z p1 p2 h0 n0 v U'.heap L ∧ FrameEnd U o U' L ({ frames := 0, cells := 0, slots := 0, locals := 0 } : Room).cells ({ frames := 0, cells := 0, slots := 0, locals := 0 } : Room).slots) := by
  refine MetFree.of_bodySF (Jvm.Free.JP.mathPlain rfl (by decide +kernel)) hisR ?_
  intro p e s m args below meth c s₁ Bd hml0 hP hK
  obtain ⟨rfl, hZ, hh⟩ := hP
  have hx := Bd.exec
  have hby := Bd.bytes
  have hml : c.maxLocals = 2 := hml0
  have hown : s.vm.findClass "java/lang/Math" = some m.cls := findClass_of_methodNamed Bd.named
  have hnm := (name_of_methodNamed Bd.named Bd.method).1
  have X0 : Stand p l e ({ frames := 0, cells := 0, slots := 0, locals := 0 } : Room) s m #[(.int p1), (.int p2)] below meth c s₁ [] 0 0 := Stand.of_body Bd
  have e0 : s₁.heap = h0 := by rw [← hh, Bd.state]; rfl
  have N0 := Fr.nil n0
  have Kh : Keep h0 h0 [] := Keep.refl _ _
  suffices H : own_R p e below (own_E s below (Q3 Z p1 p2 h0 n0) ({ frames := 0, cells := 0, slots := 0, locals := 0 } : Room).cells ({ frames := 0, cells := 0, slots := 0, locals := 0 } : Room).slots) s₁ (mkF m 0 #[.val (.int p1), .val (.int p2)] []) by
    obtain ⟨t, hst, hrun, v, L, hend, hQ, hF⟩ := H
    exact ⟨t, _, castTop (ef_3 m p1 p2) hst, hrun, hend, v, L, rfl, hQ, hF⟩
  show own_R p e below _ s₁ (mkF m 0 #[.val (.int p1), .val (.int p2)] [])
  refine own_go (fun t k => XS.iloadN X0.here hx rfl (hb hby d3_0) rfl  k) ?_
  show own_R p e below _ s₁ (mkF m 1 #[.val (.int p1), .val (.int p2)] [(.int p1)])
  refine own_go (fun t k => XS.iloadN X0.here hx rfl (hb hby d3_1) rfl  k) ?_
  show own_R p e below _ s₁ (mkF m 2 #[.val (.int p1), .val (.int p2)] [(.int p2), (.int p1)])
  by_cases hc2_1 : p1 < p2
  · -- pc 2: yes
    refine own_go (fun t k => XS.icmpYes X0.here hx rfl (pc0 := 2) (pc' := 9) rfl (hb hby d3_2) rfl (tlt hc2_1).1 (by decide) (by decide) k) ?_
    show own_R p e below _ s₁ (mkF m 9 #[.val (.int p1), .val (.int p2)] [])
    refine own_go (fun t k => XS.iloadN X0.here hx rfl (hb hby d3_9) rfl  k) ?_
    show own_R p e below _ s₁ (mkF m 10 #[.val (.int p1), .val (.int p2)] [(.int p2)])
    refine own_retW X0 hx Bd.returns rfl (Or.inl ⟨rfl, Or.inl rfl, _, rfl⟩) (BodyLoose.notSynchronized Bd) (hb hby d3_10) (by decide) (by decide) ?_
    exact ⟨by rw [if_pos hc2_1], N0, e0⟩
  · -- pc 2: no
    refine own_go (fun t k => XS.icmpNo X0.here hx rfl (hb hby d3_2) rfl (flt hc2_1).1 k) ?_
    show own_R p e below _ s₁ (mkF m 5 #[.val (.int p1), .val (.int p2)] [])
    refine own_go (fun t k => XS.iloadN X0.here hx rfl (hb hby d3_5) rfl  k) ?_
    show own_R p e below _ s₁ (mkF m 6 #[.val (.int p1), .val (.int p2)] [(.int p1)])
    refine own_go (fun t k => XS.goto X0.here hx rfl (pc0 := 6) (pc' := 10) rfl (hb hby d3_6) (by decide) (by decide) k) ?_
    show own_R p e below _ s₁ (mkF m 10 #[.val (.int p1), .val (.int p2)] [(.int p1)])
    refine own_retW X0 hx Bd.returns rfl (Or.inl ⟨rfl, Or.inl rfl, _, rfl⟩) (BodyLoose.notSynchronized Bd) (hb hby d3_10) (by decide) (by decide) ?_
    exact ⟨by rw [if_neg hc2_1], N0, e0⟩
theorem d10_0 : decode jdk_30_method_1_code 0 = .ok (.aload_n 0, 1) := by decide +kernel
theorem d10_1 : decode jdk_30_method_1_code 1 = .ok (.invokespecial 1, 3) := by decide +kernel
theorem d10_4 : decode jdk_30_method_1_code 4 = .ok (.return_, 1) := by decide +kernel
theorem pn_1 : plainName "java/lang/Record" = true := by first | (simp [plainName, overriddenIn]; done) | decide +kernel
theorem ef_rec (m : MethodId) (x0 : Addr) : entryFrame m #[(.ref x0)] 1 = mkF m 0 #[.val (.ref x0)] [] := by first | (simp [entryFrame, mkF, argsToLocals, Value.category]; done) | rfl
def Qrec (Z : State) (a : Addr) (h0 : Heap) (n0 : Nat) (v : Option Value) (h : Heap) (L : List Loc) : Prop := v = none ∧ Fr n0 L ∧ h = h0
set_option maxRecDepth 65536 in
set_option maxHeartbeats 40000000 in
theorem rmrec (l : Launch) (Z : State) (a0 : Array Value) (hw : ∀ d ∈ tables_1, d.before a0 Z = true) (ws : List Jvm.Cond) (a : Addr) (h0 : Heap) (n0 : Nat) (Z0 : n0 ≤ h0.size) :
    MetFree l (⟨"java/lang/Record", "<init>", "()V"⟩ : MethodName) (head1 (Jvm.Cond.code (⟨"java/lang/Record", "<init>", "()V"⟩ : MethodName) jdk_30_method_1_code 1 none :: ws) ({ frames := 1, cells := 0, slots := 0, locals := 12 } : Room)) (fun aS U => aS = #[(.ref a)] ∧ Z.Warmed39 U.vm ∧ U.heap = h0) (fun _ _ _ _ _ => True) (fun _ U o U' => ∃ v L, o = .returned v ∧ Qrec Z a h0 n0 v U'.heap L ∧ FrameEnd U o U' L ({ frames := 1, cells := 0, slots := 0, locals := 12 } : Room).cells ({ frames := 1, cells := 0, slots := 0, locals := 12 } : Room).slots) := by
  refine MetFree.of_bodySF (plainFor_of_name pn_1) hisR ?_
  intro p e s m args below meth c s₁ Bd hml0 hP hK
  obtain ⟨rfl, hZ, hh⟩ := hP
  have hx := Bd.exec
  have hby := Bd.bytes
  have hml : c.maxLocals = 1 := hml0
  have hown : s.vm.findClass "java/lang/Record" = some m.cls := findClass_of_methodNamed Bd.named
  have hnm := (name_of_methodNamed Bd.named Bd.method).1
  have X0 : Stand p l e ({ frames := 1, cells := 0, slots := 0, locals := 12 } : Room) s m #[(.ref a)] below meth c s₁ [] 0 0 := Stand.of_body Bd
  have e0 : s₁.heap = h0 := by rw [← hh, Bd.state]; rfl
  have N0 := Fr.nil n0
  have Kh : Keep h0 h0 [] := Keep.refl _ _
  suffices H : own_R p e below (own_E s below (Qrec Z a h0 n0) ({ frames := 1, cells := 0, slots := 0, locals := 12 } : Room).cells ({ frames := 1, cells := 0, slots := 0, locals := 12 } : Room).slots) s₁ (mkF m 0 #[.val (.ref a)] []) by
    obtain ⟨t, hst, hrun, v, L, hend, hQ, hF⟩ := H
    exact ⟨t, _, castTop (ef_rec m a) hst, hrun, hend, v, L, rfl, hQ, hF⟩
  show own_R p e below _ s₁ (mkF m 0 #[.val (.ref a)] [])
  refine own_go (fun t k => XS.aloadN X0.here hx rfl (hb hby d10_0) rfl rfl  k) ?_
  show own_R p e below _ s₁ (mkF m 1 #[.val (.ref a)] [(.ref a)])
  obtain ⟨T1, X1, e1, st1⟩ := initO X0 hx hZ hown (hw _ (List.mem_of_getElem? (i := 55) rfl)) (hw _ (List.mem_of_getElem? (i := 21) rfl)) (hw _ (List.mem_of_getElem? (i := 22) rfl)) e0 (g := (mkF m 1 #[.val (.ref a)] [(.ref a)])) rfl (by rw [hml]; rfl) rfl (hb hby d10_1) (by decide) (W := 0) (by show 2 * 0 + _ ≤ _; exact Nat.le_of_eq rfl) (by decide)
  refine own_go (st1) ?_
  show own_R p e below _ T1 (mkF m 4 #[.val (.ref a)] [])
  refine own_retV X1 hx Bd.returns (BodyLoose.notSynchronized Bd) (hb hby d10_4) (by decide) (by decide) ?_
  exact ⟨rfl, N0, e1⟩
theorem d4_0 : decode prog_93_method_1_code 0 = .ok (.aload_n 0, 1) := by decide +kernel
theorem d4_1 : decode prog_93_method_1_code 1 = .ok (.invokespecial 1, 3) := by decide +kernel
theorem d4_4 : decode prog_93_method_1_code 4 = .ok (.aload_n 0, 1) := by decide +kernel
theorem d4_5 : decode prog_93_method_1_code 5 = .ok (.iconst 1, 1) := by decide +kernel
theorem d4_6 : decode prog_93_method_1_code 6 = .ok (.putfield 7, 3) := by decide +kernel
theorem d4_9 : decode prog_93_method_1_code 9 = .ok (.aload_n 0, 1) := by decide +kernel
theorem d4_10 : decode prog_93_method_1_code 10 = .ok (.iconst 1, 1) := by decide +kernel
theorem d4_11 : decode prog_93_method_1_code 11 = .ok (.putfield 13, 3) := by decide +kernel
theorem d4_14 : decode prog_93_method_1_code 14 = .ok (.return_, 1) := by decide +kernel
theorem pn_2 : plainName "com/example/xtd/xtd/model/LineCounter" = true := by first | (simp [plainName, overriddenIn]; done) | decide +kernel
theorem ef_lci (m : MethodId) (x0 : Addr) : entryFrame m #[(.ref x0)] 1 = mkF m 0 #[.val (.ref x0)] [] := by first | (simp [entryFrame, mkF, argsToLocals, Value.category]; done) | rfl
def Qlci (Z : State) (a : Addr) (h0 : Heap) (n0 : Nat) (v : Option Value) (h : Heap) (L : List Loc) : Prop := v = none ∧ Fr n0 L ∧ Keep h0 h [a] ∧ Exa Z h a "com/example/xtd/xtd/model/LineCounter" ∧ Fld Z h a "com/example/xtd/xtd/model/LineCounter" "line" "I" (.int (1 : Int32)) ∧ Fld Z h a "com/example/xtd/xtd/model/LineCounter" "column" "I" (.int (1 : Int32)) ∧ Fld Z h a "com/example/xtd/xtd/model/LineCounter" "afterCarriageReturn" "Z" (.int (0 : Int32))
set_option maxRecDepth 65536 in
set_option maxHeartbeats 40000000 in
theorem rmlci (l : Launch) (Z : State) (a0 : Array Value) (hw : ∀ d ∈ tables_1, d.before a0 Z = true) (ws : List Jvm.Cond) (a : Addr) (h0 : Heap) (n0 : Nat) (Z0 : n0 ≤ h0.size) (F_line_a : Fld Z h0 a "com/example/xtd/xtd/model/LineCounter" "line" "I" (.int (0 : Int32))) (F_column_a : Fld Z h0 a "com/example/xtd/xtd/model/LineCounter" "column" "I" (.int (0 : Int32))) (F_afterCarriageReturn_a : Fld Z h0 a "com/example/xtd/xtd/model/LineCounter" "afterCarriageReturn" "Z" (.int (0 : Int32))) (E_a : Exa Z h0 a "com/example/xtd/xtd/model/LineCounter") (g_a : n0 ≤ a) :
    MetFree l (⟨"com/example/xtd/xtd/model/LineCounter", "<init>", "()V"⟩ : MethodName) (head1 (Jvm.Cond.code (⟨"com/example/xtd/xtd/model/LineCounter", "<init>", "()V"⟩ : MethodName) prog_93_method_1_code 1 none :: ws) ({ frames := 1, cells := 0, slots := 0, locals := 12 } : Room)) (fun aS U => aS = #[(.ref a)] ∧ Z.Warmed39 U.vm ∧ U.heap = h0) (fun _ _ _ _ _ => True) (fun _ U o U' => ∃ v L, o = .returned v ∧ Qlci Z a h0 n0 v U'.heap L ∧ FrameEnd U o U' L ({ frames := 1, cells := 0, slots := 0, locals := 12 } : Room).cells ({ frames := 1, cells := 0, slots := 0, locals := 12 } : Room).slots) := by
  refine MetFree.of_bodySF (plainFor_of_name pn_2) hisR ?_
  intro p e s m args below meth c s₁ Bd hml0 hP hK
  obtain ⟨rfl, hZ, hh⟩ := hP
  have hx := Bd.exec
  have hby := Bd.bytes
  have hml : c.maxLocals = 1 := hml0
  have hown : s.vm.findClass "com/example/xtd/xtd/model/LineCounter" = some m.cls := findClass_of_methodNamed Bd.named
  have hnm := (name_of_methodNamed Bd.named Bd.method).1
  have X0 : Stand p l e ({ frames := 1, cells := 0, slots := 0, locals := 12 } : Room) s m #[(.ref a)] below meth c s₁ [] 0 0 := Stand.of_body Bd
  have e0 : s₁.heap = h0 := by rw [← hh, Bd.state]; rfl
  have N0 := Fr.nil n0
  have Kh : Keep h0 h0 [a] := Keep.refl _ _
  suffices H : own_R p e below (own_E s below (Qlci Z a h0 n0) ({ frames := 1, cells := 0, slots := 0, locals := 12 } : Room).cells ({ frames := 1, cells := 0, slots := 0, locals := 12 } : Room).slots) s₁ (mkF m 0 #[.val (.ref a)] []) by
    obtain ⟨t, hst, hrun, v, L, hend, hQ, hF⟩ := H
    exact ⟨t, _, castTop (ef_lci m a) hst, hrun, hend, v, L, rfl, hQ, hF⟩
  show own_R p e below _ s₁ (mkF m 0 #[.val (.ref a)] [])
  refine own_go (fun t k => XS.aloadN X0.here hx rfl (hb hby d4_0) rfl rfl  k) ?_
  show own_R p e below _ s₁ (mkF m 1 #[.val (.ref a)] [(.ref a)])
  obtain ⟨T1, X1, e1, st1⟩ := initO X0 hx hZ hown (hw _ (List.mem_of_getElem? (i := 20) rfl)) (hw _ (List.mem_of_getElem? (i := 21) rfl)) (hw _ (List.mem_of_getElem? (i := 22) rfl)) e0 (g := (mkF m 1 #[.val (.ref a)] [(.ref a)])) rfl (by rw [hml]; rfl) rfl (hb hby d4_1) (by decide) (W := 0) (by show 2 * 0 + _ ≤ _; exact Nat.le_of_eq rfl) (by decide)
  refine own_go (st1) ?_
  show own_R p e below _ T1 (mkF m 4 #[.val (.ref a)] [])
  refine own_go (fun t k => XS.aloadN X1.here hx rfl (hb hby d4_4) rfl rfl  k) ?_
  show own_R p e below _ T1 (mkF m 5 #[.val (.ref a)] [(.ref a)])
  refine own_go (fun t k => XS.iconst X1.here hx rfl (hb hby d4_5) k) ?_
  show own_R p e below _ T1 (mkF m 6 #[.val (.ref a)] [(.int (1 : Int32)), (.ref a)])
  obtain ⟨T2, h2, X2, e2, W2, st2⟩ := putF X1 hx hZ hown (host := "") (Or.inl (hw _ (List.mem_of_getElem? (i := 23) rfl))) Via.refl e1 F_line_a E_a (Or.inl (hw _ (List.mem_of_getElem? (i := 24) rfl))) (hw _ (List.mem_of_getElem? (i := 15) rfl)) (ty := .int) (by decide) rfl rfl (g := (mkF m 6 #[.val (.ref a)] [(.int (1 : Int32)), (.ref a)])) rfl rfl (hb hby d4_6)
  obtain ⟨Lh2, X2, N2⟩ := own_hide X2 (Fr.snoc X2 N0 g_a)
  replace Kh := Kh.wr W2 (Or.inl (List.mem_of_getElem? (i := 0) rfl))
  replace F_line_a := Fld.same W2 F_line_a
  replace F_column_a := Fld.other W2 F_column_a (Or.inr (slot_ne (Or.inl (hw _ (List.mem_of_getElem? (i := 26) rfl))) (Or.inl (hw _ (List.mem_of_getElem? (i := 24) rfl))) (by decide) (t := .int) (t' := .int) (by decide) (by decide)))
  replace F_afterCarriageReturn_a := Fld.other W2 F_afterCarriageReturn_a (Or.inr (slot_ne (Or.inl (hw _ (List.mem_of_getElem? (i := 33) rfl))) (Or.inl (hw _ (List.mem_of_getElem? (i := 24) rfl))) (by decide) (t := .boolean) (t' := .int) (by decide) (by decide)))
  replace E_a := Exa.wr W2 E_a
  refine own_go (st2) ?_
  show own_R p e below _ T2 (mkF m 9 #[.val (.ref a)] [])
  refine own_go (fun t k => XS.aloadN X2.here hx rfl (hb hby d4_9) rfl rfl  k) ?_
  show own_R p e below _ T2 (mkF m 10 #[.val (.ref a)] [(.ref a)])
  refine own_go (fun t k => XS.iconst X2.here hx rfl (hb hby d4_10) k) ?_
  show own_R p e below _ T2 (mkF m 11 #[.val (.ref a)] [(.int (1 : Int32)), (.ref a)])
  obtain ⟨T3, h3, X3, e3, W3, st3⟩ := putF X2 hx hZ hown (host := "") (Or.inl (hw _ (List.mem_of_getElem? (i := 25) rfl))) Via.refl e2 F_column_a E_a (Or.inl (hw _ (List.mem_of_getElem? (i := 26) rfl))) (hw _ (List.mem_of_getElem? (i := 15) rfl)) (ty := .int) (by decide) rfl rfl (g := (mkF m 11 #[.val (.ref a)] [(.int (1 : Int32)), (.ref a)])) rfl rfl (hb hby d4_11)
  obtain ⟨Lh3, X3, N3⟩ := own_hide X3 (Fr.snoc X3 N2 g_a)
  replace Kh := Kh.wr W3 (Or.inl (List.mem_of_getElem? (i := 0) rfl))
  replace F_line_a := Fld.other W3 F_line_a (Or.inr (slot_ne (Or.inl (hw _ (List.mem_of_getElem? (i := 24) rfl))) (Or.inl (hw _ (List.mem_of_getElem? (i := 26) rfl))) (by decide) (t := .int) (t' := .int) (by decide) (by decide)))
  replace F_column_a := Fld.same W3 F_column_a
  replace F_afterCarriageReturn_a := Fld.other W3 F_afterCarriageReturn_a (Or.inr (slot_ne (Or.inl (hw _ (List.mem_of_getElem? (i := 33) rfl))) (Or.inl (hw _ (List.mem_of_getElem? (i := 26) rfl))) (by decide) (t := .boolean) (t' := .int) (by decide) (by decide)))
  replace E_a := Exa.wr W3 E_a
  refine own_go (st3) ?_
  show own_R p e below _ T3 (mkF m 14 #[.val (.ref a)] [])
  refine own_retV X3 hx Bd.returns (BodyLoose.notSynchronized Bd) (hb hby d4_14) (by decide) (by decide) ?_
  rw [e3]
  exact ⟨rfl, N3, Kh, E_a, F_line_a, F_column_a, F_afterCarriageReturn_a⟩
theorem d9_0 : decode prog_107_method_1_code 0 = .ok (.aload_n 0, 1) := by decide +kernel
theorem d9_1 : decode prog_107_method_1_code 1 = .ok (.invokespecial 1, 3) := by decide +kernel
theorem d9_4 : decode prog_107_method_1_code 4 = .ok (.aload_n 0, 1) := by decide +kernel
theorem d9_5 : decode prog_107_method_1_code 5 = .ok (.iload_n 1, 1) := by decide +kernel
theorem d9_6 : decode prog_107_method_1_code 6 = .ok (.putfield 7, 3) := by decide +kernel
theorem d9_9 : decode prog_107_method_1_code 9 = .ok (.aload_n 0, 1) := by decide +kernel
theorem d9_10 : decode prog_107_method_1_code 10 = .ok (.iload_n 2, 1) := by decide +kernel
theorem d9_11 : decode prog_107_method_1_code 11 = .ok (.putfield 13, 3) := by decide +kernel
theorem d9_14 : decode prog_107_method_1_code 14 = .ok (.aload_n 0, 1) := by decide +kernel
theorem d9_15 : decode prog_107_method_1_code 15 = .ok (.lload_n 3, 1) := by decide +kernel
theorem d9_16 : decode prog_107_method_1_code 16 = .ok (.putfield 16, 3) := by decide +kernel
theorem d9_19 : decode prog_107_method_1_code 19 = .ok (.aload_n 0, 1) := by decide +kernel
theorem d9_20 : decode prog_107_method_1_code 20 = .ok (.aload 5, 2) := by decide +kernel
theorem d9_22 : decode prog_107_method_1_code 22 = .ok (.putfield 20, 3) := by decide +kernel
theorem d9_25 : decode prog_107_method_1_code 25 = .ok (.return_, 1) := by decide +kernel
theorem pn_3 : plainName "com/example/xtd/xtd/model/Position" = true := by first | (simp [plainName, overriddenIn]; done) | decide +kernel
theorem ef_poi (m : MethodId) (x0 : Addr) (x1 : Int32) (x2 : Int32) (x3 : Int64) : entryFrame m #[(.ref x0), (.int x1), (.int x2), (.long x3), .null] 6 = mkF m 0 #[.val (.ref x0), .val (.int x1), .val (.int x2), .val (.long x3), .second, .val .null] [] := by first | (simp [entryFrame, mkF, argsToLocals, Value.category]; done) | rfl
def Qpoi (Z : State) (a : Addr) (p1 : Int32) (p2 : Int32) (q3 : Int64) (h0 : Heap) (n0 : Nat) (v : Option Value) (h : Heap) (L : List Loc) : Prop := v = none ∧ Fr n0 L ∧ Keep h0 h [a] ∧ Exa Z h a "com/example/xtd/xtd/model/Position" ∧ Fld Z h a "com/example/xtd/xtd/model/Position" "line" "I" (.int p1) ∧ Fld Z h a "com/example/xtd/xtd/model/Position" "column" "I" (.int p2) ∧ Fld Z h a "com/example/xtd/xtd/model/Position" "offset" "J" (.long q3) ∧ Fld Z h a "com/example/xtd/xtd/model/Position" "systemId" "Ljava/lang/String;" .null
set_option maxRecDepth 65536 in
set_option maxHeartbeats 40000000 in
theorem rmpoi (l : Launch) (Z : State) (a0 : Array Value) (hw : ∀ d ∈ tables_1, d.before a0 Z = true) (ws : List Jvm.Cond) (a : Addr) (p1 : Int32) (p2 : Int32) (q3 : Int64) (h0 : Heap) (n0 : Nat) (Z0 : n0 ≤ h0.size) (F_line_a : Fld Z h0 a "com/example/xtd/xtd/model/Position" "line" "I" (.int (0 : Int32))) (F_column_a : Fld Z h0 a "com/example/xtd/xtd/model/Position" "column" "I" (.int (0 : Int32))) (F_offset_a : Fld Z h0 a "com/example/xtd/xtd/model/Position" "offset" "J" (.long (0 : Int64))) (F_systemId_a : Fld Z h0 a "com/example/xtd/xtd/model/Position" "systemId" "Ljava/lang/String;" .null) (E_a : Exa Z h0 a "com/example/xtd/xtd/model/Position") (g_a : n0 ≤ a) :
    MetFree l (⟨"com/example/xtd/xtd/model/Position", "<init>", "(IIJLjava/lang/String;)V"⟩ : MethodName) (head1 (Jvm.Cond.code (⟨"com/example/xtd/xtd/model/Position", "<init>", "(IIJLjava/lang/String;)V"⟩ : MethodName) prog_107_method_1_code 6 none :: ws) ({ frames := 2, cells := 0, slots := 0, locals := 24 } : Room)) (fun aS U => aS = #[(.ref a), (.int p1), (.int p2), (.long q3), .null] ∧ Z.Warmed39 U.vm ∧ U.heap = h0) (fun _ _ _ _ _ => True) (fun _ U o U' => ∃ v L, o = .returned v ∧ Qpoi Z a p1 p2 q3 h0 n0 v U'.heap L ∧ FrameEnd U o U' L ({ frames := 2, cells := 0, slots := 0, locals := 24 } : Room).cells ({ frames := 2, cells := 0, slots := 0, locals := 24 } : Room).slots) := by
  refine MetFree.of_bodySF (plainFor_of_name pn_3) hisR ?_
  intro p e s m args below meth c s₁ Bd hml0 hP hK
  obtain ⟨rfl, hZ, hh⟩ := hP
  have hx := Bd.exec
  have hby := Bd.bytes
  have hml : c.maxLocals = 6 := hml0
  have hown : s.vm.findClass "com/example/xtd/xtd/model/Position" = some m.cls := findClass_of_methodNamed Bd.named
  have hnm := (name_of_methodNamed Bd.named Bd.method).1
  have X0 : Stand p l e ({ frames := 2, cells := 0, slots := 0, locals := 24 } : Room) s m #[(.ref a), (.int p1), (.int p2), (.long q3), .null] below meth c s₁ [] 0 0 := Stand.of_body Bd
  have e0 : s₁.heap = h0 := by rw [← hh, Bd.state]; rfl
  have N0 := Fr.nil n0
  have Kh : Keep h0 h0 [a] := Keep.refl _ _
  suffices H : own_R p e below (own_E s below (Qpoi Z a p1 p2 q3 h0 n0) ({ frames := 2, cells := 0, slots := 0, locals := 24 } : Room).cells ({ frames := 2, cells := 0, slots := 0, locals := 24 } : Room).slots) s₁ (mkF m 0 #[.val (.ref a), .val (.int p1), .val (.int p2), .val (.long q3), .second, .val .null] []) by
    obtain ⟨t, hst, hrun, v, L, hend, hQ, hF⟩ := H
    exact ⟨t, _, castTop (ef_poi m a p1 p2 q3) hst, hrun, hend, v, L, rfl, hQ, hF⟩
  show own_R p e below _ s₁ (mkF m 0 #[.val (.ref a), .val (.int p1), .val (.int p2), .val (.long q3), .second, .val .null] [])
  refine own_go (fun t k => XS.aloadN X0.here hx rfl (hb hby d9_0) rfl rfl  k) ?_
  show own_R p e below _ s₁ (mkF m 1 #[.val (.ref a), .val (.int p1), .val (.int p2), .val (.long q3), .second, .val .null] [(.ref a)])
  obtain ⟨_, _, ⟨T1, L1, k1, n1⟩, -, X1, ⟨Lc1, hQ1, l1, y1, z1⟩, st1⟩ := X0.specialBack hx (y := (⟨"java/lang/Record", "<init>", "()V"⟩ : MethodName)) rfl hown (mvT hZ (hw _ (List.mem_of_getElem? (i := 50) rfl))) (mvT hZ (hw _ (List.mem_of_getElem? (i := 51) rfl))) (mvT hZ (hw _ (List.mem_of_getElem? (i := 54) rfl))) (by decide) (backOf (W := 0) (rmrec l Z a0 hw [] a h0 n0 (Nat.le_trans Z0 Kh.1)) hZ (hw _ (List.mem_of_getElem? (i := 54) rfl)) (hw _ (List.mem_of_getElem? (i := 53) rfl)) (by decide) (by decide)) (g := (mkF m 1 #[.val (.ref a), .val (.int p1), .val (.int p2), .val (.long q3), .second, .val .null] [(.ref a)])) rfl (by rw [hml]; rfl) (Steps.refl _) (a := a) (argsL := []) (rest := []) (lenOf pd_2 rfl) rfl (by show 2 * 0 + _ ≤ _; exact Nat.le_of_eq rfl) (hb hby d9_1) (fun _ _ => ⟨rfl, e0, (by decide : 0 + 0 ≤ _), (by decide : 0 + 0 ≤ _)⟩)
  dsimp only [Pt.U, Pt.locs, Pt.cells, Pt.slots] at X1 l1 y1 z1 st1 hQ1
  subst l1 y1 z1
  obtain ⟨rfl, Nq1, e1⟩ := hQ1
  obtain ⟨Lh1, X1, N1⟩ := own_hide X1 (Fr.app N0 Nq1)
  refine own_go (fun t k => st1.trans k) ?_
  show own_R p e below _ T1 (mkF m 4 #[.val (.ref a), .val (.int p1), .val (.int p2), .val (.long q3), .second, .val .null] [])
  refine own_go (fun t k => XS.aloadN X1.here hx rfl (hb hby d9_4) rfl rfl  k) ?_
  show own_R p e below _ T1 (mkF m 5 #[.val (.ref a), .val (.int p1), .val (.int p2), .val (.long q3), .second, .val .null] [(.ref a)])
  refine own_go (fun t k => XS.iloadN X1.here hx rfl (hb hby d9_5) rfl  k) ?_
  show own_R p e below _ T1 (mkF m 6 #[.val (.ref a), .val (.int p1), .val (.int p2), .val (.long q3), .second, .val .null] [(.int p1), (.ref a)])
  obtain ⟨T2, h2, X2, e2, W2, st2⟩ := putF X1 hx hZ hown (host := "") (Or.inl (hw _ (List.mem_of_getElem? (i := 56) rfl))) Via.refl e1 F_line_a E_a (Or.inr ⟨(hw _ (List.mem_of_getElem? (i := 57) rfl)), rfl, hnm⟩) (hw _ (List.mem_of_getElem? (i := 45) rfl)) (ty := .int) (by decide) rfl rfl (g := (mkF m 6 #[.val (.ref a), .val (.int p1), .val (.int p2), .val (.long q3), .second, .val .null] [(.int p1), (.ref a)])) rfl rfl (hb hby d9_6)
  obtain ⟨Lh2, X2, N2⟩ := own_hide X2 (Fr.snoc X2 N1 g_a)
  replace Kh := Kh.wr W2 (Or.inl (List.mem_of_getElem? (i := 0) rfl))
  replace F_line_a := Fld.same W2 F_line_a
  replace F_column_a := Fld.other W2 F_column_a (Or.inr (slot_ne (Or.inr (hw _ (List.mem_of_getElem? (i := 59) rfl))) (Or.inr (hw _ (List.mem_of_getElem? (i := 57) rfl))) (by decide) (t := .int) (t' := .int) (by decide) (by decide)))
  replace F_offset_a := Fld.other W2 F_offset_a (Or.inr (slot_ne (Or.inr (hw _ (List.mem_of_getElem? (i := 61) rfl))) (Or.inr (hw _ (List.mem_of_getElem? (i := 57) rfl))) (by decide) (t := .long) (t' := .int) (by decide) (by decide)))
  replace F_systemId_a := Fld.other W2 F_systemId_a (Or.inr (slot_ne (Or.inr (hw _ (List.mem_of_getElem? (i := 63) rfl))) (Or.inr (hw _ (List.mem_of_getElem? (i := 57) rfl))) (by decide) (t := (.object "java/lang/String")) (t' := .int) (by decide) (by decide)))
  replace E_a := Exa.wr W2 E_a
  refine own_go (st2) ?_
  show own_R p e below _ T2 (mkF m 9 #[.val (.ref a), .val (.int p1), .val (.int p2), .val (.long q3), .second, .val .null] [])
  refine own_go (fun t k => XS.aloadN X2.here hx rfl (hb hby d9_9) rfl rfl  k) ?_
  show own_R p e below _ T2 (mkF m 10 #[.val (.ref a), .val (.int p1), .val (.int p2), .val (.long q3), .second, .val .null] [(.ref a)])
  refine own_go (fun t k => XS.iloadN X2.here hx rfl (hb hby d9_10) rfl  k) ?_
  show own_R p e below _ T2 (mkF m 11 #[.val (.ref a), .val (.int p1), .val (.int p2), .val (.long q3), .second, .val .null] [(.int p2), (.ref a)])
  obtain ⟨T3, h3, X3, e3, W3, st3⟩ := putF X2 hx hZ hown (host := "") (Or.inl (hw _ (List.mem_of_getElem? (i := 58) rfl))) Via.refl e2 F_column_a E_a (Or.inr ⟨(hw _ (List.mem_of_getElem? (i := 59) rfl)), rfl, hnm⟩) (hw _ (List.mem_of_getElem? (i := 45) rfl)) (ty := .int) (by decide) rfl rfl (g := (mkF m 11 #[.val (.ref a), .val (.int p1), .val (.int p2), .val (.long q3), .second, .val .null] [(.int p2), (.ref a)])) rfl rfl (hb hby d9_11)
  obtain ⟨Lh3, X3, N3⟩ := own_hide X3 (Fr.snoc X3 N2 g_a)
  replace Kh := Kh.wr W3 (Or.inl (List.mem_of_getElem? (i := 0) rfl))
  replace F_line_a := Fld.other W3 F_line_a (Or.inr (slot_ne (Or.inr (hw _ (List.mem_of_getElem? (i := 57) rfl))) (Or.inr (hw _ (List.mem_of_getElem? (i := 59) rfl))) (by decide) (t := .int) (t' := .int) (by decide) (by decide)))
  replace F_column_a := Fld.same W3 F_column_a
  replace F_offset_a := Fld.other W3 F_offset_a (Or.inr (slot_ne (Or.inr (hw _ (List.mem_of_getElem? (i := 61) rfl))) (Or.inr (hw _ (List.mem_of_getElem? (i := 59) rfl))) (by decide) (t := .long) (t' := .int) (by decide) (by decide)))
  replace F_systemId_a := Fld.other W3 F_systemId_a (Or.inr (slot_ne (Or.inr (hw _ (List.mem_of_getElem? (i := 63) rfl))) (Or.inr (hw _ (List.mem_of_getElem? (i := 59) rfl))) (by decide) (t := (.object "java/lang/String")) (t' := .int) (by decide) (by decide)))
  replace E_a := Exa.wr W3 E_a
  refine own_go (st3) ?_
  show own_R p e below _ T3 (mkF m 14 #[.val (.ref a), .val (.int p1), .val (.int p2), .val (.long q3), .second, .val .null] [])
  refine own_go (fun t k => XS.aloadN X3.here hx rfl (hb hby d9_14) rfl rfl  k) ?_
  show own_R p e below _ T3 (mkF m 15 #[.val (.ref a), .val (.int p1), .val (.int p2), .val (.long q3), .second, .val .null] [(.ref a)])
  refine own_go (fun t k => XS.lloadN X3.here hx rfl (hb hby d9_15) rfl  k) ?_
  show own_R p e below _ T3 (mkF m 16 #[.val (.ref a), .val (.int p1), .val (.int p2), .val (.long q3), .second, .val .null] [(.long q3), (.ref a)])
  obtain ⟨T4, h4, X4, e4, W4, st4⟩ := putF X3 hx hZ hown (host := "") (Or.inl (hw _ (List.mem_of_getElem? (i := 60) rfl))) Via.refl e3 F_offset_a E_a (Or.inr ⟨(hw _ (List.mem_of_getElem? (i := 61) rfl)), rfl, hnm⟩) (hw _ (List.mem_of_getElem? (i := 45) rfl)) (ty := .long) (by decide) rfl rfl (g := (mkF m 16 #[.val (.ref a), .val (.int p1), .val (.int p2), .val (.long q3), .second, .val .null] [(.long q3), (.ref a)])) rfl rfl (hb hby d9_16)
  obtain ⟨Lh4, X4, N4⟩ := own_hide X4 (Fr.snoc X4 N3 g_a)
  replace Kh := Kh.wr W4 (Or.inl (List.mem_of_getElem? (i := 0) rfl))
  replace F_line_a := Fld.other W4 F_line_a (Or.inr (slot_ne (Or.inr (hw _ (List.mem_of_getElem? (i := 57) rfl))) (Or.inr (hw _ (List.mem_of_getElem? (i := 61) rfl))) (by decide) (t := .int) (t' := .long) (by decide) (by decide)))
  replace F_column_a := Fld.other W4 F_column_a (Or.inr (slot_ne (Or.inr (hw _ (List.mem_of_getElem? (i := 59) rfl))) (Or.inr (hw _ (List.mem_of_getElem? (i := 61) rfl))) (by decide) (t := .int) (t' := .long) (by decide) (by decide)))
  replace F_offset_a := Fld.same W4 F_offset_a
  replace F_systemId_a := Fld.other W4 F_systemId_a (Or.inr (slot_ne (Or.inr (hw _ (List.mem_of_getElem? (i := 63) rfl))) (Or.inr (hw _ (List.mem_of_getElem? (i := 61) rfl))) (by decide) (t := (.object "java/lang/String")) (t' := .long) (by decide) (by decide)))
  replace E_a := Exa.wr W4 E_a
  refine own_go (st4) ?_
  show own_R p e below _ T4 (mkF m 19 #[.val (.ref a), .val (.int p1), .val (.int p2), .val (.long q3), .second, .val .null] [])
  refine own_go (fun t k => XS.aloadN X4.here hx rfl (hb hby d9_19) rfl rfl  k) ?_
  show own_R p e below _ T4 (mkF m 20 #[.val (.ref a), .val (.int p1), .val (.int p2), .val (.long q3), .second, .val .null] [(.ref a)])
  refine own_go (fun t k => XS.aload X4.here hx rfl (hb hby d9_20) rfl rfl  k) ?_
  show own_R p e below _ T4 (mkF m 22 #[.val (.ref a), .val (.int p1), .val (.int p2), .val (.long q3), .second, .val .null] [.null, (.ref a)])
  obtain ⟨T5, h5, X5, e5, W5, st5⟩ := putF X4 hx hZ hown (host := "") (Or.inl (hw _ (List.mem_of_getElem? (i := 62) rfl))) Via.refl e4 F_systemId_a E_a (Or.inr ⟨(hw _ (List.mem_of_getElem? (i := 63) rfl)), rfl, hnm⟩) (hw _ (List.mem_of_getElem? (i := 45) rfl)) (ty := (.object "java/lang/String")) (by decide) rfl rfl (g := (mkF m 22 #[.val (.ref a), .val (.int p1), .val (.int p2), .val (.long q3), .second, .val .null] [.null, (.ref a)])) rfl rfl (hb hby d9_22)
  obtain ⟨Lh5, X5, N5⟩ := own_hide X5 (Fr.snoc X5 N4 g_a)
  replace Kh := Kh.wr W5 (Or.inl (List.mem_of_getElem? (i := 0) rfl))
  replace F_line_a := Fld.other W5 F_line_a (Or.inr (slot_ne (Or.inr (hw _ (List.mem_of_getElem? (i := 57) rfl))) (Or.inr (hw _ (List.mem_of_getElem? (i := 63) rfl))) (by decide) (t := .int) (t' := (.object "java/lang/String")) (by decide) (by decide)))
  replace F_column_a := Fld.other W5 F_column_a (Or.inr (slot_ne (Or.inr (hw _ (List.mem_of_getElem? (i := 59) rfl))) (Or.inr (hw _ (List.mem_of_getElem? (i := 63) rfl))) (by decide) (t := .int) (t' := (.object "java/lang/String")) (by decide) (by decide)))
  replace F_offset_a := Fld.other W5 F_offset_a (Or.inr (slot_ne (Or.inr (hw _ (List.mem_of_getElem? (i := 61) rfl))) (Or.inr (hw _ (List.mem_of_getElem? (i := 63) rfl))) (by decide) (t := .long) (t' := (.object "java/lang/String")) (by decide) (by decide)))
  replace F_systemId_a := Fld.same W5 F_systemId_a
  replace E_a := Exa.wr W5 E_a
  refine own_go (st5) ?_
  show own_R p e below _ T5 (mkF m 25 #[.val (.ref a), .val (.int p1), .val (.int p2), .val (.long q3), .second, .val .null] [])
  refine own_retV X5 hx Bd.returns (BodyLoose.notSynchronized Bd) (hb hby d9_25) (by decide) (by decide) ?_
  rw [e5]
  exact ⟨rfl, N5, Kh, E_a, F_line_a, F_column_a, F_offset_a, F_systemId_a⟩
theorem d8_0 : decode prog_93_method_4_code 0 = .ok (.new 20, 3) := by decide +kernel
theorem d8_3 : decode prog_93_method_4_code 3 = .ok (.dup, 1) := by decide +kernel
theorem d8_4 : decode prog_93_method_4_code 4 = .ok (.aload_n 0, 1) := by decide +kernel
theorem d8_5 : decode prog_93_method_4_code 5 = .ok (.getfield 7, 3) := by decide +kernel
theorem d8_8 : decode prog_93_method_4_code 8 = .ok (.aload_n 0, 1) := by decide +kernel
theorem d8_9 : decode prog_93_method_4_code 9 = .ok (.getfield 13, 3) := by decide +kernel
theorem d8_12 : decode prog_93_method_4_code 12 = .ok (.lload_n 1, 1) := by decide +kernel
theorem d8_13 : decode prog_93_method_4_code 13 = .ok (.aload_n 3, 1) := by decide +kernel
theorem d8_14 : decode prog_93_method_4_code 14 = .ok (.invokespecial 22, 3) := by decide +kernel
theorem d8_17 : decode prog_93_method_4_code 17 = .ok (.areturn, 1) := by decide +kernel
theorem ef_posn (m : MethodId) (x0 : Addr) (x1 : Int64) : entryFrame m #[(.ref x0), (.long x1), .null] 4 = mkF m 0 #[.val (.ref x0), .val (.long x1), .second, .val .null] [] := by first | (simp [entryFrame, mkF, argsToLocals, Value.category]; done) | rfl
def Qposn (Z : State) (a : Addr) (q1 : Int64) (l1 : Int32) (c1 : Int32) (r1 : Int32) (h0 : Heap) (n0 : Nat) (v : Option Value) (h : Heap) (L : List Loc) : Prop := ∃ (b : Addr), v = some (.ref b) ∧ Fr n0 L ∧ Keep h0 h [] ∧ h0.size ≤ b ∧ Exa Z h b "com/example/xtd/xtd/model/Position" ∧ Fld Z h b "com/example/xtd/xtd/model/Position" "line" "I" (.int l1) ∧ Fld Z h b "com/example/xtd/xtd/model/Position" "column" "I" (.int c1) ∧ Fld Z h b "com/example/xtd/xtd/model/Position" "offset" "J" (.long q1) ∧ Fld Z h b "com/example/xtd/xtd/model/Position" "systemId" "Ljava/lang/String;" .null
set_option maxRecDepth 65536 in
set_option maxHeartbeats 40000000 in
theorem rmposn (l : Launch) (Z : State) (a0 : Array Value) (hw : ∀ d ∈ tables_1, d.before a0 Z = true) (ws : List Jvm.Cond) (a : Addr) (q1 : Int64) (l1 : Int32) (c1 : Int32) (r1 : Int32) (h0 : Heap) (n0 : Nat) (Z0 : n0 ≤ h0.size) (F_line_a : Fld Z h0 a "com/example/xtd/xtd/model/LineCounter" "line" "I" (.int l1)) (F_column_a : Fld Z h0 a "com/example/xtd/xtd/model/LineCounter" "column" "I" (.int c1)) (F_afterCarriageReturn_a : Fld Z h0 a "com/example/xtd/xtd/model/LineCounter" "afterCarriageReturn" "Z" (.int r1)) (E_a : Exa Z h0 a "com/example/xtd/xtd/model/LineCounter") :
    MetFree l (⟨"com/example/xtd/xtd/model/LineCounter", "position", "(JLjava/lang/String;)Lcom/example/xtd/xtd/model/Position;"⟩ : MethodName) (head1 (Jvm.Cond.code (⟨"com/example/xtd/xtd/model/LineCounter", "position", "(JLjava/lang/String;)Lcom/example/xtd/xtd/model/Position;"⟩ : MethodName) prog_93_method_4_code 4 (some (.object "com/example/xtd/xtd/model/Position")) :: ws) ({ frames := 3, cells := 1, slots := 4, locals := 42 } : Room)) (fun aS U => aS = #[(.ref a), (.long q1), .null] ∧ Z.Warmed39 U.vm ∧ U.heap = h0) (fun _ _ _ _ _ => True) (fun _ U o U' => ∃ v L, o = .returned v ∧ Qposn Z a q1 l1 c1 r1 h0 n0 v U'.heap L ∧ FrameEnd U o U' L ({ frames := 3, cells := 1, slots := 4, locals := 42 } : Room).cells ({ frames := 3, cells := 1, slots := 4, locals := 42 } : Room).slots) := by
  refine MetFree.of_bodySF (plainFor_of_name pn_2) hisR ?_
  intro p e s m args below meth c s₁ Bd hml0 hP hK
  obtain ⟨rfl, hZ, hh⟩ := hP
  have hx := Bd.exec
  have hby := Bd.bytes
  have hml : c.maxLocals = 4 := hml0
  have hown : s.vm.findClass "com/example/xtd/xtd/model/LineCounter" = some m.cls := findClass_of_methodNamed Bd.named
  have hnm := (name_of_methodNamed Bd.named Bd.method).1
  have X0 : Stand p l e ({ frames := 3, cells := 1, slots := 4, locals := 42 } : Room) s m #[(.ref a), (.long q1), .null] below meth c s₁ [] 0 0 := Stand.of_body Bd
  have e0 : s₁.heap = h0 := by rw [← hh, Bd.state]; rfl
  have N0 := Fr.nil n0
  have Kh : Keep h0 h0 [] := Keep.refl _ _
  suffices H : own_R p e below (own_E s below (Qposn Z a q1 l1 c1 r1 h0 n0) ({ frames := 3, cells := 1, slots := 4, locals := 42 } : Room).cells ({ frames := 3, cells := 1, slots := 4, locals := 42 } : Room).slots) s₁ (mkF m 0 #[.val (.ref a), .val (.long q1), .second, .val .null] []) by
    obtain ⟨t, hst, hrun, v, L, hend, hQ, hF⟩ := H
    exact ⟨t, _, castTop (ef_posn m a q1) hst, hrun, hend, v, L, rfl, hQ, hF⟩
  show own_R p e below _ s₁ (mkF m 0 #[.val (.ref a), .val (.long q1), .second, .val .null] [])
  obtain ⟨T1, h1, X1, e1, E1, A1, D1, -, st1⟩ := newO X0 hx hZ hown (hw _ (List.mem_of_getElem? (i := 44) rfl)) (hw _ (List.mem_of_getElem? (i := 45) rfl)) (hw _ (List.mem_of_getElem? (i := 46) rfl)) e0 (g := (mkF m 0 #[.val (.ref a), .val (.long q1), .second, .val .null] [])) rfl (hb hby d8_0) (by decide) (by decide)
  obtain ⟨b1, g1⟩ : ∃ z, z = h0.size := ⟨_, rfl⟩
  rw [← g1] at A1 D1 st1
  have g_b1 : n0 ≤ b1 := Nat.le_trans (Nat.le_trans Z0 Kh.1) (Nat.le_of_eq g1.symm)
  have sz_b1 : h0.size ≤ b1 := Nat.le_trans Kh.1 (Nat.le_of_eq g1.symm)
  have ne_a_b1 : a ≠ b1 := Nat.ne_of_lt (Nat.lt_of_lt_of_le F_line_a.lt (Nat.le_of_eq g1.symm))
  replace F_line_a := Fld.ext E1 F_line_a
  replace F_column_a := Fld.ext E1 F_column_a
  replace F_afterCarriageReturn_a := Fld.ext E1 F_afterCarriageReturn_a
  replace E_a := Exa.ext E1 E_a
  replace Kh := Kh.ext E1
  have F_line_b1 : Fld Z h1 b1 "com/example/xtd/xtd/model/Position" "line" "I" (.int (0 : Int32)) := D1 (Or.inr (hw _ (List.mem_of_getElem? (i := 57) rfl))) (ty := .int) (by decide)
  have F_column_b1 : Fld Z h1 b1 "com/example/xtd/xtd/model/Position" "column" "I" (.int (0 : Int32)) := D1 (Or.inr (hw _ (List.mem_of_getElem? (i := 59) rfl))) (ty := .int) (by decide)
  have F_offset_b1 : Fld Z h1 b1 "com/example/xtd/xtd/model/Position" "offset" "J" (.long (0 : Int64)) := D1 (Or.inr (hw _ (List.mem_of_getElem? (i := 61) rfl))) (ty := .long) (by decide)
  have F_systemId_b1 : Fld Z h1 b1 "com/example/xtd/xtd/model/Position" "systemId" "Ljava/lang/String;" .null := D1 (Or.inr (hw _ (List.mem_of_getElem? (i := 63) rfl))) (ty := (.object "java/lang/String")) (by decide)
  refine own_go (st1) ?_
  show own_R p e below _ T1 (mkF m 3 #[.val (.ref a), .val (.long q1), .second, .val .null] [(.ref b1)])
  refine own_go (fun t k => XS.dup X1.here hx rfl (hb hby d8_3) rfl rfl k) ?_
  show own_R p e below _ T1 (mkF m 4 #[.val (.ref a), .val (.long q1), .second, .val .null] [(.ref b1), (.ref b1)])
  refine own_go (fun t k => XS.aloadN X1.here hx rfl (hb hby d8_4) rfl rfl  k) ?_
  show own_R p e below _ T1 (mkF m 5 #[.val (.ref a), .val (.long q1), .second, .val .null] [(.ref a), (.ref b1), (.ref b1)])
  obtain ⟨T2, X2, e2, st2⟩ := getF X1 hx hZ hown (host := "") (Or.inl (hw _ (List.mem_of_getElem? (i := 23) rfl))) Via.refl e1 F_line_a (g := (mkF m 5 #[.val (.ref a), .val (.long q1), .second, .val .null] [(.ref a), (.ref b1), (.ref b1)])) rfl rfl (hb hby d8_5)
  refine own_go (st2) ?_
  show own_R p e below _ T2 (mkF m 8 #[.val (.ref a), .val (.long q1), .second, .val .null] [(.int l1), (.ref b1), (.ref b1)])
  refine own_go (fun t k => XS.aloadN X2.here hx rfl (hb hby d8_8) rfl rfl  k) ?_
  show own_R p e below _ T2 (mkF m 9 #[.val (.ref a), .val (.long q1), .second, .val .null] [(.ref a), (.int l1), (.ref b1), (.ref b1)])
  obtain ⟨T3, X3, e3, st3⟩ := getF X2 hx hZ hown (host := "") (Or.inl (hw _ (List.mem_of_getElem? (i := 25) rfl))) Via.refl e2 F_column_a (g := (mkF m 9 #[.val (.ref a), .val (.long q1), .second, .val .null] [(.ref a), (.int l1), (.ref b1), (.ref b1)])) rfl rfl (hb hby d8_9)
  refine own_go (st3) ?_
  show own_R p e below _ T3 (mkF m 12 #[.val (.ref a), .val (.long q1), .second, .val .null] [(.int c1), (.int l1), (.ref b1), (.ref b1)])
  refine own_go (fun t k => XS.lloadN X3.here hx rfl (hb hby d8_12) rfl  k) ?_
  show own_R p e below _ T3 (mkF m 13 #[.val (.ref a), .val (.long q1), .second, .val .null] [(.long q1), (.int c1), (.int l1), (.ref b1), (.ref b1)])
  refine own_go (fun t k => XS.aloadN X3.here hx rfl (hb hby d8_13) rfl rfl  k) ?_
  show own_R p e below _ T3 (mkF m 14 #[.val (.ref a), .val (.long q1), .second, .val .null] [.null, (.long q1), (.int c1), (.int l1), (.ref b1), (.ref b1)])
  obtain ⟨_, _, ⟨T4, L4, k4, n4⟩, -, X4, ⟨Lc4, hQ4, l4, y4, z4⟩, st4⟩ := X3.specialBack hx (y := (⟨"com/example/xtd/xtd/model/Position", "<init>", "(IIJLjava/lang/String;)V"⟩ : MethodName)) rfl hown (mvT hZ (hw _ (List.mem_of_getElem? (i := 47) rfl))) (mvT hZ (hw _ (List.mem_of_getElem? (i := 48) rfl))) (mvT hZ (hw _ (List.mem_of_getElem? (i := 49) rfl))) (by decide) (backOf (W := 1) (rmpoi l Z a0 hw [] b1 l1 c1 q1 h1 n0 (Nat.le_trans Z0 Kh.1) F_line_b1 F_column_b1 F_offset_b1 F_systemId_b1 A1 g_b1) hZ (hw _ (List.mem_of_getElem? (i := 49) rfl)) (hw _ (List.mem_of_getElem? (i := 46) rfl)) (by decide) (by decide)) (g := (mkF m 14 #[.val (.ref a), .val (.long q1), .second, .val .null] [.null, (.long q1), (.int c1), (.int l1), (.ref b1), (.ref b1)])) rfl (by rw [hml]; rfl) (Steps.refl _) (a := b1) (argsL := [(.int l1), (.int c1), (.long q1), .null]) (rest := [(.ref b1)]) (lenOf pd_6 rfl) rfl (by show 2 * 0 + _ ≤ _; exact Nat.le_of_eq rfl) (hb hby d8_14) (fun _ _ => ⟨rfl, e3, (by decide : 1 + 0 ≤ _), (by decide : 4 + 0 ≤ _)⟩)
  dsimp only [Pt.U, Pt.locs, Pt.cells, Pt.slots] at X4 l4 y4 z4 st4 hQ4
  subst l4 y4 z4
  obtain ⟨rfl, Nq4, K4, E4_a, F4_a_line, F4_a_column, F4_a_offset, F4_a_systemId⟩ := hQ4
  obtain ⟨Lh4, X4, N4⟩ := own_hide X4 (Fr.app N0 Nq4)
  obtain ⟨h4, e4⟩ : ∃ z, T4.heap = z := ⟨_, rfl⟩
  rw [e4] at K4 E4_a F4_a_line F4_a_column F4_a_offset F4_a_systemId
  replace F_line_a := F_line_a.keep K4 (ninS ne_a_b1 nin0)
  replace F_column_a := F_column_a.keep K4 (ninS ne_a_b1 nin0)
  replace F_afterCarriageReturn_a := F_afterCarriageReturn_a.keep K4 (ninS ne_a_b1 nin0)
  replace E_a := Exa.keep E_a K4
  replace Kh := Kh.trans K4 (allS (Or.inr sz_b1) all0)
  refine own_go (fun t k => st4.trans k) ?_
  show own_R p e below _ T4 (mkF m 17 #[.val (.ref a), .val (.long q1), .second, .val .null] [(.ref b1)])
  refine own_retW X4 hx Bd.returns rfl (Or.inr (Or.inr (Or.inr (Or.inr ⟨rfl, rfl, rfl⟩)))) (BodyLoose.notSynchronized Bd) (hb hby d8_17) (by decide) (by decide) ?_
  rw [e4]
  exact ⟨b1, rfl, N4, Kh, sz_b1, E4_a, F4_a_line, F4_a_column, F4_a_offset, F4_a_systemId⟩
theorem d11_0 : decode prog_107_method_10_code 0 = .ok (.aload_n 0, 1) := by decide +kernel
theorem d11_1 : decode prog_107_method_10_code 1 = .ok (.getfield 7, 3) := by decide +kernel
theorem d11_4 : decode prog_107_method_10_code 4 = .ok (.ireturn, 1) := by decide +kernel
theorem ef_gline (m : MethodId) (x0 : Addr) : entryFrame m #[(.ref x0)] 1 = mkF m 0 #[.val (.ref x0)] [] := by first | (simp [entryFrame, mkF, argsToLocals, Value.category]; done) | rfl
def Qgline (Z : State) (a : Addr) (p1 : Int32) (p2 : Int32) (q3 : Int64) (h0 : Heap) (n0 : Nat) (v : Option Value) (h : Heap) (L : List Loc) : Prop := v = some (.int p1) ∧ Fr n0 L ∧ h = h0
set_option maxRecDepth 65536 in
set_option maxHeartbeats 40000000 in
theorem rmgline (l : Launch) (Z : State) (a0 : Array Value) (hw : ∀ d ∈ tables_1, d.before a0 Z = true) (ws : List Jvm.Cond) (a : Addr) (p1 : Int32) (p2 : Int32) (q3 : Int64) (h0 : Heap) (n0 : Nat) (Z0 : n0 ≤ h0.size) (F_line_a : Fld Z h0 a "com/example/xtd/xtd/model/Position" "line" "I" (.int p1)) (F_column_a : Fld Z h0 a "com/example/xtd/xtd/model/Position" "column" "I" (.int p2)) (F_offset_a : Fld Z h0 a "com/example/xtd/xtd/model/Position" "offset" "J" (.long q3)) (F_systemId_a : Fld Z h0 a "com/example/xtd/xtd/model/Position" "systemId" "Ljava/lang/String;" .null) (E_a : Exa Z h0 a "com/example/xtd/xtd/model/Position") :
    MetFree l (⟨"com/example/xtd/xtd/model/Position", "line", "()I"⟩ : MethodName) (head1 (Jvm.Cond.code (⟨"com/example/xtd/xtd/model/Position", "line", "()I"⟩ : MethodName) prog_107_method_10_code 1 (some .int) :: ws) ({ frames := 0, cells := 0, slots := 0, locals := 0 } : Room)) (fun aS U => aS = #[(.ref a)] ∧ Z.Warmed39 U.vm ∧ U.heap = h0) (fun _ _ _ _ _ => True) (fun _ U o U' => ∃ v L, o = .returned v ∧ Qgline Z a p1 p2 q3 h0 n0 v U'.heap L ∧ FrameEnd U o U' L ({ frames := 0, cells := 0, slots := 0, locals := 0 } : Room).cells ({ frames := 0, cells := 0, slots := 0, locals := 0 } : Room).slots) := by
  refine MetFree.of_bodySF (plainFor_of_name pn_3) hisR ?_
  intro p e s m args below meth c s₁ Bd hml0 hP hK
  obtain ⟨rfl, hZ, hh⟩ := hP
  have hx := Bd.exec
  have hby := Bd.bytes
  have hml : c.maxLocals = 1 := hml0
  have hown : s.vm.findClass "com/example/xtd/xtd/model/Position" = some m.cls := findClass_of_methodNamed Bd.named
  have hnm := (name_of_methodNamed Bd.named Bd.method).1
  have X0 : Stand p l e ({ frames := 0, cells := 0, slots := 0, locals := 0 } : Room) s m #[(.ref a)] below meth c s₁ [] 0 0 := Stand.of_body Bd
  have e0 : s₁.heap = h0 := by rw [← hh, Bd.state]; rfl
  have N0 := Fr.nil n0
  have Kh : Keep h0 h0 [] := Keep.refl _ _
  suffices H : own_R p e below (own_E s below (Qgline Z a p1 p2 q3 h0 n0) ({ frames := 0, cells := 0, slots := 0, locals := 0 } : Room).cells ({ frames := 0, cells := 0, slots := 0, locals := 0 } : Room).slots) s₁ (mkF m 0 #[.val (.ref a)] []) by
    obtain ⟨t, hst, hrun, v, L, hend, hQ, hF⟩ := H
    exact ⟨t, _, castTop (ef_gline m a) hst, hrun, hend, v, L, rfl, hQ, hF⟩
  show own_R p e below _ s₁ (mkF m 0 #[.val (.ref a)] [])
  refine own_go (fun t k => XS.aloadN X0.here hx rfl (hb hby d11_0) rfl rfl  k) ?_
  show own_R p e below _ s₁ (mkF m 1 #[.val (.ref a)] [(.ref a)])
  obtain ⟨T1, X1, e1, st1⟩ := getF X0 hx hZ hown (host := "") (Or.inl (hw _ (List.mem_of_getElem? (i := 56) rfl))) Via.refl e0 F_line_a (g := (mkF m 1 #[.val (.ref a)] [(.ref a)])) rfl rfl (hb hby d11_1)
  refine own_go (st1) ?_
  show own_R p e below _ T1 (mkF m 4 #[.val (.ref a)] [(.int p1)])
  refine own_retW X1 hx Bd.returns rfl (Or.inl ⟨rfl, Or.inl rfl, _, rfl⟩) (BodyLoose.notSynchronized Bd) (hb hby d11_4) (by decide) (by decide) ?_
  exact ⟨rfl, N0, e1⟩
theorem d12_0 : decode prog_107_method_11_code 0 = .ok (.aload_n 0, 1) := by decide +kernel
theorem d12_1 : decode prog_107_method_11_code 1 = .ok (.getfield 13, 3) := by decide +kernel
theorem d12_4 : decode prog_107_method_11_code 4 = .ok (.ireturn, 1) := by decide +kernel
theorem ef_gcolumn (m : MethodId) (x0 : Addr) : entryFrame m #[(.ref x0)] 1 = mkF m 0 #[.val (.ref x0)] [] := by first | (simp [entryFrame, mkF, argsToLocals, Value.category]; done) | rfl
def Qgcolumn (Z : State) (a : Addr) (p1 : Int32) (p2 : Int32) (q3 : Int64) (h0 : Heap) (n0 : Nat) (v : Option Value) (h : Heap) (L : List Loc) : Prop := v = some (.int p2) ∧ Fr n0 L ∧ h = h0
set_option maxRecDepth 65536 in
set_option maxHeartbeats 40000000 in
theorem rmgcolumn (l : Launch) (Z : State) (a0 : Array Value) (hw : ∀ d ∈ tables_1, d.before a0 Z = true) (ws : List Jvm.Cond) (a : Addr) (p1 : Int32) (p2 : Int32) (q3 : Int64) (h0 : Heap) (n0 : Nat) (Z0 : n0 ≤ h0.size) (F_line_a : Fld Z h0 a "com/example/xtd/xtd/model/Position" "line" "I" (.int p1)) (F_column_a : Fld Z h0 a "com/example/xtd/xtd/model/Position" "column" "I" (.int p2)) (F_offset_a : Fld Z h0 a "com/example/xtd/xtd/model/Position" "offset" "J" (.long q3)) (F_systemId_a : Fld Z h0 a "com/example/xtd/xtd/model/Position" "systemId" "Ljava/lang/String;" .null) (E_a : Exa Z h0 a "com/example/xtd/xtd/model/Position") :
    MetFree l (⟨"com/example/xtd/xtd/model/Position", "column", "()I"⟩ : MethodName) (head1 (Jvm.Cond.code (⟨"com/example/xtd/xtd/model/Position", "column", "()I"⟩ : MethodName) prog_107_method_11_code 1 (some .int) :: ws) ({ frames := 0, cells := 0, slots := 0, locals := 0 } : Room)) (fun aS U => aS = #[(.ref a)] ∧ Z.Warmed39 U.vm ∧ U.heap = h0) (fun _ _ _ _ _ => True) (fun _ U o U' => ∃ v L, o = .returned v ∧ Qgcolumn Z a p1 p2 q3 h0 n0 v U'.heap L ∧ FrameEnd U o U' L ({ frames := 0, cells := 0, slots := 0, locals := 0 } : Room).cells ({ frames := 0, cells := 0, slots := 0, locals := 0 } : Room).slots) := by
  refine MetFree.of_bodySF (plainFor_of_name pn_3) hisR ?_
  intro p e s m args below meth c s₁ Bd hml0 hP hK
  obtain ⟨rfl, hZ, hh⟩ := hP
  have hx := Bd.exec
  have hby := Bd.bytes
  have hml : c.maxLocals = 1 := hml0
  have hown : s.vm.findClass "com/example/xtd/xtd/model/Position" = some m.cls := findClass_of_methodNamed Bd.named
  have hnm := (name_of_methodNamed Bd.named Bd.method).1
  have X0 : Stand p l e ({ frames := 0, cells := 0, slots := 0, locals := 0 } : Room) s m #[(.ref a)] below meth c s₁ [] 0 0 := Stand.of_body Bd
  have e0 : s₁.heap = h0 := by rw [← hh, Bd.state]; rfl
  have N0 := Fr.nil n0
  have Kh : Keep h0 h0 [] := Keep.refl _ _
  suffices H : own_R p e below (own_E s below (Qgcolumn Z a p1 p2 q3 h0 n0) ({ frames := 0, cells := 0, slots := 0, locals := 0 } : Room).cells ({ frames := 0, cells := 0, slots := 0, locals := 0 } : Room).slots) s₁ (mkF m 0 #[.val (.ref a)] []) by
    obtain ⟨t, hst, hrun, v, L, hend, hQ, hF⟩ := H
    exact ⟨t, _, castTop (ef_gcolumn m a) hst, hrun, hend, v, L, rfl, hQ, hF⟩
  show own_R p e below _ s₁ (mkF m 0 #[.val (.ref a)] [])
  refine own_go (fun t k => XS.aloadN X0.here hx rfl (hb hby d12_0) rfl rfl  k) ?_
  show own_R p e below _ s₁ (mkF m 1 #[.val (.ref a)] [(.ref a)])
  obtain ⟨T1, X1, e1, st1⟩ := getF X0 hx hZ hown (host := "") (Or.inl (hw _ (List.mem_of_getElem? (i := 58) rfl))) Via.refl e0 F_column_a (g := (mkF m 1 #[.val (.ref a)] [(.ref a)])) rfl rfl (hb hby d12_1)
  refine own_go (st1) ?_
  show own_R p e below _ T1 (mkF m 4 #[.val (.ref a)] [(.int p2)])
  refine own_retW X1 hx Bd.returns rfl (Or.inl ⟨rfl, Or.inl rfl, _, rfl⟩) (BodyLoose.notSynchronized Bd) (hb hby d12_4) (by decide) (by decide) ?_
  exact ⟨rfl, N0, e1⟩
theorem d7_0 : decode prog_93_method_2_code 0 = .ok (.iload_n 1, 1) := by decide +kernel
theorem d7_1 : decode prog_93_method_2_code 1 = .ok (.bipush 13, 2) := by decide +kernel
theorem d7_3 : decode prog_93_method_2_code 3 = .ok (.if_icmp .eq 16, 3) := by decide +kernel
theorem d7_6 : decode prog_93_method_2_code 6 = .ok (.iload_n 1, 1) := by decide +kernel
theorem d7_7 : decode prog_93_method_2_code 7 = .ok (.bipush 10, 2) := by decide +kernel
theorem d7_9 : decode prog_93_method_2_code 9 = .ok (.if_icmp .ne 28, 3) := by decide +kernel
theorem d7_12 : decode prog_93_method_2_code 12 = .ok (.aload_n 0, 1) := by decide +kernel
theorem d7_13 : decode prog_93_method_2_code 13 = .ok (.getfield 16, 3) := by decide +kernel
theorem d7_16 : decode prog_93_method_2_code 16 = .ok (.ifCond .ne 21, 3) := by decide +kernel
theorem d7_19 : decode prog_93_method_2_code 19 = .ok (.aload_n 0, 1) := by decide +kernel
theorem d7_20 : decode prog_93_method_2_code 20 = .ok (.dup, 1) := by decide +kernel
theorem d7_21 : decode prog_93_method_2_code 21 = .ok (.getfield 7, 3) := by decide +kernel
theorem d7_24 : decode prog_93_method_2_code 24 = .ok (.iconst 1, 1) := by decide +kernel
theorem d7_25 : decode prog_93_method_2_code 25 = .ok (.iadd, 1) := by decide +kernel
theorem d7_26 : decode prog_93_method_2_code 26 = .ok (.putfield 7, 3) := by decide +kernel
theorem d7_29 : decode prog_93_method_2_code 29 = .ok (.aload_n 0, 1) := by decide +kernel
theorem d7_30 : decode prog_93_method_2_code 30 = .ok (.iconst 1, 1) := by decide +kernel
theorem d7_31 : decode prog_93_method_2_code 31 = .ok (.putfield 13, 3) := by decide +kernel
theorem d7_34 : decode prog_93_method_2_code 34 = .ok (.goto 19, 3) := by decide +kernel
theorem d7_37 : decode prog_93_method_2_code 37 = .ok (.iload_n 1, 1) := by decide +kernel
theorem d7_38 : decode prog_93_method_2_code 38 = .ok (.bipush 10, 2) := by decide +kernel
theorem d7_40 : decode prog_93_method_2_code 40 = .ok (.if_icmp .eq 13, 3) := by decide +kernel
theorem d7_43 : decode prog_93_method_2_code 43 = .ok (.aload_n 0, 1) := by decide +kernel
theorem d7_44 : decode prog_93_method_2_code 44 = .ok (.dup, 1) := by decide +kernel
theorem d7_45 : decode prog_93_method_2_code 45 = .ok (.getfield 13, 3) := by decide +kernel
theorem d7_48 : decode prog_93_method_2_code 48 = .ok (.iconst 1, 1) := by decide +kernel
theorem d7_49 : decode prog_93_method_2_code 49 = .ok (.iadd, 1) := by decide +kernel
theorem d7_50 : decode prog_93_method_2_code 50 = .ok (.putfield 13, 3) := by decide +kernel
theorem d7_53 : decode prog_93_method_2_code 53 = .ok (.aload_n 0, 1) := by decide +kernel
theorem d7_54 : decode prog_93_method_2_code 54 = .ok (.iload_n 1, 1) := by decide +kernel
theorem d7_55 : decode prog_93_method_2_code 55 = .ok (.bipush 13, 2) := by decide +kernel
theorem d7_57 : decode prog_93_method_2_code 57 = .ok (.if_icmp .ne 7, 3) := by decide +kernel
theorem d7_60 : decode prog_93_method_2_code 60 = .ok (.iconst 1, 1) := by decide +kernel
theorem d7_61 : decode prog_93_method_2_code 61 = .ok (.goto 4, 3) := by decide +kernel
theorem d7_64 : decode prog_93_method_2_code 64 = .ok (.iconst 0, 1) := by decide +kernel
theorem d7_65 : decode prog_93_method_2_code 65 = .ok (.putfield 16, 3) := by decide +kernel
theorem d7_68 : decode prog_93_method_2_code 68 = .ok (.return_, 1) := by decide +kernel
theorem ef_cch (m : MethodId) (x0 : Addr) (x1 : Int32) : entryFrame m #[(.ref x0), (.int x1)] 2 = mkF m 0 #[.val (.ref x0), .val (.int x1)] [] := by first | (simp [entryFrame, mkF, argsToLocals, Value.category]; done) | rfl
def Qcch (Z : State) (a : Addr) (p1 : Int32) (l1 : Int32) (c1 : Int32) (r1 : Int32) (h0 : Heap) (n0 : Nat) (v : Option Value) (h : Heap) (L : List Loc) : Prop := ∃ (l2 c2 r2 : Int32), v = none ∧ Fr n0 L ∧ (l2, c2, r2) = own_step p1 (l1, c1, r1) ∧ Keep h0 h [a] ∧ Exa Z h a "com/example/xtd/xtd/model/LineCounter" ∧ Fld Z h a "com/example/xtd/xtd/model/LineCounter" "line" "I" (.int l2) ∧ Fld Z h a "com/example/xtd/xtd/model/LineCounter" "column" "I" (.int c2) ∧ Fld Z h a "com/example/xtd/xtd/model/LineCounter" "afterCarriageReturn" "Z" (.int r2)
set_option maxRecDepth 65536 in
set_option maxHeartbeats 40000000 in
theorem rmcch (l : Launch) (Z : State) (a0 : Array Value) (hw : ∀ d ∈ tables_1, d.before a0 Z = true) (ws : List Jvm.Cond) (a : Addr) (p1 : Int32) (l1 : Int32) (c1 : Int32) (r1 : Int32) (h0 : Heap) (n0 : Nat) (Z0 : n0 ≤ h0.size) (F_line_a : Fld Z h0 a "com/example/xtd/xtd/model/LineCounter" "line" "I" (.int l1)) (F_column_a : Fld Z h0 a "com/example/xtd/xtd/model/LineCounter" "column" "I" (.int c1)) (F_afterCarriageReturn_a : Fld Z h0 a "com/example/xtd/xtd/model/LineCounter" "afterCarriageReturn" "Z" (.int r1)) (E_a : Exa Z h0 a "com/example/xtd/xtd/model/LineCounter") (g_a : n0 ≤ a) :
    MetFree l (⟨"com/example/xtd/xtd/model/LineCounter", "count", "(C)V"⟩ : MethodName) (head1 (Jvm.Cond.code (⟨"com/example/xtd/xtd/model/LineCounter", "count", "(C)V"⟩ : MethodName) prog_93_method_2_code 2 none :: ws) ({ frames := 0, cells := 0, slots := 0, locals := 0 } : Room)) (fun aS U => aS = #[(.ref a), (.int p1)] ∧ Z.Warmed39 U.vm ∧ U.heap = h0) (fun _ _ _ _ _ => True) (fun _ U o U' => ∃ v L, o = .returned v ∧ Qcch Z a p1 l1 c1 r1 h0 n0 v U'.heap L ∧ FrameEnd U o U' L ({ frames := 0, cells := 0, slots := 0, locals := 0 } : Room).cells ({ frames := 0, cells := 0, slots := 0, locals := 0 } : Room).slots) := by
  refine MetFree.of_bodySF (plainFor_of_name pn_2) hisR ?_
  intro p e s m args below meth c s₁ Bd hml0 hP hK
  obtain ⟨rfl, hZ, hh⟩ := hP
  have hx := Bd.exec
  have hby := Bd.bytes
  have hml : c.maxLocals = 2 := hml0
  have hown : s.vm.findClass "com/example/xtd/xtd/model/LineCounter" = some m.cls := findClass_of_methodNamed Bd.named
  have hnm := (name_of_methodNamed Bd.named Bd.method).1
  have X0 : Stand p l e ({ frames := 0, cells := 0, slots := 0, locals := 0 } : Room) s m #[(.ref a), (.int p1)] below meth c s₁ [] 0 0 := Stand.of_body Bd
  have e0 : s₁.heap = h0 := by rw [← hh, Bd.state]; rfl
  have N0 := Fr.nil n0
  have Kh : Keep h0 h0 [a] := Keep.refl _ _
  suffices H : own_R p e below (own_E s below (Qcch Z a p1 l1 c1 r1 h0 n0) ({ frames := 0, cells := 0, slots := 0, locals := 0 } : Room).cells ({ frames := 0, cells := 0, slots := 0, locals := 0 } : Room).slots) s₁ (mkF m 0 #[.val (.ref a), .val (.int p1)] []) by
    obtain ⟨t, hst, hrun, v, L, hend, hQ, hF⟩ := H
    exact ⟨t, _, castTop (ef_cch m a p1) hst, hrun, hend, v, L, rfl, hQ, hF⟩
  show own_R p e below _ s₁ (mkF m 0 #[.val (.ref a), .val (.int p1)] [])
  refine own_go (fun t k => XS.iloadN X0.here hx rfl (hb hby d7_0) rfl  k) ?_
  show own_R p e below _ s₁ (mkF m 1 #[.val (.ref a), .val (.int p1)] [(.int p1)])
  refine own_go (fun t k => XS.bipush X0.here hx rfl (hb hby d7_1) k) ?_
  show own_R p e below _ s₁ (mkF m 3 #[.val (.ref a), .val (.int p1)] [(.int (13 : Int32)), (.int p1)])
  by_cases hc3_1 : p1 = (13 : Int32)
  · -- pc 3: yes
    refine own_go (fun t k => XS.icmpYes X0.here hx rfl (pc0 := 3) (pc' := 19) rfl (hb hby d7_3) rfl (teq hc3_1).1 (by decide) (by decide) k) ?_
    show own_R p e below _ s₁ (mkF m 19 #[.val (.ref a), .val (.int p1)] [])
    refine own_go (fun t k => XS.aloadN X0.here hx rfl (hb hby d7_19) rfl rfl  k) ?_
    show own_R p e below _ s₁ (mkF m 20 #[.val (.ref a), .val (.int p1)] [(.ref a)])
    refine own_go (fun t k => XS.dup X0.here hx rfl (hb hby d7_20) rfl rfl k) ?_
    show own_R p e below _ s₁ (mkF m 21 #[.val (.ref a), .val (.int p1)] [(.ref a), (.ref a)])
    obtain ⟨T2, X2, e2, st2⟩ := getF X0 hx hZ hown (host := "") (Or.inl (hw _ (List.mem_of_getElem? (i := 23) rfl))) Via.refl e0 F_line_a (g := (mkF m 21 #[.val (.ref a), .val (.int p1)] [(.ref a), (.ref a)])) rfl rfl (hb hby d7_21)
    refine own_go (st2) ?_
    show own_R p e below _ T2 (mkF m 24 #[.val (.ref a), .val (.int p1)] [(.int l1), (.ref a)])
    refine own_go (fun t k => XS.iconst X2.here hx rfl (hb hby d7_24) k) ?_
    show own_R p e below _ T2 (mkF m 25 #[.val (.ref a), .val (.int p1)] [(.int (1 : Int32)), (.int l1), (.ref a)])
    refine own_go (fun t k => XS.iadd X2.here hx rfl (hb hby d7_25) rfl k) ?_
    show own_R p e below _ T2 (mkF m 26 #[.val (.ref a), .val (.int p1)] [(.int (l1 + (1 : Int32))), (.ref a)])
    obtain ⟨T3, h3, X3, e3, W3, st3⟩ := putF X2 hx hZ hown (host := "") (Or.inl (hw _ (List.mem_of_getElem? (i := 23) rfl))) Via.refl e2 F_line_a E_a (Or.inl (hw _ (List.mem_of_getElem? (i := 24) rfl))) (hw _ (List.mem_of_getElem? (i := 15) rfl)) (ty := .int) (by decide) rfl rfl (g := (mkF m 26 #[.val (.ref a), .val (.int p1)] [(.int (l1 + (1 : Int32))), (.ref a)])) rfl rfl (hb hby d7_26)
    obtain ⟨Lh3, X3, N3⟩ := own_hide X3 (Fr.snoc X3 N0 g_a)
    replace Kh := Kh.wr W3 (Or.inl (List.mem_of_getElem? (i := 0) rfl))
    replace F_line_a := Fld.same W3 F_line_a
    replace F_column_a := Fld.other W3 F_column_a (Or.inr (slot_ne (Or.inl (hw _ (List.mem_of_getElem? (i := 26) rfl))) (Or.inl (hw _ (List.mem_of_getElem? (i := 24) rfl))) (by decide) (t := .int) (t' := .int) (by decide) (by decide)))
    replace F_afterCarriageReturn_a := Fld.other W3 F_afterCarriageReturn_a (Or.inr (slot_ne (Or.inl (hw _ (List.mem_of_getElem? (i := 33) rfl))) (Or.inl (hw _ (List.mem_of_getElem? (i := 24) rfl))) (by decide) (t := .boolean) (t' := .int) (by decide) (by decide)))
    replace E_a := Exa.wr W3 E_a
    refine own_go (st3) ?_
    show own_R p e below _ T3 (mkF m 29 #[.val (.ref a), .val (.int p1)] [])
    refine own_go (fun t k => XS.aloadN X3.here hx rfl (hb hby d7_29) rfl rfl  k) ?_
    show own_R p e below _ T3 (mkF m 30 #[.val (.ref a), .val (.int p1)] [(.ref a)])
    refine own_go (fun t k => XS.iconst X3.here hx rfl (hb hby d7_30) k) ?_
    show own_R p e below _ T3 (mkF m 31 #[.val (.ref a), .val (.int p1)] [(.int (1 : Int32)), (.ref a)])
    obtain ⟨T4, h4, X4, e4, W4, st4⟩ := putF X3 hx hZ hown (host := "") (Or.inl (hw _ (List.mem_of_getElem? (i := 25) rfl))) Via.refl e3 F_column_a E_a (Or.inl (hw _ (List.mem_of_getElem? (i := 26) rfl))) (hw _ (List.mem_of_getElem? (i := 15) rfl)) (ty := .int) (by decide) rfl rfl (g := (mkF m 31 #[.val (.ref a), .val (.int p1)] [(.int (1 : Int32)), (.ref a)])) rfl rfl (hb hby d7_31)
    obtain ⟨Lh4, X4, N4⟩ := own_hide X4 (Fr.snoc X4 N3 g_a)
    replace Kh := Kh.wr W4 (Or.inl (List.mem_of_getElem? (i := 0) rfl))
    replace F_line_a := Fld.other W4 F_line_a (Or.inr (slot_ne (Or.inl (hw _ (List.mem_of_getElem? (i := 24) rfl))) (Or.inl (hw _ (List.mem_of_getElem? (i := 26) rfl))) (by decide) (t := .int) (t' := .int) (by decide) (by decide)))
    replace F_column_a := Fld.same W4 F_column_a
    replace F_afterCarriageReturn_a := Fld.other W4 F_afterCarriageReturn_a (Or.inr (slot_ne (Or.inl (hw _ (List.mem_of_getElem? (i := 33) rfl))) (Or.inl (hw _ (List.mem_of_getElem? (i := 26) rfl))) (by decide) (t := .boolean) (t' := .int) (by decide) (by decide)))
    replace E_a := Exa.wr W4 E_a
    refine own_go (st4) ?_
    show own_R p e below _ T4 (mkF m 34 #[.val (.ref a), .val (.int p1)] [])
    refine own_go (fun t k => XS.goto X4.here hx rfl (pc0 := 34) (pc' := 53) rfl (hb hby d7_34) (by decide) (by decide) k) ?_
    show own_R p e below _ T4 (mkF m 53 #[.val (.ref a), .val (.int p1)] [])
    refine own_go (fun t k => XS.aloadN X4.here hx rfl (hb hby d7_53) rfl rfl  k) ?_
    show own_R p e below _ T4 (mkF m 54 #[.val (.ref a), .val (.int p1)] [(.ref a)])
    refine own_go (fun t k => XS.iloadN X4.here hx rfl (hb hby d7_54) rfl  k) ?_
    show own_R p e below _ T4 (mkF m 55 #[.val (.ref a), .val (.int p1)] [(.int p1), (.ref a)])
    refine own_go (fun t k => XS.bipush X4.here hx rfl (hb hby d7_55) k) ?_
    show own_R p e below _ T4 (mkF m 57 #[.val (.ref a), .val (.int p1)] [(.int (13 : Int32)), (.int p1), (.ref a)])
    refine own_go (fun t k => XS.icmpNo X4.here hx rfl (hb hby d7_57) rfl (teq hc3_1).2 k) ?_
    show own_R p e below _ T4 (mkF m 60 #[.val (.ref a), .val (.int p1)] [(.ref a)])
    refine own_go (fun t k => XS.iconst X4.here hx rfl (hb hby d7_60) k) ?_
    show own_R p e below _ T4 (mkF m 61 #[.val (.ref a), .val (.int p1)] [(.int (1 : Int32)), (.ref a)])
    refine own_go (fun t k => XS.goto X4.here hx rfl (pc0 := 61) (pc' := 65) rfl (hb hby d7_61) (by decide) (by decide) k) ?_
    show own_R p e below _ T4 (mkF m 65 #[.val (.ref a), .val (.int p1)] [(.int (1 : Int32)), (.ref a)])
    obtain ⟨T5, h5, X5, e5, W5, st5⟩ := putFN X4 hx hZ hown (hw _ (List.mem_of_getElem? (i := 32) rfl)) Via.refl e4 F_afterCarriageReturn_a E_a (Or.inl (hw _ (List.mem_of_getElem? (i := 33) rfl))) (hw _ (List.mem_of_getElem? (i := 15) rfl)) (ty := .boolean) (v' := (.int (1 : Int32))) (by decide) rfl (by decide) (g := (mkF m 65 #[.val (.ref a), .val (.int p1)] [(.int (1 : Int32)), (.ref a)])) rfl rfl (hb hby d7_65)
    obtain ⟨Lh5, X5, N5⟩ := own_hide X5 (Fr.snoc X5 N4 g_a)
    replace Kh := Kh.wr W5 (Or.inl (List.mem_of_getElem? (i := 0) rfl))
    replace F_line_a := Fld.other W5 F_line_a (Or.inr (slot_ne (Or.inl (hw _ (List.mem_of_getElem? (i := 24) rfl))) (Or.inl (hw _ (List.mem_of_getElem? (i := 33) rfl))) (by decide) (t := .int) (t' := .boolean) (by decide) (by decide)))
    replace F_column_a := Fld.other W5 F_column_a (Or.inr (slot_ne (Or.inl (hw _ (List.mem_of_getElem? (i := 26) rfl))) (Or.inl (hw _ (List.mem_of_getElem? (i := 33) rfl))) (by decide) (t := .int) (t' := .boolean) (by decide) (by decide)))
    replace F_afterCarriageReturn_a := Fld.same W5 F_afterCarriageReturn_a
    replace E_a := Exa.wr W5 E_a
    refine own_go (st5) ?_
    show own_R p e below _ T5 (mkF m 68 #[.val (.ref a), .val (.int p1)] [])
    refine own_retV X5 hx Bd.returns (BodyLoose.notSynchronized Bd) (hb hby d7_68) (by decide) (by decide) ?_
    rw [e5]
    exact ⟨_, _, _, rfl, N5, (own_t2 hc3_1).symm, Kh, E_a, F_line_a, F_column_a, F_afterCarriageReturn_a⟩
  · -- pc 3: no
    refine own_go (fun t k => XS.icmpNo X0.here hx rfl (hb hby d7_3) rfl (feq hc3_1).1 k) ?_
    show own_R p e below _ s₁ (mkF m 6 #[.val (.ref a), .val (.int p1)] [])
    refine own_go (fun t k => XS.iloadN X0.here hx rfl (hb hby d7_6) rfl  k) ?_
    show own_R p e below _ s₁ (mkF m 7 #[.val (.ref a), .val (.int p1)] [(.int p1)])
    refine own_go (fun t k => XS.bipush X0.here hx rfl (hb hby d7_7) k) ?_
    show own_R p e below _ s₁ (mkF m 9 #[.val (.ref a), .val (.int p1)] [(.int (10 : Int32)), (.int p1)])
    by_cases hc9_6 : p1 = (10 : Int32)
    · -- pc 9: yes
      refine own_go (fun t k => XS.icmpNo X0.here hx rfl (hb hby d7_9) rfl (teq hc9_6).2 k) ?_
      show own_R p e below _ s₁ (mkF m 12 #[.val (.ref a), .val (.int p1)] [])
      refine own_go (fun t k => XS.aloadN X0.here hx rfl (hb hby d7_12) rfl rfl  k) ?_
      show own_R p e below _ s₁ (mkF m 13 #[.val (.ref a), .val (.int p1)] [(.ref a)])
      obtain ⟨T7, X7, e7, st7⟩ := getF X0 hx hZ hown (host := "") (Or.inl (hw _ (List.mem_of_getElem? (i := 32) rfl))) Via.refl e0 F_afterCarriageReturn_a (g := (mkF m 13 #[.val (.ref a), .val (.int p1)] [(.ref a)])) rfl rfl (hb hby d7_13)
      refine own_go (st7) ?_
      show own_R p e below _ T7 (mkF m 16 #[.val (.ref a), .val (.int p1)] [(.int r1)])
      by_cases hc16_8 : r1 = (0 : Int32)
      · -- pc 16: yes
        refine own_go (fun t k => XS.ifNo X7.here hx rfl (hb hby d7_16) rfl ((if0 _ _).trans (teq hc16_8).2) k) ?_
        show own_R p e below _ T7 (mkF m 19 #[.val (.ref a), .val (.int p1)] [])
        refine own_go (fun t k => XS.aloadN X7.here hx rfl (hb hby d7_19) rfl rfl  k) ?_
        show own_R p e below _ T7 (mkF m 20 #[.val (.ref a), .val (.int p1)] [(.ref a)])
        refine own_go (fun t k => XS.dup X7.here hx rfl (hb hby d7_20) rfl rfl k) ?_
        show own_R p e below _ T7 (mkF m 21 #[.val (.ref a), .val (.int p1)] [(.ref a), (.ref a)])
        obtain ⟨T9, X9, e9, st9⟩ := getF X7 hx hZ hown (host := "") (Or.inl (hw _ (List.mem_of_getElem? (i := 23) rfl))) Via.refl e7 F_line_a (g := (mkF m 21 #[.val (.ref a), .val (.int p1)] [(.ref a), (.ref a)])) rfl rfl (hb hby d7_21)
        refine own_go (st9) ?_
        show own_R p e below _ T9 (mkF m 24 #[.val (.ref a), .val (.int p1)] [(.int l1), (.ref a)])
        refine own_go (fun t k => XS.iconst X9.here hx rfl (hb hby d7_24) k) ?_
        show own_R p e below _ T9 (mkF m 25 #[.val (.ref a), .val (.int p1)] [(.int (1 : Int32)), (.int l1), (.ref a)])
        refine own_go (fun t k => XS.iadd X9.here hx rfl (hb hby d7_25) rfl k) ?_
        show own_R p e below _ T9 (mkF m 26 #[.val (.ref a), .val (.int p1)] [(.int (l1 + (1 : Int32))), (.ref a)])
        obtain ⟨T10, h10, X10, e10, W10, st10⟩ := putF X9 hx hZ hown (host := "") (Or.inl (hw _ (List.mem_of_getElem? (i := 23) rfl))) Via.refl e9 F_line_a E_a (Or.inl (hw _ (List.mem_of_getElem? (i := 24) rfl))) (hw _ (List.mem_of_getElem? (i := 15) rfl)) (ty := .int) (by decide) rfl rfl (g := (mkF m 26 #[.val (.ref a), .val (.int p1)] [(.int (l1 + (1 : Int32))), (.ref a)])) rfl rfl (hb hby d7_26)
        obtain ⟨Lh10, X10, N10⟩ := own_hide X10 (Fr.snoc X10 N0 g_a)
        replace Kh := Kh.wr W10 (Or.inl (List.mem_of_getElem? (i := 0) rfl))
        replace F_line_a := Fld.same W10 F_line_a
        replace F_column_a := Fld.other W10 F_column_a (Or.inr (slot_ne (Or.inl (hw _ (List.mem_of_getElem? (i := 26) rfl))) (Or.inl (hw _ (List.mem_of_getElem? (i := 24) rfl))) (by decide) (t := .int) (t' := .int) (by decide) (by decide)))
        replace F_afterCarriageReturn_a := Fld.other W10 F_afterCarriageReturn_a (Or.inr (slot_ne (Or.inl (hw _ (List.mem_of_getElem? (i := 33) rfl))) (Or.inl (hw _ (List.mem_of_getElem? (i := 24) rfl))) (by decide) (t := .boolean) (t' := .int) (by decide) (by decide)))
        replace E_a := Exa.wr W10 E_a
        refine own_go (st10) ?_
        show own_R p e below _ T10 (mkF m 29 #[.val (.ref a), .val (.int p1)] [])
        refine own_go (fun t k => XS.aloadN X10.here hx rfl (hb hby d7_29) rfl rfl  k) ?_
        show own_R p e below _ T10 (mkF m 30 #[.val (.ref a), .val (.int p1)] [(.ref a)])
        refine own_go (fun t k => XS.iconst X10.here hx rfl (hb hby d7_30) k) ?_
        show own_R p e below _ T10 (mkF m 31 #[.val (.ref a), .val (.int p1)] [(.int (1 : Int32)), (.ref a)])
        obtain ⟨T11, h11, X11, e11, W11, st11⟩ := putF X10 hx hZ hown (host := "") (Or.inl (hw _ (List.mem_of_getElem? (i := 25) rfl))) Via.refl e10 F_column_a E_a (Or.inl (hw _ (List.mem_of_getElem? (i := 26) rfl))) (hw _ (List.mem_of_getElem? (i := 15) rfl)) (ty := .int) (by decide) rfl rfl (g := (mkF m 31 #[.val (.ref a), .val (.int p1)] [(.int (1 : Int32)), (.ref a)])) rfl rfl (hb hby d7_31)
        obtain ⟨Lh11, X11, N11⟩ := own_hide X11 (Fr.snoc X11 N10 g_a)
        replace Kh := Kh.wr W11 (Or.inl (List.mem_of_getElem? (i := 0) rfl))
        replace F_line_a := Fld.other W11 F_line_a (Or.inr (slot_ne (Or.inl (hw _ (List.mem_of_getElem? (i := 24) rfl))) (Or.inl (hw _ (List.mem_of_getElem? (i := 26) rfl))) (by decide) (t := .int) (t' := .int) (by decide) (by decide)))
        replace F_column_a := Fld.same W11 F_column_a
        replace F_afterCarriageReturn_a := Fld.other W11 F_afterCarriageReturn_a (Or.inr (slot_ne (Or.inl (hw _ (List.mem_of_getElem? (i := 33) rfl))) (Or.inl (hw _ (List.mem_of_getElem? (i := 26) rfl))) (by decide) (t := .boolean) (t' := .int) (by decide) (by decide)))
        replace E_a := Exa.wr W11 E_a
        refine own_go (st11) ?_
        show own_R p e below _ T11 (mkF m 34 #[.val (.ref a), .val (.int p1)] [])
        refine own_go (fun t k => XS.goto X11.here hx rfl (pc0 := 34) (pc' := 53) rfl (hb hby d7_34) (by decide) (by decide) k) ?_
        show own_R p e below _ T11 (mkF m 53 #[.val (.ref a), .val (.int p1)] [])
        refine own_go (fun t k => XS.aloadN X11.here hx rfl (hb hby d7_53) rfl rfl  k) ?_
        show own_R p e below _ T11 (mkF m 54 #[.val (.ref a), .val (.int p1)] [(.ref a)])
        refine own_go (fun t k => XS.iloadN X11.here hx rfl (hb hby d7_54) rfl  k) ?_
        show own_R p e below _ T11 (mkF m 55 #[.val (.ref a), .val (.int p1)] [(.int p1), (.ref a)])
        refine own_go (fun t k => XS.bipush X11.here hx rfl (hb hby d7_55) k) ?_
        show own_R p e below _ T11 (mkF m 57 #[.val (.ref a), .val (.int p1)] [(.int (13 : Int32)), (.int p1), (.ref a)])
        refine own_go (fun t k => XS.icmpYes X11.here hx rfl (pc0 := 57) (pc' := 64) rfl (hb hby d7_57) rfl (feq hc3_1).2 (by decide) (by decide) k) ?_
        show own_R p e below _ T11 (mkF m 64 #[.val (.ref a), .val (.int p1)] [(.ref a)])
        refine own_go (fun t k => XS.iconst X11.here hx rfl (hb hby d7_64) k) ?_
        show own_R p e below _ T11 (mkF m 65 #[.val (.ref a), .val (.int p1)] [(.int (0 : Int32)), (.ref a)])
        obtain ⟨T12, h12, X12, e12, W12, st12⟩ := putFN X11 hx hZ hown (hw _ (List.mem_of_getElem? (i := 32) rfl)) Via.refl e11 F_afterCarriageReturn_a E_a (Or.inl (hw _ (List.mem_of_getElem? (i := 33) rfl))) (hw _ (List.mem_of_getElem? (i := 15) rfl)) (ty := .boolean) (v' := (.int (0 : Int32))) (by decide) rfl (by decide) (g := (mkF m 65 #[.val (.ref a), .val (.int p1)] [(.int (0 : Int32)), (.ref a)])) rfl rfl (hb hby d7_65)
        obtain ⟨Lh12, X12, N12⟩ := own_hide X12 (Fr.snoc X12 N11 g_a)
        replace Kh := Kh.wr W12 (Or.inl (List.mem_of_getElem? (i := 0) rfl))
        replace F_line_a := Fld.other W12 F_line_a (Or.inr (slot_ne (Or.inl (hw _ (List.mem_of_getElem? (i := 24) rfl))) (Or.inl (hw _ (List.mem_of_getElem? (i := 33) rfl))) (by decide) (t := .int) (t' := .boolean) (by decide) (by decide)))
        replace F_column_a := Fld.other W12 F_column_a (Or.inr (slot_ne (Or.inl (hw _ (List.mem_of_getElem? (i := 26) rfl))) (Or.inl (hw _ (List.mem_of_getElem? (i := 33) rfl))) (by decide) (t := .int) (t' := .boolean) (by decide) (by decide)))
        replace F_afterCarriageReturn_a := Fld.same W12 F_afterCarriageReturn_a
        replace E_a := Exa.wr W12 E_a
        refine own_go (st12) ?_
        show own_R p e below _ T12 (mkF m 68 #[.val (.ref a), .val (.int p1)] [])
        refine own_retV X12 hx Bd.returns (BodyLoose.notSynchronized Bd) (hb hby d7_68) (by decide) (by decide) ?_
        rw [e12]
        exact ⟨_, _, _, rfl, N12, (own_t3 hc3_1 hc9_6 hc16_8).symm, Kh, E_a, F_line_a, F_column_a, F_afterCarriageReturn_a⟩
      · -- pc 16: no
        refine own_go (fun t k => XS.ifYes X7.here hx rfl (pc0 := 16) (pc' := 37) rfl (hb hby d7_16) rfl ((if0 _ _).trans (feq hc16_8).2) (by decide) (by decide) k) ?_
        show own_R p e below _ T7 (mkF m 37 #[.val (.ref a), .val (.int p1)] [])
        refine own_go (fun t k => XS.iloadN X7.here hx rfl (hb hby d7_37) rfl  k) ?_
        show own_R p e below _ T7 (mkF m 38 #[.val (.ref a), .val (.int p1)] [(.int p1)])
        refine own_go (fun t k => XS.bipush X7.here hx rfl (hb hby d7_38) k) ?_
        show own_R p e below _ T7 (mkF m 40 #[.val (.ref a), .val (.int p1)] [(.int (10 : Int32)), (.int p1)])
        refine own_go (fun t k => XS.icmpYes X7.here hx rfl (pc0 := 40) (pc' := 53) rfl (hb hby d7_40) rfl (teq hc9_6).1 (by decide) (by decide) k) ?_
        show own_R p e below _ T7 (mkF m 53 #[.val (.ref a), .val (.int p1)] [])
        refine own_go (fun t k => XS.aloadN X7.here hx rfl (hb hby d7_53) rfl rfl  k) ?_
        show own_R p e below _ T7 (mkF m 54 #[.val (.ref a), .val (.int p1)] [(.ref a)])
        refine own_go (fun t k => XS.iloadN X7.here hx rfl (hb hby d7_54) rfl  k) ?_
        show own_R p e below _ T7 (mkF m 55 #[.val (.ref a), .val (.int p1)] [(.int p1), (.ref a)])
        refine own_go (fun t k => XS.bipush X7.here hx rfl (hb hby d7_55) k) ?_
        show own_R p e below _ T7 (mkF m 57 #[.val (.ref a), .val (.int p1)] [(.int (13 : Int32)), (.int p1), (.ref a)])
        refine own_go (fun t k => XS.icmpYes X7.here hx rfl (pc0 := 57) (pc' := 64) rfl (hb hby d7_57) rfl (feq hc3_1).2 (by decide) (by decide) k) ?_
        show own_R p e below _ T7 (mkF m 64 #[.val (.ref a), .val (.int p1)] [(.ref a)])
        refine own_go (fun t k => XS.iconst X7.here hx rfl (hb hby d7_64) k) ?_
        show own_R p e below _ T7 (mkF m 65 #[.val (.ref a), .val (.int p1)] [(.int (0 : Int32)), (.ref a)])
        obtain ⟨T13, h13, X13, e13, W13, st13⟩ := putFN X7 hx hZ hown (hw _ (List.mem_of_getElem? (i := 32) rfl)) Via.refl e7 F_afterCarriageReturn_a E_a (Or.inl (hw _ (List.mem_of_getElem? (i := 33) rfl))) (hw _ (List.mem_of_getElem? (i := 15) rfl)) (ty := .boolean) (v' := (.int (0 : Int32))) (by decide) rfl (by decide) (g := (mkF m 65 #[.val (.ref a), .val (.int p1)] [(.int (0 : Int32)), (.ref a)])) rfl rfl (hb hby d7_65)
        obtain ⟨Lh13, X13, N13⟩ := own_hide X13 (Fr.snoc X13 N0 g_a)
        replace Kh := Kh.wr W13 (Or.inl (List.mem_of_getElem? (i := 0) rfl))
        replace F_line_a := Fld.other W13 F_line_a (Or.inr (slot_ne (Or.inl (hw _ (List.mem_of_getElem? (i := 24) rfl))) (Or.inl (hw _ (List.mem_of_getElem? (i := 33) rfl))) (by decide) (t := .int) (t' := .boolean) (by decide) (by decide)))
        replace F_column_a := Fld.other W13 F_column_a (Or.inr (slot_ne (Or.inl (hw _ (List.mem_of_getElem? (i := 26) rfl))) (Or.inl (hw _ (List.mem_of_getElem? (i := 33) rfl))) (by decide) (t := .int) (t' := .boolean) (by decide) (by decide)))
        replace F_afterCarriageReturn_a := Fld.same W13 F_afterCarriageReturn_a
        replace E_a := Exa.wr W13 E_a
        refine own_go (st13) ?_
        show own_R p e below _ T13 (mkF m 68 #[.val (.ref a), .val (.int p1)] [])
        refine own_retV X13 hx Bd.returns (BodyLoose.notSynchronized Bd) (hb hby d7_68) (by decide) (by decide) ?_
        rw [e13]
        exact ⟨_, _, _, rfl, N13, (own_t4 hc3_1 hc9_6 hc16_8).symm, Kh, E_a, F_line_a, F_column_a, F_afterCarriageReturn_a⟩
    · -- pc 9: no
      refine own_go (fun t k => XS.icmpYes X0.here hx rfl (pc0 := 9) (pc' := 37) rfl (hb hby d7_9) rfl (feq hc9_6).2 (by decide) (by decide) k) ?_
      show own_R p e below _ s₁ (mkF m 37 #[.val (.ref a), .val (.int p1)] [])
      refine own_go (fun t k => XS.iloadN X0.here hx rfl (hb hby d7_37) rfl  k) ?_
      show own_R p e below _ s₁ (mkF m 38 #[.val (.ref a), .val (.int p1)] [(.int p1)])
      refine own_go (fun t k => XS.bipush X0.here hx rfl (hb hby d7_38) k) ?_
      show own_R p e below _ s₁ (mkF m 40 #[.val (.ref a), .val (.int p1)] [(.int (10 : Int32)), (.int p1)])
      refine own_go (fun t k => XS.icmpNo X0.here hx rfl (hb hby d7_40) rfl (feq hc9_6).1 k) ?_
      show own_R p e below _ s₁ (mkF m 43 #[.val (.ref a), .val (.int p1)] [])
      refine own_go (fun t k => XS.aloadN X0.here hx rfl (hb hby d7_43) rfl rfl  k) ?_
      show own_R p e below _ s₁ (mkF m 44 #[.val (.ref a), .val (.int p1)] [(.ref a)])
      refine own_go (fun t k => XS.dup X0.here hx rfl (hb hby d7_44) rfl rfl k) ?_
      show own_R p e below _ s₁ (mkF m 45 #[.val (.ref a), .val (.int p1)] [(.ref a), (.ref a)])
      obtain ⟨T14, X14, e14, st14⟩ := getF X0 hx hZ hown (host := "") (Or.inl (hw _ (List.mem_of_getElem? (i := 25) rfl))) Via.refl e0 F_column_a (g := (mkF m 45 #[.val (.ref a), .val (.int p1)] [(.ref a), (.ref a)])) rfl rfl (hb hby d7_45)
      refine own_go (st14) ?_
      show own_R p e below _ T14 (mkF m 48 #[.val (.ref a), .val (.int p1)] [(.int c1), (.ref a)])
      refine own_go (fun t k => XS.iconst X14.here hx rfl (hb hby d7_48) k) ?_
      show own_R p e below _ T14 (mkF m 49 #[.val (.ref a), .val (.int p1)] [(.int (1 : Int32)), (.int c1), (.ref a)])
      refine own_go (fun t k => XS.iadd X14.here hx rfl (hb hby d7_49) rfl k) ?_
      show own_R p e below _ T14 (mkF m 50 #[.val (.ref a), .val (.int p1)] [(.int (c1 + (1 : Int32))), (.ref a)])
      obtain ⟨T15, h15, X15, e15, W15, st15⟩ := putF X14 hx hZ hown (host := "") (Or.inl (hw _ (List.mem_of_getElem? (i := 25) rfl))) Via.refl e14 F_column_a E_a (Or.inl (hw _ (List.mem_of_getElem? (i := 26) rfl))) (hw _ (List.mem_of_getElem? (i := 15) rfl)) (ty := .int) (by decide) rfl rfl (g := (mkF m 50 #[.val (.ref a), .val (.int p1)] [(.int (c1 + (1 : Int32))), (.ref a)])) rfl rfl (hb hby d7_50)
      obtain ⟨Lh15, X15, N15⟩ := own_hide X15 (Fr.snoc X15 N0 g_a)
      replace Kh := Kh.wr W15 (Or.inl (List.mem_of_getElem? (i := 0) rfl))
      replace F_line_a := Fld.other W15 F_line_a (Or.inr (slot_ne (Or.inl (hw _ (List.mem_of_getElem? (i := 24) rfl))) (Or.inl (hw _ (List.mem_of_getElem? (i := 26) rfl))) (by decide) (t := .int) (t' := .int) (by decide) (by decide)))
      replace F_column_a := Fld.same W15 F_column_a
      replace F_afterCarriageReturn_a := Fld.other W15 F_afterCarriageReturn_a (Or.inr (slot_ne (Or.inl (hw _ (List.mem_of_getElem? (i := 33) rfl))) (Or.inl (hw _ (List.mem_of_getElem? (i := 26) rfl))) (by decide) (t := .boolean) (t' := .int) (by decide) (by decide)))
      replace E_a := Exa.wr W15 E_a
      refine own_go (st15) ?_
      show own_R p e below _ T15 (mkF m 53 #[.val (.ref a), .val (.int p1)] [])
      refine own_go (fun t k => XS.aloadN X15.here hx rfl (hb hby d7_53) rfl rfl  k) ?_
      show own_R p e below _ T15 (mkF m 54 #[.val (.ref a), .val (.int p1)] [(.ref a)])
      refine own_go (fun t k => XS.iloadN X15.here hx rfl (hb hby d7_54) rfl  k) ?_
      show own_R p e below _ T15 (mkF m 55 #[.val (.ref a), .val (.int p1)] [(.int p1), (.ref a)])
      refine own_go (fun t k => XS.bipush X15.here hx rfl (hb hby d7_55) k) ?_
      show own_R p e below _ T15 (mkF m 57 #[.val (.ref a), .val (.int p1)] [(.int (13 : Int32)), (.int p1), (.ref a)])
      refine own_go (fun t k => XS.icmpYes X15.here hx rfl (pc0 := 57) (pc' := 64) rfl (hb hby d7_57) rfl (feq hc3_1).2 (by decide) (by decide) k) ?_
      show own_R p e below _ T15 (mkF m 64 #[.val (.ref a), .val (.int p1)] [(.ref a)])
      refine own_go (fun t k => XS.iconst X15.here hx rfl (hb hby d7_64) k) ?_
      show own_R p e below _ T15 (mkF m 65 #[.val (.ref a), .val (.int p1)] [(.int (0 : Int32)), (.ref a)])
      obtain ⟨T16, h16, X16, e16, W16, st16⟩ := putFN X15 hx hZ hown (hw _ (List.mem_of_getElem? (i := 32) rfl)) Via.refl e15 F_afterCarriageReturn_a E_a (Or.inl (hw _ (List.mem_of_getElem? (i := 33) rfl))) (hw _ (List.mem_of_getElem? (i := 15) rfl)) (ty := .boolean) (v' := (.int (0 : Int32))) (by decide) rfl (by decide) (g := (mkF m 65 #[.val (.ref a), .val (.int p1)] [(.int (0 : Int32)), (.ref a)])) rfl rfl (hb hby d7_65)
      obtain ⟨Lh16, X16, N16⟩ := own_hide X16 (Fr.snoc X16 N15 g_a)
      replace Kh := Kh.wr W16 (Or.inl (List.mem_of_getElem? (i := 0) rfl))
      replace F_line_a := Fld.other W16 F_line_a (Or.inr (slot_ne (Or.inl (hw _ (List.mem_of_getElem? (i := 24) rfl))) (Or.inl (hw _ (List.mem_of_getElem? (i := 33) rfl))) (by decide) (t := .int) (t' := .boolean) (by decide) (by decide)))
      replace F_column_a := Fld.other W16 F_column_a (Or.inr (slot_ne (Or.inl (hw _ (List.mem_of_getElem? (i := 26) rfl))) (Or.inl (hw _ (List.mem_of_getElem? (i := 33) rfl))) (by decide) (t := .int) (t' := .boolean) (by decide) (by decide)))
      replace F_afterCarriageReturn_a := Fld.same W16 F_afterCarriageReturn_a
      replace E_a := Exa.wr W16 E_a
      refine own_go (st16) ?_
      show own_R p e below _ T16 (mkF m 68 #[.val (.ref a), .val (.int p1)] [])
      refine own_retV X16 hx Bd.returns (BodyLoose.notSynchronized Bd) (hb hby d7_68) (by decide) (by decide) ?_
      rw [e16]
      exact ⟨_, _, _, rfl, N16, (own_t1 hc3_1 hc9_6).symm, Kh, E_a, F_line_a, F_column_a, F_afterCarriageReturn_a⟩
theorem own_z (c m : Int32) : c = c + (m - m) := by
  have a1 := c_isub m m
  have a2 := c_iadd c (m - m)
  have r1 := rng32 (m - m)
  have r2 := rng32 (c + (m - m))
  have r3 := rng32 c
  rw [← Int32.toInt_inj]; omega
theorem own_b1 {r : Int32} (h : r = (0 : Int32) ∨ r = (1 : Int32)) : nar .boolean r = r := by rcases h with rfl | rfl <;> rfl
theorem d6_0 : decode prog_93_method_3_code 0 = .ok (.iconst (-1), 1) := by decide +kernel
theorem d6_1 : decode prog_93_method_3_code 1 = .ok (.istore 4, 2) := by decide +kernel
theorem d6_3 : decode prog_93_method_3_code 3 = .ok (.iload_n 2, 1) := by decide +kernel
theorem d6_4 : decode prog_93_method_3_code 4 = .ok (.istore 5, 2) := by decide +kernel
theorem d6_6 : decode prog_93_method_3_code 6 = .ok (.iload 5, 2) := by decide +kernel
theorem d6_8 : decode prog_93_method_3_code 8 = .ok (.iload_n 3, 1) := by decide +kernel
theorem d6_9 : decode prog_93_method_3_code 9 = .ok (.if_icmp .ge 95, 3) := by decide +kernel
theorem d6_12 : decode prog_93_method_3_code 12 = .ok (.aload_n 1, 1) := by decide +kernel
theorem d6_13 : decode prog_93_method_3_code 13 = .ok (.iload 5, 2) := by decide +kernel
theorem d6_15 : decode prog_93_method_3_code 15 = .ok (.caload, 1) := by decide +kernel
theorem d6_16 : decode prog_93_method_3_code 16 = .ok (.istore 6, 2) := by decide +kernel
theorem d6_18 : decode prog_93_method_3_code 18 = .ok (.iload 6, 2) := by decide +kernel
theorem d6_20 : decode prog_93_method_3_code 20 = .ok (.bipush 13, 2) := by decide +kernel
theorem d6_22 : decode prog_93_method_3_code 22 = .ok (.if_icmp .gt 76, 3) := by decide +kernel
theorem d6_25 : decode prog_93_method_3_code 25 = .ok (.iload 6, 2) := by decide +kernel
theorem d6_27 : decode prog_93_method_3_code 27 = .ok (.bipush 13, 2) := by decide +kernel
theorem d6_29 : decode prog_93_method_3_code 29 = .ok (.if_icmp .eq 10, 3) := by decide +kernel
theorem d6_32 : decode prog_93_method_3_code 32 = .ok (.iload 6, 2) := by decide +kernel
theorem d6_34 : decode prog_93_method_3_code 34 = .ok (.bipush 10, 2) := by decide +kernel
theorem d6_36 : decode prog_93_method_3_code 36 = .ok (.if_icmp .ne 62, 3) := by decide +kernel
theorem d6_39 : decode prog_93_method_3_code 39 = .ok (.iload 5, 2) := by decide +kernel
theorem d6_41 : decode prog_93_method_3_code 41 = .ok (.iload_n 2, 1) := by decide +kernel
theorem d6_42 : decode prog_93_method_3_code 42 = .ok (.if_icmp .le 22, 3) := by decide +kernel
theorem d6_45 : decode prog_93_method_3_code 45 = .ok (.aload_n 1, 1) := by decide +kernel
theorem d6_46 : decode prog_93_method_3_code 46 = .ok (.iload 5, 2) := by decide +kernel
theorem d6_48 : decode prog_93_method_3_code 48 = .ok (.iconst 1, 1) := by decide +kernel
theorem d6_49 : decode prog_93_method_3_code 49 = .ok (.isub, 1) := by decide +kernel
theorem d6_50 : decode prog_93_method_3_code 50 = .ok (.caload, 1) := by decide +kernel
theorem d6_51 : decode prog_93_method_3_code 51 = .ok (.bipush 13, 2) := by decide +kernel
theorem d6_53 : decode prog_93_method_3_code 53 = .ok (.if_icmp .ne 7, 3) := by decide +kernel
theorem d6_56 : decode prog_93_method_3_code 56 = .ok (.iconst 1, 1) := by decide +kernel
theorem d6_57 : decode prog_93_method_3_code 57 = .ok (.goto 11, 3) := by decide +kernel
theorem d6_60 : decode prog_93_method_3_code 60 = .ok (.iconst 0, 1) := by decide +kernel
theorem d6_61 : decode prog_93_method_3_code 61 = .ok (.goto 7, 3) := by decide +kernel
theorem d6_64 : decode prog_93_method_3_code 64 = .ok (.aload_n 0, 1) := by decide +kernel
theorem d6_65 : decode prog_93_method_3_code 65 = .ok (.getfield 16, 3) := by decide +kernel
theorem d6_68 : decode prog_93_method_3_code 68 = .ok (.istore 7, 2) := by decide +kernel
theorem d6_70 : decode prog_93_method_3_code 70 = .ok (.iload 6, 2) := by decide +kernel
theorem d6_72 : decode prog_93_method_3_code 72 = .ok (.bipush 13, 2) := by decide +kernel
theorem d6_74 : decode prog_93_method_3_code 74 = .ok (.if_icmp .eq 8, 3) := by decide +kernel
theorem d6_77 : decode prog_93_method_3_code 77 = .ok (.iload 7, 2) := by decide +kernel
theorem d6_79 : decode prog_93_method_3_code 79 = .ok (.ifCond .ne 13, 3) := by decide +kernel
theorem d6_82 : decode prog_93_method_3_code 82 = .ok (.aload_n 0, 1) := by decide +kernel
theorem d6_83 : decode prog_93_method_3_code 83 = .ok (.dup, 1) := by decide +kernel
theorem d6_84 : decode prog_93_method_3_code 84 = .ok (.getfield 7, 3) := by decide +kernel
theorem d6_87 : decode prog_93_method_3_code 87 = .ok (.iconst 1, 1) := by decide +kernel
theorem d6_88 : decode prog_93_method_3_code 88 = .ok (.iadd, 1) := by decide +kernel
theorem d6_89 : decode prog_93_method_3_code 89 = .ok (.putfield 7, 3) := by decide +kernel
theorem d6_92 : decode prog_93_method_3_code 92 = .ok (.iload 5, 2) := by decide +kernel
theorem d6_94 : decode prog_93_method_3_code 94 = .ok (.iconst 1, 1) := by decide +kernel
theorem d6_95 : decode prog_93_method_3_code 95 = .ok (.iadd, 1) := by decide +kernel
theorem d6_96 : decode prog_93_method_3_code 96 = .ok (.istore 4, 2) := by decide +kernel
theorem d6_98 : decode prog_93_method_3_code 98 = .ok (.iinc 5 1, 3) := by decide +kernel
theorem d6_101 : decode prog_93_method_3_code 101 = .ok (.goto (-95), 3) := by decide +kernel
theorem d6_104 : decode prog_93_method_3_code 104 = .ok (.aload_n 0, 1) := by decide +kernel
theorem d6_105 : decode prog_93_method_3_code 105 = .ok (.iload 4, 2) := by decide +kernel
theorem d6_107 : decode prog_93_method_3_code 107 = .ok (.ifCond .ge 14, 3) := by decide +kernel
theorem d6_110 : decode prog_93_method_3_code 110 = .ok (.aload_n 0, 1) := by decide +kernel
theorem d6_111 : decode prog_93_method_3_code 111 = .ok (.getfield 13, 3) := by decide +kernel
theorem d6_114 : decode prog_93_method_3_code 114 = .ok (.iload_n 3, 1) := by decide +kernel
theorem d6_115 : decode prog_93_method_3_code 115 = .ok (.iadd, 1) := by decide +kernel
theorem d6_116 : decode prog_93_method_3_code 116 = .ok (.iload_n 2, 1) := by decide +kernel
theorem d6_117 : decode prog_93_method_3_code 117 = .ok (.isub, 1) := by decide +kernel
theorem d6_118 : decode prog_93_method_3_code 118 = .ok (.goto 9, 3) := by decide +kernel
theorem d6_121 : decode prog_93_method_3_code 121 = .ok (.iconst 1, 1) := by decide +kernel
theorem d6_122 : decode prog_93_method_3_code 122 = .ok (.iload_n 3, 1) := by decide +kernel
theorem d6_123 : decode prog_93_method_3_code 123 = .ok (.iadd, 1) := by decide +kernel
theorem d6_124 : decode prog_93_method_3_code 124 = .ok (.iload 4, 2) := by decide +kernel
theorem d6_126 : decode prog_93_method_3_code 126 = .ok (.isub, 1) := by decide +kernel
theorem d6_127 : decode prog_93_method_3_code 127 = .ok (.putfield 13, 3) := by decide +kernel
theorem d6_130 : decode prog_93_method_3_code 130 = .ok (.aload_n 0, 1) := by decide +kernel
theorem d6_131 : decode prog_93_method_3_code 131 = .ok (.iload_n 3, 1) := by decide +kernel
theorem d6_132 : decode prog_93_method_3_code 132 = .ok (.iload_n 2, 1) := by decide +kernel
theorem d6_133 : decode prog_93_method_3_code 133 = .ok (.if_icmp .le 21, 3) := by decide +kernel
theorem d6_136 : decode prog_93_method_3_code 136 = .ok (.aload_n 1, 1) := by decide +kernel
theorem d6_137 : decode prog_93_method_3_code 137 = .ok (.iload_n 3, 1) := by decide +kernel
theorem d6_138 : decode prog_93_method_3_code 138 = .ok (.iconst 1, 1) := by decide +kernel
theorem d6_139 : decode prog_93_method_3_code 139 = .ok (.isub, 1) := by decide +kernel
theorem d6_140 : decode prog_93_method_3_code 140 = .ok (.caload, 1) := by decide +kernel
theorem d6_141 : decode prog_93_method_3_code 141 = .ok (.bipush 13, 2) := by decide +kernel
theorem d6_143 : decode prog_93_method_3_code 143 = .ok (.if_icmp .ne 7, 3) := by decide +kernel
theorem d6_146 : decode prog_93_method_3_code 146 = .ok (.iconst 1, 1) := by decide +kernel
theorem d6_147 : decode prog_93_method_3_code 147 = .ok (.goto 11, 3) := by decide +kernel
theorem d6_150 : decode prog_93_method_3_code 150 = .ok (.iconst 0, 1) := by decide +kernel
theorem d6_151 : decode prog_93_method_3_code 151 = .ok (.goto 7, 3) := by decide +kernel
theorem d6_154 : decode prog_93_method_3_code 154 = .ok (.aload_n 0, 1) := by decide +kernel
theorem d6_155 : decode prog_93_method_3_code 155 = .ok (.getfield 16, 3) := by decide +kernel
theorem d6_158 : decode prog_93_method_3_code 158 = .ok (.putfield 16, 3) := by decide +kernel
theorem d6_161 : decode prog_93_method_3_code 161 = .ok (.return_, 1) := by decide +kernel
theorem ef_car (m : MethodId) (x0 : Addr) (x1 : Addr) (x2 : Int32) (x3 : Int32) : entryFrame m #[(.ref x0), (.ref x1), (.int x2), (.int x3)] 8 = mkF m 0 #[.val (.ref x0), .val (.ref x1), .val (.int x2), .val (.int x3), .unset, .unset, .unset, .unset] [] := by first | (simp [entryFrame, mkF, argsToLocals, Value.category]; done) | rfl
def Qcar (Z : State) (a : Addr) (b : Addr) (m1 : Int32) (t1 : Int32) (l1 : Int32) (c1 : Int32) (r1 : Int32) (kb : ClassId) (v0 : Int32) (v1 : Int32) (v2 : Int32) (v3 : Int32) (h0 : Heap) (n0 : Nat) (v : Option Value) (h : Heap) (L : List Loc) : Prop := ∃ (l2 c2 r2 : Int32), v = none ∧ Fr n0 L ∧ (l2, c2, r2) = own_run ([v0, v1, v2, v3] : List Int32) (t1.toInt - m1.toInt).toNat m1.toInt.toNat (l1, c1, r1) ∧ Keep h0 h [a] ∧ Exa Z h a "com/example/xtd/xtd/model/LineCounter" ∧ Fld Z h a "com/example/xtd/xtd/model/LineCounter" "line" "I" (.int l2) ∧ Fld Z h a "com/example/xtd/xtd/model/LineCounter" "column" "I" (.int c2) ∧ Fld Z h a "com/example/xtd/xtd/model/LineCounter" "afterCarriageReturn" "Z" (.int r2)
set_option maxRecDepth 65536 in
set_option maxHeartbeats 40000000 in
theorem rmcar (l : Launch) (Z : State) (a0 : Array Value) (hw : ∀ d ∈ tables_1, d.before a0 Z = true) (ws : List Jvm.Cond) (a : Addr) (b : Addr) (m1 : Int32) (t1 : Int32) (l1 : Int32) (c1 : Int32) (r1 : Int32) (kb : ClassId) (v0 : Int32) (v1 : Int32) (v2 : Int32) (v3 : Int32) (h0 : Heap) (n0 : Nat) (Z0 : n0 ≤ h0.size) (F_line_a : Fld Z h0 a "com/example/xtd/xtd/model/LineCounter" "line" "I" (.int l1)) (F_column_a : Fld Z h0 a "com/example/xtd/xtd/model/LineCounter" "column" "I" (.int c1)) (F_afterCarriageReturn_a : Fld Z h0 a "com/example/xtd/xtd/model/LineCounter" "afterCarriageReturn" "Z" (.int r1)) (E_a : Exa Z h0 a "com/example/xtd/xtd/model/LineCounter") (V_b : Arv Z h0 b kb .char (4 : Int32) [(.int v0), (.int v1), (.int v2), (.int v3)] (.int (0 : Int32))) (g_a : n0 ≤ a) (ne_a_b : a ≠ b) (hm0 : 0 ≤ m1.toInt) (hmt : m1.toInt ≤ t1.toInt) (ht4 : t1.toInt ≤ 4) (hJ : own_J (l1, c1, r1)) (hrr : r1 = (0 : Int32) ∨ r1 = (1 : Int32)) :
    MetFree l (⟨"com/example/xtd/xtd/model/LineCounter", "count", "([CII)V"⟩ : MethodName) (head1 (Jvm.Cond.code (⟨"com/example/xtd/xtd/model/LineCounter", "count", "([CII)V"⟩ : MethodName) prog_93_method_3_code 8 none :: ws) ({ frames := 0, cells := 0, slots := 0, locals := 0 } : Room)) (fun aS U => aS = #[(.ref a), (.ref b), (.int m1), (.int t1)] ∧ Z.Warmed39 U.vm ∧ U.heap = h0) (fun _ _ _ _ _ => True) (fun _ U o U' => ∃ v L, o = .returned v ∧ Qcar Z a b m1 t1 l1 c1 r1 kb v0 v1 v2 v3 h0 n0 v U'.heap L ∧ FrameEnd U o U' L ({ frames := 0, cells := 0, slots := 0, locals := 0 } : Room).cells ({ frames := 0, cells := 0, slots := 0, locals := 0 } : Room).slots) := by
  refine MetFree.of_bodySF (plainFor_of_name pn_2) hisR ?_
  intro p e s m args below meth c s₁ Bd hml0 hP hK
  obtain ⟨rfl, hZ, hh⟩ := hP
  have hx := Bd.exec
  have hby := Bd.bytes
  have hml : c.maxLocals = 8 := hml0
  have hown : s.vm.findClass "com/example/xtd/xtd/model/LineCounter" = some m.cls := findClass_of_methodNamed Bd.named
  have hnm := (name_of_methodNamed Bd.named Bd.method).1
  have X0 : Stand p l e ({ frames := 0, cells := 0, slots := 0, locals := 0 } : Room) s m #[(.ref a), (.ref b), (.int m1), (.int t1)] below meth c s₁ [] 0 0 := Stand.of_body Bd
  have e0 : s₁.heap = h0 := by rw [← hh, Bd.state]; rfl
  have N0 := Fr.nil n0
  have Kh : Keep h0 h0 [a] := Keep.refl _ _
  suffices H : own_R p e below (own_E s below (Qcar Z a b m1 t1 l1 c1 r1 kb v0 v1 v2 v3 h0 n0) ({ frames := 0, cells := 0, slots := 0, locals := 0 } : Room).cells ({ frames := 0, cells := 0, slots := 0, locals := 0 } : Room).slots) s₁ (mkF m 0 #[.val (.ref a), .val (.ref b), .val (.int m1), .val (.int t1), .unset, .unset, .unset, .unset] []) by
    obtain ⟨t, hst, hrun, v, L, hend, hQ, hF⟩ := H
    exact ⟨t, _, castTop (ef_car m a b m1 t1) hst, hrun, hend, v, L, rfl, hQ, hF⟩
  show own_R p e below _ s₁ (mkF m 0 #[.val (.ref a), .val (.ref b), .val (.int m1), .val (.int t1), .unset, .unset, .unset, .unset] [])
  refine own_go (fun t k => XS.iconst X0.here hx rfl (hb hby d6_0) k) ?_
  show own_R p e below _ s₁ (mkF m 1 #[.val (.ref a), .val (.ref b), .val (.int m1), .val (.int t1), .unset, .unset, .unset, .unset] [(.int (-1 : Int32))])
  refine own_go (fun t k => XS.istore X0.here hx rfl (hb hby d6_1) rfl (l' := #[.val (.ref a), .val (.ref b), .val (.int m1), .val (.int t1), .val (.int (-1 : Int32)), .unset, .unset, .unset]) rfl k) ?_
  show own_R p e below _ s₁ (mkF m 3 #[.val (.ref a), .val (.ref b), .val (.int m1), .val (.int t1), .val (.int (-1 : Int32)), .unset, .unset, .unset] [])
  refine own_go (fun t k => XS.iloadN X0.here hx rfl (hb hby d6_3) rfl  k) ?_
  show own_R p e below _ s₁ (mkF m 4 #[.val (.ref a), .val (.ref b), .val (.int m1), .val (.int t1), .val (.int (-1 : Int32)), .unset, .unset, .unset] [(.int m1)])
  refine own_go (fun t k => XS.istore X0.here hx rfl (hb hby d6_4) rfl (l' := #[.val (.ref a), .val (.ref b), .val (.int m1), .val (.int t1), .val (.int (-1 : Int32)), .val (.int m1), .unset, .unset]) rfl k) ?_
  show own_R p e below _ s₁ (mkF m 6 #[.val (.ref a), .val (.ref b), .val (.int m1), .val (.int t1), .val (.int (-1 : Int32)), .val (.int m1), .unset, .unset] [])
  have loop : ∀ (k : Nat) (T : State) (Lc : List Loc) (hh : Heap) (ee ii ln sc sr : Int32) (s6 s7 : Slot), Stand p l e ({ frames := 0, cells := 0, slots := 0, locals := 0 } : Room) s m #[(.ref a), (.ref b), (.int m1), (.int t1)] below meth c T Lc 0 0 → T.heap = hh → Fr n0 Lc → Keep h0 hh [a] → Exa Z hh a "com/example/xtd/xtd/model/LineCounter" → Fld Z hh a "com/example/xtd/xtd/model/LineCounter" "line" "I" (.int ln) → Fld Z hh a "com/example/xtd/xtd/model/LineCounter" "column" "I" (.int c1) → Fld Z hh a "com/example/xtd/xtd/model/LineCounter" "afterCarriageReturn" "Z" (.int r1) → Arv Z hh b kb .char (4 : Int32) [(.int v0), (.int v1), (.int v2), (.int v3)] (.int (0 : Int32)) → One s6 → One s7 → ii.toInt + k = t1.toInt → m1.toInt ≤ ii.toInt → sc = (if ee < (0 : Int32) then c1 + (ii - m1) else (1 : Int32) + (ii - ee)) → sr = (if m1.toInt < ii.toInt then (if (([v0, v1, v2, v3] : List Int32).getD (ii.toInt - 1).toNat 0) = (13 : Int32) then (1 : Int32) else (0 : Int32)) else r1) → own_J (ln, sc, sr) → own_run ([v0, v1, v2, v3] : List Int32) k ii.toInt.toNat (ln, sc, sr) = own_run ([v0, v1, v2, v3] : List Int32) (t1.toInt - m1.toInt).toNat m1.toInt.toNat (l1, c1, r1) → own_R p e below (own_E s below (Qcar Z a b m1 t1 l1 c1 r1 kb v0 v1 v2 v3 h0 n0) ({ frames := 0, cells := 0, slots := 0, locals := 0 } : Room).cells ({ frames := 0, cells := 0, slots := 0, locals := 0 } : Room).slots) T (mkF m 6 #[.val (.ref a), .val (.ref b), .val (.int m1), .val (.int t1), .val (.int ee), .val (.int ii), s6, s7] []) := by
    clear Kh E_a F_line_a F_column_a F_afterCarriageReturn_a V_b X0 e0
    intro k
    induction k with
    | zero =>
      intro T0 Lc hh ee ii ln sc sr s6 s7 X0 e0 N0 Kh E_a F_line_a F_column_a F_afterCarriageReturn_a V_b o6 o7 hk hmi hsc hsr hJ1 hrun
      have hit : ¬ ii < t1 := by rw [Int32.lt_iff_toInt_lt]; omega
      have hi : ii = t1 := by rw [← Int32.toInt_inj]; omega
      rw [own_run0] at hrun
      show own_R p e below _ T0 (mkF m 6 #[.val (.ref a), .val (.ref b), .val (.int m1), .val (.int t1), .val (.int ee), .val (.int ii), s6, s7] [])
      refine own_go (fun t k => XS.iload X0.here hx rfl (hb hby d6_6) rfl  k) ?_
      show own_R p e below _ T0 (mkF m 8 #[.val (.ref a), .val (.ref b), .val (.int m1), .val (.int t1), .val (.int ee), .val (.int ii), s6, s7] [(.int ii)])
      refine own_go (fun t k => XS.iloadN X0.here hx rfl (hb hby d6_8) rfl  k) ?_
      show own_R p e below _ T0 (mkF m 9 #[.val (.ref a), .val (.ref b), .val (.int m1), .val (.int t1), .val (.int ee), .val (.int ii), s6, s7] [(.int t1), (.int ii)])
      refine own_go (fun t k => XS.icmpYes X0.here hx rfl (pc0 := 9) (pc' := 104) rfl (hb hby d6_9) rfl (flt hit).2.1 (by decide) (by decide) k) ?_
      show own_R p e below _ T0 (mkF m 104 #[.val (.ref a), .val (.ref b), .val (.int m1), .val (.int t1), .val (.int ee), .val (.int ii), s6, s7] [])
      refine own_go (fun t k => XS.aloadN X0.here hx rfl (hb hby d6_104) rfl rfl  k) ?_
      show own_R p e below _ T0 (mkF m 105 #[.val (.ref a), .val (.ref b), .val (.int m1), .val (.int t1), .val (.int ee), .val (.int ii), s6, s7] [(.ref a)])
      refine own_go (fun t k => XS.iload X0.here hx rfl (hb hby d6_105) rfl  k) ?_
      show own_R p e below _ T0 (mkF m 107 #[.val (.ref a), .val (.ref b), .val (.int m1), .val (.int t1), .val (.int ee), .val (.int ii), s6, s7] [(.int ee), (.ref a)])
      by_cases hc107_1 : ee < (0 : Int32)
      · -- pc 107: yes
        refine own_go (fun t k => XS.ifNo X0.here hx rfl (hb hby d6_107) rfl ((if0 _ _).trans (tlt hc107_1).2.1) k) ?_
        show own_R p e below _ T0 (mkF m 110 #[.val (.ref a), .val (.ref b), .val (.int m1), .val (.int t1), .val (.int ee), .val (.int ii), s6, s7] [(.ref a)])
        refine own_go (fun t k => XS.aloadN X0.here hx rfl (hb hby d6_110) rfl rfl  k) ?_
        show own_R p e below _ T0 (mkF m 111 #[.val (.ref a), .val (.ref b), .val (.int m1), .val (.int t1), .val (.int ee), .val (.int ii), s6, s7] [(.ref a), (.ref a)])
        obtain ⟨T2, X2, e2, st2⟩ := getF X0 hx hZ hown (host := "") (Or.inl (hw _ (List.mem_of_getElem? (i := 25) rfl))) Via.refl e0 F_column_a (g := (mkF m 111 #[.val (.ref a), .val (.ref b), .val (.int m1), .val (.int t1), .val (.int ee), .val (.int ii), s6, s7] [(.ref a), (.ref a)])) rfl rfl (hb hby d6_111)
        refine own_go (st2) ?_
        show own_R p e below _ T2 (mkF m 114 #[.val (.ref a), .val (.ref b), .val (.int m1), .val (.int t1), .val (.int ee), .val (.int ii), s6, s7] [(.int c1), (.ref a)])
        refine own_go (fun t k => XS.iloadN X2.here hx rfl (hb hby d6_114) rfl  k) ?_
        show own_R p e below _ T2 (mkF m 115 #[.val (.ref a), .val (.ref b), .val (.int m1), .val (.int t1), .val (.int ee), .val (.int ii), s6, s7] [(.int t1), (.int c1), (.ref a)])
        refine own_go (fun t k => XS.iadd X2.here hx rfl (hb hby d6_115) rfl k) ?_
        show own_R p e below _ T2 (mkF m 116 #[.val (.ref a), .val (.ref b), .val (.int m1), .val (.int t1), .val (.int ee), .val (.int ii), s6, s7] [(.int (c1 + t1)), (.ref a)])
        refine own_go (fun t k => XS.iloadN X2.here hx rfl (hb hby d6_116) rfl  k) ?_
        show own_R p e below _ T2 (mkF m 117 #[.val (.ref a), .val (.ref b), .val (.int m1), .val (.int t1), .val (.int ee), .val (.int ii), s6, s7] [(.int m1), (.int (c1 + t1)), (.ref a)])
        refine own_go (fun t k => XS.isub X2.here hx rfl (hb hby d6_117) rfl k) ?_
        show own_R p e below _ T2 (mkF m 118 #[.val (.ref a), .val (.ref b), .val (.int m1), .val (.int t1), .val (.int ee), .val (.int ii), s6, s7] [(.int ((c1 + t1) - m1)), (.ref a)])
        refine own_go (fun t k => XS.goto X2.here hx rfl (pc0 := 118) (pc' := 127) rfl (hb hby d6_118) (by decide) (by decide) k) ?_
        show own_R p e below _ T2 (mkF m 127 #[.val (.ref a), .val (.ref b), .val (.int m1), .val (.int t1), .val (.int ee), .val (.int ii), s6, s7] [(.int ((c1 + t1) - m1)), (.ref a)])
        obtain ⟨T3, h3, X3, e3, W3, st3⟩ := putF X2 hx hZ hown (host := "") (Or.inl (hw _ (List.mem_of_getElem? (i := 25) rfl))) Via.refl e2 F_column_a E_a (Or.inl (hw _ (List.mem_of_getElem? (i := 26) rfl))) (hw _ (List.mem_of_getElem? (i := 15) rfl)) (ty := .int) (by decide) rfl rfl (g := (mkF m 127 #[.val (.ref a), .val (.ref b), .val (.int m1), .val (.int t1), .val (.int ee), .val (.int ii), s6, s7] [(.int ((c1 + t1) - m1)), (.ref a)])) rfl rfl (hb hby d6_127)
        obtain ⟨Lh3, X3, N3⟩ := own_hide X3 (Fr.snoc X3 N0 g_a)
        replace Kh := Kh.wr W3 (Or.inl (List.mem_of_getElem? (i := 0) rfl))
        replace F_line_a := Fld.other W3 F_line_a (Or.inr (slot_ne (Or.inl (hw _ (List.mem_of_getElem? (i := 24) rfl))) (Or.inl (hw _ (List.mem_of_getElem? (i := 26) rfl))) (by decide) (t := .int) (t' := .int) (by decide) (by decide)))
        replace F_column_a := Fld.same W3 F_column_a
        replace F_afterCarriageReturn_a := Fld.other W3 F_afterCarriageReturn_a (Or.inr (slot_ne (Or.inl (hw _ (List.mem_of_getElem? (i := 33) rfl))) (Or.inl (hw _ (List.mem_of_getElem? (i := 26) rfl))) (by decide) (t := .boolean) (t' := .int) (by decide) (by decide)))
        replace E_a := Exa.wr W3 E_a
        replace V_b := Arv.other V_b W3 (Ne.symm ne_a_b)
        refine own_go (st3) ?_
        show own_R p e below _ T3 (mkF m 130 #[.val (.ref a), .val (.ref b), .val (.int m1), .val (.int t1), .val (.int ee), .val (.int ii), s6, s7] [])
        refine own_go (fun t k => XS.aloadN X3.here hx rfl (hb hby d6_130) rfl rfl  k) ?_
        show own_R p e below _ T3 (mkF m 131 #[.val (.ref a), .val (.ref b), .val (.int m1), .val (.int t1), .val (.int ee), .val (.int ii), s6, s7] [(.ref a)])
        refine own_go (fun t k => XS.iloadN X3.here hx rfl (hb hby d6_131) rfl  k) ?_
        show own_R p e below _ T3 (mkF m 132 #[.val (.ref a), .val (.ref b), .val (.int m1), .val (.int t1), .val (.int ee), .val (.int ii), s6, s7] [(.int t1), (.ref a)])
        refine own_go (fun t k => XS.iloadN X3.here hx rfl (hb hby d6_132) rfl  k) ?_
        show own_R p e below _ T3 (mkF m 133 #[.val (.ref a), .val (.ref b), .val (.int m1), .val (.int t1), .val (.int ee), .val (.int ii), s6, s7] [(.int m1), (.int t1), (.ref a)])
        by_cases hc133_4 : m1 < t1
        · -- pc 133: yes
          refine own_go (fun t k => XS.icmpNo X3.here hx rfl (hb hby d6_133) rfl (tlt hc133_4).2.2.2 k) ?_
          show own_R p e below _ T3 (mkF m 136 #[.val (.ref a), .val (.ref b), .val (.int m1), .val (.int t1), .val (.int ee), .val (.int ii), s6, s7] [(.ref a)])
          refine own_go (fun t k => XS.aloadN X3.here hx rfl (hb hby d6_136) rfl rfl  k) ?_
          show own_R p e below _ T3 (mkF m 137 #[.val (.ref a), .val (.ref b), .val (.int m1), .val (.int t1), .val (.int ee), .val (.int ii), s6, s7] [(.ref b), (.ref a)])
          refine own_go (fun t k => XS.iloadN X3.here hx rfl (hb hby d6_137) rfl  k) ?_
          show own_R p e below _ T3 (mkF m 138 #[.val (.ref a), .val (.ref b), .val (.int m1), .val (.int t1), .val (.int ee), .val (.int ii), s6, s7] [(.int t1), (.ref b), (.ref a)])
          refine own_go (fun t k => XS.iconst X3.here hx rfl (hb hby d6_138) k) ?_
          show own_R p e below _ T3 (mkF m 139 #[.val (.ref a), .val (.ref b), .val (.int m1), .val (.int t1), .val (.int ee), .val (.int ii), s6, s7] [(.int (1 : Int32)), (.int t1), (.ref b), (.ref a)])
          refine own_go (fun t k => XS.isub X3.here hx rfl (hb hby d6_139) rfl k) ?_
          show own_R p e below _ T3 (mkF m 140 #[.val (.ref a), .val (.ref b), .val (.int m1), .val (.int t1), .val (.int ee), .val (.int ii), s6, s7] [(.int (t1 - (1 : Int32))), (.ref b), (.ref a)])
          have hmi2 := own_lti hc133_4 rfl rfl
          have hdn := own_dn (i := t1) (by omega)
          have z0 : (0 : Int32).toInt = 0 := rfl
          have z4 : (4 : Int32).toInt = 4 := rfl
          obtain ⟨cl5, Ar5, q5, S5, Nn5, Hh5, G5⟩ := id V_b
          have hin5 : ¬ ((t1 - (1 : Int32)) < 0 ∨ cl5.slots.size ≤ ((t1 - (1 : Int32))).toNatClampNeg) := inb_of S5 ⟨by rw [Int32.lt_iff_toInt_lt, hdn]; omega, by rw [Int32.lt_iff_toInt_lt, hdn]; omega⟩
          have hat5 : cl5.slots[((t1 - (1 : Int32))).toNatClampNeg]? = some (.int (([v0, v1, v2, v3] : List Int32).getD (t1 - (1 : Int32)).toNatClampNeg 0)) := Has.at Hh5 hin5 (own_getD ([v0, v1, v2, v3] : List Int32) _)
          refine own_go (X3.caload hx (j := (t1 - (1 : Int32))) (v := (.int (([v0, v1, v2, v3] : List Int32).getD (t1 - (1 : Int32)).toNatClampNeg 0))) (by rw [e3]; exact Ar5.1) (State.isArrayOf_alike hZ.alike Ar5.2.1) Ar5.2.2 hin5 hat5 (g := (mkF m 140 #[.val (.ref a), .val (.ref b), .val (.int m1), .val (.int t1), .val (.int ee), .val (.int ii), s6, s7] [(.int (t1 - (1 : Int32))), (.ref b), (.ref a)])) rfl rfl (hb hby d6_140)) ?_
          show own_R p e below _ T3 (mkF m 141 #[.val (.ref a), .val (.ref b), .val (.int m1), .val (.int t1), .val (.int ee), .val (.int ii), s6, s7] [(.int (([v0, v1, v2, v3] : List Int32).getD (t1 - (1 : Int32)).toNatClampNeg 0)), (.ref a)])
          obtain ⟨yy, hyy⟩ : ∃ z, z = (([v0, v1, v2, v3] : List Int32).getD (t1 - (1 : Int32)).toNatClampNeg 0) := ⟨_, rfl⟩
          rw [← hyy]
          show own_R p e below _ T3 (mkF m 141 #[.val (.ref a), .val (.ref b), .val (.int m1), .val (.int t1), .val (.int ee), .val (.int ii), s6, s7] [(.int yy), (.ref a)])
          refine own_go (fun t k => XS.bipush X3.here hx rfl (hb hby d6_141) k) ?_
          show own_R p e below _ T3 (mkF m 143 #[.val (.ref a), .val (.ref b), .val (.int m1), .val (.int t1), .val (.int ee), .val (.int ii), s6, s7] [(.int (13 : Int32)), (.int yy), (.ref a)])
          by_cases hc143_6 : yy = (13 : Int32)
          · -- pc 143: yes
            refine own_go (fun t k => XS.icmpNo X3.here hx rfl (hb hby d6_143) rfl (teq hc143_6).2 k) ?_
            show own_R p e below _ T3 (mkF m 146 #[.val (.ref a), .val (.ref b), .val (.int m1), .val (.int t1), .val (.int ee), .val (.int ii), s6, s7] [(.ref a)])
            refine own_go (fun t k => XS.iconst X3.here hx rfl (hb hby d6_146) k) ?_
            show own_R p e below _ T3 (mkF m 147 #[.val (.ref a), .val (.ref b), .val (.int m1), .val (.int t1), .val (.int ee), .val (.int ii), s6, s7] [(.int (1 : Int32)), (.ref a)])
            refine own_go (fun t k => XS.goto X3.here hx rfl (pc0 := 147) (pc' := 158) rfl (hb hby d6_147) (by decide) (by decide) k) ?_
            show own_R p e below _ T3 (mkF m 158 #[.val (.ref a), .val (.ref b), .val (.int m1), .val (.int t1), .val (.int ee), .val (.int ii), s6, s7] [(.int (1 : Int32)), (.ref a)])
            obtain ⟨T7, h7, X7, e7, W7, st7⟩ := putFN X3 hx hZ hown (hw _ (List.mem_of_getElem? (i := 32) rfl)) Via.refl e3 F_afterCarriageReturn_a E_a (Or.inl (hw _ (List.mem_of_getElem? (i := 33) rfl))) (hw _ (List.mem_of_getElem? (i := 15) rfl)) (ty := .boolean) (v' := (.int (1 : Int32))) (by decide) rfl (by decide) (g := (mkF m 158 #[.val (.ref a), .val (.ref b), .val (.int m1), .val (.int t1), .val (.int ee), .val (.int ii), s6, s7] [(.int (1 : Int32)), (.ref a)])) rfl rfl (hb hby d6_158)
            obtain ⟨Lh7, X7, N7⟩ := own_hide X7 (Fr.snoc X7 N3 g_a)
            replace Kh := Kh.wr W7 (Or.inl (List.mem_of_getElem? (i := 0) rfl))
            replace F_line_a := Fld.other W7 F_line_a (Or.inr (slot_ne (Or.inl (hw _ (List.mem_of_getElem? (i := 24) rfl))) (Or.inl (hw _ (List.mem_of_getElem? (i := 33) rfl))) (by decide) (t := .int) (t' := .boolean) (by decide) (by decide)))
            replace F_column_a := Fld.other W7 F_column_a (Or.inr (slot_ne (Or.inl (hw _ (List.mem_of_getElem? (i := 26) rfl))) (Or.inl (hw _ (List.mem_of_getElem? (i := 33) rfl))) (by decide) (t := .int) (t' := .boolean) (by decide) (by decide)))
            replace F_afterCarriageReturn_a := Fld.same W7 F_afterCarriageReturn_a
            replace E_a := Exa.wr W7 E_a
            replace V_b := Arv.other V_b W7 (Ne.symm ne_a_b)
            refine own_go (st7) ?_
            show own_R p e below _ T7 (mkF m 161 #[.val (.ref a), .val (.ref b), .val (.int m1), .val (.int t1), .val (.int ee), .val (.int ii), s6, s7] [])
            refine own_retV X7 hx Bd.returns (BodyLoose.notSynchronized Bd) (hb hby d6_161) (by decide) (by decide) ?_
            rw [e7]
            have hc2 : ((c1 + t1) - m1) = sc := by
              rw [hsc, hi, if_pos hc107_1]
              exact own_col3 _ _ _
            have hr2 : (1 : Int32) = sr := by
              rw [hsr, hi]
              rw [if_pos hmi2]
              have hy0 : ([v0, v1, v2, v3] : List Int32).getD (t1.toInt - 1).toNat 0 = yy := by rw [hyy, own_nn (by rw [hdn]; omega), hdn]
              rw [hy0, if_pos hc143_6]
            exact ⟨_, _, _, rfl, N7, (by rw [hc2, hr2]; exact hrun), Kh, E_a, F_line_a, F_column_a, F_afterCarriageReturn_a⟩
          · -- pc 143: no
            refine own_go (fun t k => XS.icmpYes X3.here hx rfl (pc0 := 143) (pc' := 150) rfl (hb hby d6_143) rfl (feq hc143_6).2 (by decide) (by decide) k) ?_
            show own_R p e below _ T3 (mkF m 150 #[.val (.ref a), .val (.ref b), .val (.int m1), .val (.int t1), .val (.int ee), .val (.int ii), s6, s7] [(.ref a)])
            refine own_go (fun t k => XS.iconst X3.here hx rfl (hb hby d6_150) k) ?_
            show own_R p e below _ T3 (mkF m 151 #[.val (.ref a), .val (.ref b), .val (.int m1), .val (.int t1), .val (.int ee), .val (.int ii), s6, s7] [(.int (0 : Int32)), (.ref a)])
            refine own_go (fun t k => XS.goto X3.here hx rfl (pc0 := 151) (pc' := 158) rfl (hb hby d6_151) (by decide) (by decide) k) ?_
            show own_R p e below _ T3 (mkF m 158 #[.val (.ref a), .val (.ref b), .val (.int m1), .val (.int t1), .val (.int ee), .val (.int ii), s6, s7] [(.int (0 : Int32)), (.ref a)])
            obtain ⟨T8, h8, X8, e8, W8, st8⟩ := putFN X3 hx hZ hown (hw _ (List.mem_of_getElem? (i := 32) rfl)) Via.refl e3 F_afterCarriageReturn_a E_a (Or.inl (hw _ (List.mem_of_getElem? (i := 33) rfl))) (hw _ (List.mem_of_getElem? (i := 15) rfl)) (ty := .boolean) (v' := (.int (0 : Int32))) (by decide) rfl (by decide) (g := (mkF m 158 #[.val (.ref a), .val (.ref b), .val (.int m1), .val (.int t1), .val (.int ee), .val (.int ii), s6, s7] [(.int (0 : Int32)), (.ref a)])) rfl rfl (hb hby d6_158)
            obtain ⟨Lh8, X8, N8⟩ := own_hide X8 (Fr.snoc X8 N3 g_a)
            replace Kh := Kh.wr W8 (Or.inl (List.mem_of_getElem? (i := 0) rfl))
            replace F_line_a := Fld.other W8 F_line_a (Or.inr (slot_ne (Or.inl (hw _ (List.mem_of_getElem? (i := 24) rfl))) (Or.inl (hw _ (List.mem_of_getElem? (i := 33) rfl))) (by decide) (t := .int) (t' := .boolean) (by decide) (by decide)))
            replace F_column_a := Fld.other W8 F_column_a (Or.inr (slot_ne (Or.inl (hw _ (List.mem_of_getElem? (i := 26) rfl))) (Or.inl (hw _ (List.mem_of_getElem? (i := 33) rfl))) (by decide) (t := .int) (t' := .boolean) (by decide) (by decide)))
            replace F_afterCarriageReturn_a := Fld.same W8 F_afterCarriageReturn_a
            replace E_a := Exa.wr W8 E_a
            replace V_b := Arv.other V_b W8 (Ne.symm ne_a_b)
            refine own_go (st8) ?_
            show own_R p e below _ T8 (mkF m 161 #[.val (.ref a), .val (.ref b), .val (.int m1), .val (.int t1), .val (.int ee), .val (.int ii), s6, s7] [])
            refine own_retV X8 hx Bd.returns (BodyLoose.notSynchronized Bd) (hb hby d6_161) (by decide) (by decide) ?_
            rw [e8]
            have hc2 : ((c1 + t1) - m1) = sc := by
              rw [hsc, hi, if_pos hc107_1]
              exact own_col3 _ _ _
            have hr2 : (0 : Int32) = sr := by
              rw [hsr, hi]
              rw [if_pos hmi2]
              have hy0 : ([v0, v1, v2, v3] : List Int32).getD (t1.toInt - 1).toNat 0 = yy := by rw [hyy, own_nn (by rw [hdn]; omega), hdn]
              rw [hy0, if_neg hc143_6]
            exact ⟨_, _, _, rfl, N8, (by rw [hc2, hr2]; exact hrun), Kh, E_a, F_line_a, F_column_a, F_afterCarriageReturn_a⟩
        · -- pc 133: no
          refine own_go (fun t k => XS.icmpYes X3.here hx rfl (pc0 := 133) (pc' := 154) rfl (hb hby d6_133) rfl (flt hc133_4).2.2.2 (by decide) (by decide) k) ?_
          show own_R p e below _ T3 (mkF m 154 #[.val (.ref a), .val (.ref b), .val (.int m1), .val (.int t1), .val (.int ee), .val (.int ii), s6, s7] [(.ref a)])
          refine own_go (fun t k => XS.aloadN X3.here hx rfl (hb hby d6_154) rfl rfl  k) ?_
          show own_R p e below _ T3 (mkF m 155 #[.val (.ref a), .val (.ref b), .val (.int m1), .val (.int t1), .val (.int ee), .val (.int ii), s6, s7] [(.ref a), (.ref a)])
          obtain ⟨T9, X9, e9, st9⟩ := getF X3 hx hZ hown (host := "") (Or.inl (hw _ (List.mem_of_getElem? (i := 32) rfl))) Via.refl e3 F_afterCarriageReturn_a (g := (mkF m 155 #[.val (.ref a), .val (.ref b), .val (.int m1), .val (.int t1), .val (.int ee), .val (.int ii), s6, s7] [(.ref a), (.ref a)])) rfl rfl (hb hby d6_155)
          refine own_go (st9) ?_
          show own_R p e below _ T9 (mkF m 158 #[.val (.ref a), .val (.ref b), .val (.int m1), .val (.int t1), .val (.int ee), .val (.int ii), s6, s7] [(.int r1), (.ref a)])
          obtain ⟨T10, h10, X10, e10, W10, st10⟩ := putFN X9 hx hZ hown (hw _ (List.mem_of_getElem? (i := 32) rfl)) Via.refl e9 F_afterCarriageReturn_a E_a (Or.inl (hw _ (List.mem_of_getElem? (i := 33) rfl))) (hw _ (List.mem_of_getElem? (i := 15) rfl)) (ty := .boolean) (v' := (.int (nar .boolean r1))) (by decide) rfl (fits_nar_bool _) (g := (mkF m 158 #[.val (.ref a), .val (.ref b), .val (.int m1), .val (.int t1), .val (.int ee), .val (.int ii), s6, s7] [(.int r1), (.ref a)])) rfl rfl (hb hby d6_158)
          obtain ⟨Lh10, X10, N10⟩ := own_hide X10 (Fr.snoc X10 N3 g_a)
          replace Kh := Kh.wr W10 (Or.inl (List.mem_of_getElem? (i := 0) rfl))
          replace F_line_a := Fld.other W10 F_line_a (Or.inr (slot_ne (Or.inl (hw _ (List.mem_of_getElem? (i := 24) rfl))) (Or.inl (hw _ (List.mem_of_getElem? (i := 33) rfl))) (by decide) (t := .int) (t' := .boolean) (by decide) (by decide)))
          replace F_column_a := Fld.other W10 F_column_a (Or.inr (slot_ne (Or.inl (hw _ (List.mem_of_getElem? (i := 26) rfl))) (Or.inl (hw _ (List.mem_of_getElem? (i := 33) rfl))) (by decide) (t := .int) (t' := .boolean) (by decide) (by decide)))
          replace F_afterCarriageReturn_a := Fld.same W10 F_afterCarriageReturn_a
          replace E_a := Exa.wr W10 E_a
          replace V_b := Arv.other V_b W10 (Ne.symm ne_a_b)
          refine own_go (st10) ?_
          show own_R p e below _ T10 (mkF m 161 #[.val (.ref a), .val (.ref b), .val (.int m1), .val (.int t1), .val (.int ee), .val (.int ii), s6, s7] [])
          refine own_retV X10 hx Bd.returns (BodyLoose.notSynchronized Bd) (hb hby d6_161) (by decide) (by decide) ?_
          rw [e10]
          have hc2 : ((c1 + t1) - m1) = sc := by
            rw [hsc, hi, if_pos hc107_1]
            exact own_col3 _ _ _
          have hr2 : (nar .boolean r1) = sr := by
            rw [hsr, hi]
            rw [if_neg (by have := own_nlti hc133_4 rfl rfl; omega)]; exact own_b1 hrr
          exact ⟨_, _, _, rfl, N10, (by rw [hc2, hr2]; exact hrun), Kh, E_a, F_line_a, F_column_a, F_afterCarriageReturn_a⟩
      · -- pc 107: no
        refine own_go (fun t k => XS.ifYes X0.here hx rfl (pc0 := 107) (pc' := 121) rfl (hb hby d6_107) rfl ((if0 _ _).trans (flt hc107_1).2.1) (by decide) (by decide) k) ?_
        show own_R p e below _ T0 (mkF m 121 #[.val (.ref a), .val (.ref b), .val (.int m1), .val (.int t1), .val (.int ee), .val (.int ii), s6, s7] [(.ref a)])
        refine own_go (fun t k => XS.iconst X0.here hx rfl (hb hby d6_121) k) ?_
        show own_R p e below _ T0 (mkF m 122 #[.val (.ref a), .val (.ref b), .val (.int m1), .val (.int t1), .val (.int ee), .val (.int ii), s6, s7] [(.int (1 : Int32)), (.ref a)])
        refine own_go (fun t k => XS.iloadN X0.here hx rfl (hb hby d6_122) rfl  k) ?_
        show own_R p e below _ T0 (mkF m 123 #[.val (.ref a), .val (.ref b), .val (.int m1), .val (.int t1), .val (.int ee), .val (.int ii), s6, s7] [(.int t1), (.int (1 : Int32)), (.ref a)])
        refine own_go (fun t k => XS.iadd X0.here hx rfl (hb hby d6_123) rfl k) ?_
        show own_R p e below _ T0 (mkF m 124 #[.val (.ref a), .val (.ref b), .val (.int m1), .val (.int t1), .val (.int ee), .val (.int ii), s6, s7] [(.int ((1 : Int32) + t1)), (.ref a)])
        refine own_go (fun t k => XS.iload X0.here hx rfl (hb hby d6_124) rfl  k) ?_
        show own_R p e below _ T0 (mkF m 126 #[.val (.ref a), .val (.ref b), .val (.int m1), .val (.int t1), .val (.int ee), .val (.int ii), s6, s7] [(.int ee), (.int ((1 : Int32) + t1)), (.ref a)])
        refine own_go (fun t k => XS.isub X0.here hx rfl (hb hby d6_126) rfl k) ?_
        show own_R p e below _ T0 (mkF m 127 #[.val (.ref a), .val (.ref b), .val (.int m1), .val (.int t1), .val (.int ee), .val (.int ii), s6, s7] [(.int (((1 : Int32) + t1) - ee)), (.ref a)])
        obtain ⟨T11, h11, X11, e11, W11, st11⟩ := putF X0 hx hZ hown (host := "") (Or.inl (hw _ (List.mem_of_getElem? (i := 25) rfl))) Via.refl e0 F_column_a E_a (Or.inl (hw _ (List.mem_of_getElem? (i := 26) rfl))) (hw _ (List.mem_of_getElem? (i := 15) rfl)) (ty := .int) (by decide) rfl rfl (g := (mkF m 127 #[.val (.ref a), .val (.ref b), .val (.int m1), .val (.int t1), .val (.int ee), .val (.int ii), s6, s7] [(.int (((1 : Int32) + t1) - ee)), (.ref a)])) rfl rfl (hb hby d6_127)
        obtain ⟨Lh11, X11, N11⟩ := own_hide X11 (Fr.snoc X11 N0 g_a)
        replace Kh := Kh.wr W11 (Or.inl (List.mem_of_getElem? (i := 0) rfl))
        replace F_line_a := Fld.other W11 F_line_a (Or.inr (slot_ne (Or.inl (hw _ (List.mem_of_getElem? (i := 24) rfl))) (Or.inl (hw _ (List.mem_of_getElem? (i := 26) rfl))) (by decide) (t := .int) (t' := .int) (by decide) (by decide)))
        replace F_column_a := Fld.same W11 F_column_a
        replace F_afterCarriageReturn_a := Fld.other W11 F_afterCarriageReturn_a (Or.inr (slot_ne (Or.inl (hw _ (List.mem_of_getElem? (i := 33) rfl))) (Or.inl (hw _ (List.mem_of_getElem? (i := 26) rfl))) (by decide) (t := .boolean) (t' := .int) (by decide) (by decide)))
        replace E_a := Exa.wr W11 E_a
        replace V_b := Arv.other V_b W11 (Ne.symm ne_a_b)
        refine own_go (st11) ?_
        show own_R p e below _ T11 (mkF m 130 #[.val (.ref a), .val (.ref b), .val (.int m1), .val (.int t1), .val (.int ee), .val (.int ii), s6, s7] [])
        refine own_go (fun t k => XS.aloadN X11.here hx rfl (hb hby d6_130) rfl rfl  k) ?_
        show own_R p e below _ T11 (mkF m 131 #[.val (.ref a), .val (.ref b), .val (.int m1), .val (.int t1), .val (.int ee), .val (.int ii), s6, s7] [(.ref a)])
        refine own_go (fun t k => XS.iloadN X11.here hx rfl (hb hby d6_131) rfl  k) ?_
        show own_R p e below _ T11 (mkF m 132 #[.val (.ref a), .val (.ref b), .val (.int m1), .val (.int t1), .val (.int ee), .val (.int ii), s6, s7] [(.int t1), (.ref a)])
        refine own_go (fun t k => XS.iloadN X11.here hx rfl (hb hby d6_132) rfl  k) ?_
        show own_R p e below _ T11 (mkF m 133 #[.val (.ref a), .val (.ref b), .val (.int m1), .val (.int t1), .val (.int ee), .val (.int ii), s6, s7] [(.int m1), (.int t1), (.ref a)])
        by_cases hc133_12 : m1 < t1
        · -- pc 133: yes
          refine own_go (fun t k => XS.icmpNo X11.here hx rfl (hb hby d6_133) rfl (tlt hc133_12).2.2.2 k) ?_
          show own_R p e below _ T11 (mkF m 136 #[.val (.ref a), .val (.ref b), .val (.int m1), .val (.int t1), .val (.int ee), .val (.int ii), s6, s7] [(.ref a)])
          refine own_go (fun t k => XS.aloadN X11.here hx rfl (hb hby d6_136) rfl rfl  k) ?_
          show own_R p e below _ T11 (mkF m 137 #[.val (.ref a), .val (.ref b), .val (.int m1), .val (.int t1), .val (.int ee), .val (.int ii), s6, s7] [(.ref b), (.ref a)])
          refine own_go (fun t k => XS.iloadN X11.here hx rfl (hb hby d6_137) rfl  k) ?_
          show own_R p e below _ T11 (mkF m 138 #[.val (.ref a), .val (.ref b), .val (.int m1), .val (.int t1), .val (.int ee), .val (.int ii), s6, s7] [(.int t1), (.ref b), (.ref a)])
          refine own_go (fun t k => XS.iconst X11.here hx rfl (hb hby d6_138) k) ?_
          show own_R p e below _ T11 (mkF m 139 #[.val (.ref a), .val (.ref b), .val (.int m1), .val (.int t1), .val (.int ee), .val (.int ii), s6, s7] [(.int (1 : Int32)), (.int t1), (.ref b), (.ref a)])
          refine own_go (fun t k => XS.isub X11.here hx rfl (hb hby d6_139) rfl k) ?_
          show own_R p e below _ T11 (mkF m 140 #[.val (.ref a), .val (.ref b), .val (.int m1), .val (.int t1), .val (.int ee), .val (.int ii), s6, s7] [(.int (t1 - (1 : Int32))), (.ref b), (.ref a)])
          have hmi2 := own_lti hc133_12 rfl rfl
          have hdn := own_dn (i := t1) (by omega)
          have z0 : (0 : Int32).toInt = 0 := rfl
          have z4 : (4 : Int32).toInt = 4 := rfl
          obtain ⟨cl13, Ar13, q13, S13, Nn13, Hh13, G13⟩ := id V_b
          have hin13 : ¬ ((t1 - (1 : Int32)) < 0 ∨ cl13.slots.size ≤ ((t1 - (1 : Int32))).toNatClampNeg) := inb_of S13 ⟨by rw [Int32.lt_iff_toInt_lt, hdn]; omega, by rw [Int32.lt_iff_toInt_lt, hdn]; omega⟩
          have hat13 : cl13.slots[((t1 - (1 : Int32))).toNatClampNeg]? = some (.int (([v0, v1, v2, v3] : List Int32).getD (t1 - (1 : Int32)).toNatClampNeg 0)) := Has.at Hh13 hin13 (own_getD ([v0, v1, v2, v3] : List Int32) _)
          refine own_go (X11.caload hx (j := (t1 - (1 : Int32))) (v := (.int (([v0, v1, v2, v3] : List Int32).getD (t1 - (1 : Int32)).toNatClampNeg 0))) (by rw [e11]; exact Ar13.1) (State.isArrayOf_alike hZ.alike Ar13.2.1) Ar13.2.2 hin13 hat13 (g := (mkF m 140 #[.val (.ref a), .val (.ref b), .val (.int m1), .val (.int t1), .val (.int ee), .val (.int ii), s6, s7] [(.int (t1 - (1 : Int32))), (.ref b), (.ref a)])) rfl rfl (hb hby d6_140)) ?_
          show own_R p e below _ T11 (mkF m 141 #[.val (.ref a), .val (.ref b), .val (.int m1), .val (.int t1), .val (.int ee), .val (.int ii), s6, s7] [(.int (([v0, v1, v2, v3] : List Int32).getD (t1 - (1 : Int32)).toNatClampNeg 0)), (.ref a)])
          obtain ⟨yy, hyy⟩ : ∃ z, z = (([v0, v1, v2, v3] : List Int32).getD (t1 - (1 : Int32)).toNatClampNeg 0) := ⟨_, rfl⟩
          rw [← hyy]
          show own_R p e below _ T11 (mkF m 141 #[.val (.ref a), .val (.ref b), .val (.int m1), .val (.int t1), .val (.int ee), .val (.int ii), s6, s7] [(.int yy), (.ref a)])
          refine own_go (fun t k => XS.bipush X11.here hx rfl (hb hby d6_141) k) ?_
          show own_R p e below _ T11 (mkF m 143 #[.val (.ref a), .val (.ref b), .val (.int m1), .val (.int t1), .val (.int ee), .val (.int ii), s6, s7] [(.int (13 : Int32)), (.int yy), (.ref a)])
          by_cases hc143_14 : yy = (13 : Int32)
          · -- pc 143: yes
            refine own_go (fun t k => XS.icmpNo X11.here hx rfl (hb hby d6_143) rfl (teq hc143_14).2 k) ?_
            show own_R p e below _ T11 (mkF m 146 #[.val (.ref a), .val (.ref b), .val (.int m1), .val (.int t1), .val (.int ee), .val (.int ii), s6, s7] [(.ref a)])
            refine own_go (fun t k => XS.iconst X11.here hx rfl (hb hby d6_146) k) ?_
            show own_R p e below _ T11 (mkF m 147 #[.val (.ref a), .val (.ref b), .val (.int m1), .val (.int t1), .val (.int ee), .val (.int ii), s6, s7] [(.int (1 : Int32)), (.ref a)])
            refine own_go (fun t k => XS.goto X11.here hx rfl (pc0 := 147) (pc' := 158) rfl (hb hby d6_147) (by decide) (by decide) k) ?_
            show own_R p e below _ T11 (mkF m 158 #[.val (.ref a), .val (.ref b), .val (.int m1), .val (.int t1), .val (.int ee), .val (.int ii), s6, s7] [(.int (1 : Int32)), (.ref a)])
            obtain ⟨T15, h15, X15, e15, W15, st15⟩ := putFN X11 hx hZ hown (hw _ (List.mem_of_getElem? (i := 32) rfl)) Via.refl e11 F_afterCarriageReturn_a E_a (Or.inl (hw _ (List.mem_of_getElem? (i := 33) rfl))) (hw _ (List.mem_of_getElem? (i := 15) rfl)) (ty := .boolean) (v' := (.int (1 : Int32))) (by decide) rfl (by decide) (g := (mkF m 158 #[.val (.ref a), .val (.ref b), .val (.int m1), .val (.int t1), .val (.int ee), .val (.int ii), s6, s7] [(.int (1 : Int32)), (.ref a)])) rfl rfl (hb hby d6_158)
            obtain ⟨Lh15, X15, N15⟩ := own_hide X15 (Fr.snoc X15 N11 g_a)
            replace Kh := Kh.wr W15 (Or.inl (List.mem_of_getElem? (i := 0) rfl))
            replace F_line_a := Fld.other W15 F_line_a (Or.inr (slot_ne (Or.inl (hw _ (List.mem_of_getElem? (i := 24) rfl))) (Or.inl (hw _ (List.mem_of_getElem? (i := 33) rfl))) (by decide) (t := .int) (t' := .boolean) (by decide) (by decide)))
            replace F_column_a := Fld.other W15 F_column_a (Or.inr (slot_ne (Or.inl (hw _ (List.mem_of_getElem? (i := 26) rfl))) (Or.inl (hw _ (List.mem_of_getElem? (i := 33) rfl))) (by decide) (t := .int) (t' := .boolean) (by decide) (by decide)))
            replace F_afterCarriageReturn_a := Fld.same W15 F_afterCarriageReturn_a
            replace E_a := Exa.wr W15 E_a
            replace V_b := Arv.other V_b W15 (Ne.symm ne_a_b)
            refine own_go (st15) ?_
            show own_R p e below _ T15 (mkF m 161 #[.val (.ref a), .val (.ref b), .val (.int m1), .val (.int t1), .val (.int ee), .val (.int ii), s6, s7] [])
            refine own_retV X15 hx Bd.returns (BodyLoose.notSynchronized Bd) (hb hby d6_161) (by decide) (by decide) ?_
            rw [e15]
            have hc2 : (((1 : Int32) + t1) - ee) = sc := by
              rw [hsc, hi, if_neg hc107_1]
              exact own_col3 _ _ _
            have hr2 : (1 : Int32) = sr := by
              rw [hsr, hi]
              rw [if_pos hmi2]
              have hy0 : ([v0, v1, v2, v3] : List Int32).getD (t1.toInt - 1).toNat 0 = yy := by rw [hyy, own_nn (by rw [hdn]; omega), hdn]
              rw [hy0, if_pos hc143_14]
            exact ⟨_, _, _, rfl, N15, (by rw [hc2, hr2]; exact hrun), Kh, E_a, F_line_a, F_column_a, F_afterCarriageReturn_a⟩
          · -- pc 143: no
            refine own_go (fun t k => XS.icmpYes X11.here hx rfl (pc0 := 143) (pc' := 150) rfl (hb hby d6_143) rfl (feq hc143_14).2 (by decide) (by decide) k) ?_
            show own_R p e below _ T11 (mkF m 150 #[.val (.ref a), .val (.ref b), .val (.int m1), .val (.int t1), .val (.int ee), .val (.int ii), s6, s7] [(.ref a)])
            refine own_go (fun t k => XS.iconst X11.here hx rfl (hb hby d6_150) k) ?_
            show own_R p e below _ T11 (mkF m 151 #[.val (.ref a), .val (.ref b), .val (.int m1), .val (.int t1), .val (.int ee), .val (.int ii), s6, s7] [(.int (0 : Int32)), (.ref a)])
            refine own_go (fun t k => XS.goto X11.here hx rfl (pc0 := 151) (pc' := 158) rfl (hb hby d6_151) (by decide) (by decide) k) ?_
            show own_R p e below _ T11 (mkF m 158 #[.val (.ref a), .val (.ref b), .val (.int m1), .val (.int t1), .val (.int ee), .val (.int ii), s6, s7] [(.int (0 : Int32)), (.ref a)])
            obtain ⟨T16, h16, X16, e16, W16, st16⟩ := putFN X11 hx hZ hown (hw _ (List.mem_of_getElem? (i := 32) rfl)) Via.refl e11 F_afterCarriageReturn_a E_a (Or.inl (hw _ (List.mem_of_getElem? (i := 33) rfl))) (hw _ (List.mem_of_getElem? (i := 15) rfl)) (ty := .boolean) (v' := (.int (0 : Int32))) (by decide) rfl (by decide) (g := (mkF m 158 #[.val (.ref a), .val (.ref b), .val (.int m1), .val (.int t1), .val (.int ee), .val (.int ii), s6, s7] [(.int (0 : Int32)), (.ref a)])) rfl rfl (hb hby d6_158)
            obtain ⟨Lh16, X16, N16⟩ := own_hide X16 (Fr.snoc X16 N11 g_a)
            replace Kh := Kh.wr W16 (Or.inl (List.mem_of_getElem? (i := 0) rfl))
            replace F_line_a := Fld.other W16 F_line_a (Or.inr (slot_ne (Or.inl (hw _ (List.mem_of_getElem? (i := 24) rfl))) (Or.inl (hw _ (List.mem_of_getElem? (i := 33) rfl))) (by decide) (t := .int) (t' := .boolean) (by decide) (by decide)))
            replace F_column_a := Fld.other W16 F_column_a (Or.inr (slot_ne (Or.inl (hw _ (List.mem_of_getElem? (i := 26) rfl))) (Or.inl (hw _ (List.mem_of_getElem? (i := 33) rfl))) (by decide) (t := .int) (t' := .boolean) (by decide) (by decide)))
            replace F_afterCarriageReturn_a := Fld.same W16 F_afterCarriageReturn_a
            replace E_a := Exa.wr W16 E_a
            replace V_b := Arv.other V_b W16 (Ne.symm ne_a_b)
            refine own_go (st16) ?_
            show own_R p e below _ T16 (mkF m 161 #[.val (.ref a), .val (.ref b), .val (.int m1), .val (.int t1), .val (.int ee), .val (.int ii), s6, s7] [])
            refine own_retV X16 hx Bd.returns (BodyLoose.notSynchronized Bd) (hb hby d6_161) (by decide) (by decide) ?_
            rw [e16]
            have hc2 : (((1 : Int32) + t1) - ee) = sc := by
              rw [hsc, hi, if_neg hc107_1]
              exact own_col3 _ _ _
            have hr2 : (0 : Int32) = sr := by
              rw [hsr, hi]
              rw [if_pos hmi2]
              have hy0 : ([v0, v1, v2, v3] : List Int32).getD (t1.toInt - 1).toNat 0 = yy := by rw [hyy, own_nn (by rw [hdn]; omega), hdn]
              rw [hy0, if_neg hc143_14]
            exact ⟨_, _, _, rfl, N16, (by rw [hc2, hr2]; exact hrun), Kh, E_a, F_line_a, F_column_a, F_afterCarriageReturn_a⟩
        · -- pc 133: no
          refine own_go (fun t k => XS.icmpYes X11.here hx rfl (pc0 := 133) (pc' := 154) rfl (hb hby d6_133) rfl (flt hc133_12).2.2.2 (by decide) (by decide) k) ?_
          show own_R p e below _ T11 (mkF m 154 #[.val (.ref a), .val (.ref b), .val (.int m1), .val (.int t1), .val (.int ee), .val (.int ii), s6, s7] [(.ref a)])
          refine own_go (fun t k => XS.aloadN X11.here hx rfl (hb hby d6_154) rfl rfl  k) ?_
          show own_R p e below _ T11 (mkF m 155 #[.val (.ref a), .val (.ref b), .val (.int m1), .val (.int t1), .val (.int ee), .val (.int ii), s6, s7] [(.ref a), (.ref a)])
          obtain ⟨T17, X17, e17, st17⟩ := getF X11 hx hZ hown (host := "") (Or.inl (hw _ (List.mem_of_getElem? (i := 32) rfl))) Via.refl e11 F_afterCarriageReturn_a (g := (mkF m 155 #[.val (.ref a), .val (.ref b), .val (.int m1), .val (.int t1), .val (.int ee), .val (.int ii), s6, s7] [(.ref a), (.ref a)])) rfl rfl (hb hby d6_155)
          refine own_go (st17) ?_
          show own_R p e below _ T17 (mkF m 158 #[.val (.ref a), .val (.ref b), .val (.int m1), .val (.int t1), .val (.int ee), .val (.int ii), s6, s7] [(.int r1), (.ref a)])
          obtain ⟨T18, h18, X18, e18, W18, st18⟩ := putFN X17 hx hZ hown (hw _ (List.mem_of_getElem? (i := 32) rfl)) Via.refl e17 F_afterCarriageReturn_a E_a (Or.inl (hw _ (List.mem_of_getElem? (i := 33) rfl))) (hw _ (List.mem_of_getElem? (i := 15) rfl)) (ty := .boolean) (v' := (.int (nar .boolean r1))) (by decide) rfl (fits_nar_bool _) (g := (mkF m 158 #[.val (.ref a), .val (.ref b), .val (.int m1), .val (.int t1), .val (.int ee), .val (.int ii), s6, s7] [(.int r1), (.ref a)])) rfl rfl (hb hby d6_158)
          obtain ⟨Lh18, X18, N18⟩ := own_hide X18 (Fr.snoc X18 N11 g_a)
          replace Kh := Kh.wr W18 (Or.inl (List.mem_of_getElem? (i := 0) rfl))
          replace F_line_a := Fld.other W18 F_line_a (Or.inr (slot_ne (Or.inl (hw _ (List.mem_of_getElem? (i := 24) rfl))) (Or.inl (hw _ (List.mem_of_getElem? (i := 33) rfl))) (by decide) (t := .int) (t' := .boolean) (by decide) (by decide)))
          replace F_column_a := Fld.other W18 F_column_a (Or.inr (slot_ne (Or.inl (hw _ (List.mem_of_getElem? (i := 26) rfl))) (Or.inl (hw _ (List.mem_of_getElem? (i := 33) rfl))) (by decide) (t := .int) (t' := .boolean) (by decide) (by decide)))
          replace F_afterCarriageReturn_a := Fld.same W18 F_afterCarriageReturn_a
          replace E_a := Exa.wr W18 E_a
          replace V_b := Arv.other V_b W18 (Ne.symm ne_a_b)
          refine own_go (st18) ?_
          show own_R p e below _ T18 (mkF m 161 #[.val (.ref a), .val (.ref b), .val (.int m1), .val (.int t1), .val (.int ee), .val (.int ii), s6, s7] [])
          refine own_retV X18 hx Bd.returns (BodyLoose.notSynchronized Bd) (hb hby d6_161) (by decide) (by decide) ?_
          rw [e18]
          have hc2 : (((1 : Int32) + t1) - ee) = sc := by
            rw [hsc, hi, if_neg hc107_1]
            exact own_col3 _ _ _
          have hr2 : (nar .boolean r1) = sr := by
            rw [hsr, hi]
            rw [if_neg (by have := own_nlti hc133_12 rfl rfl; omega)]; exact own_b1 hrr
          exact ⟨_, _, _, rfl, N18, (by rw [hc2, hr2]; exact hrun), Kh, E_a, F_line_a, F_column_a, F_afterCarriageReturn_a⟩
    | succ k ih =>
      intro T0 Lc hh ee ii ln sc sr s6 s7 X0 e0 N0 Kh E_a F_line_a F_column_a F_afterCarriageReturn_a V_b o6 o7 hk hmi hsc hsr hJ1 hrun
      have hit : ii < t1 := by rw [Int32.lt_iff_toInt_lt]; omega
      have hup := own_up (i := ii) (by omega) (by omega)
      have z0 : (0 : Int32).toInt = 0 := rfl
      have z4 : (4 : Int32).toInt = 4 := rfl
      have ib : ¬ ii < 0 ∧ ii < (4 : Int32) := by constructor <;> rw [Int32.lt_iff_toInt_lt] <;> omega
      show own_R p e below _ T0 (mkF m 6 #[.val (.ref a), .val (.ref b), .val (.int m1), .val (.int t1), .val (.int ee), .val (.int ii), s6, s7] [])
      refine own_go (fun t k => XS.iload X0.here hx rfl (hb hby d6_6) rfl  k) ?_
      show own_R p e below _ T0 (mkF m 8 #[.val (.ref a), .val (.ref b), .val (.int m1), .val (.int t1), .val (.int ee), .val (.int ii), s6, s7] [(.int ii)])
      refine own_go (fun t k => XS.iloadN X0.here hx rfl (hb hby d6_8) rfl  k) ?_
      show own_R p e below _ T0 (mkF m 9 #[.val (.ref a), .val (.ref b), .val (.int m1), .val (.int t1), .val (.int ee), .val (.int ii), s6, s7] [(.int t1), (.int ii)])
      refine own_go (fun t k => XS.icmpNo X0.here hx rfl (hb hby d6_9) rfl (tlt hit).2.1 k) ?_
      show own_R p e below _ T0 (mkF m 12 #[.val (.ref a), .val (.ref b), .val (.int m1), .val (.int t1), .val (.int ee), .val (.int ii), s6, s7] [])
      refine own_go (fun t k => XS.aloadN X0.here hx rfl (hb hby d6_12) rfl rfl  k) ?_
      show own_R p e below _ T0 (mkF m 13 #[.val (.ref a), .val (.ref b), .val (.int m1), .val (.int t1), .val (.int ee), .val (.int ii), s6, s7] [(.ref b)])
      refine own_go (fun t k => XS.iload X0.here hx rfl (hb hby d6_13) rfl  k) ?_
      show own_R p e below _ T0 (mkF m 15 #[.val (.ref a), .val (.ref b), .val (.int m1), .val (.int t1), .val (.int ee), .val (.int ii), s6, s7] [(.int ii), (.ref b)])
      obtain ⟨cl19, Ar19, q19, S19, Nn19, Hh19, G19⟩ := id V_b
      have hin19 : ¬ (ii < 0 ∨ cl19.slots.size ≤ (ii).toNatClampNeg) := inb_of S19 ⟨ib.1, ib.2⟩
      have hat19 : cl19.slots[(ii).toNatClampNeg]? = some (.int (([v0, v1, v2, v3] : List Int32).getD ii.toNatClampNeg 0)) := Has.at Hh19 hin19 (own_getD ([v0, v1, v2, v3] : List Int32) _)
      refine own_go (X0.caload hx (j := ii) (v := (.int (([v0, v1, v2, v3] : List Int32).getD ii.toNatClampNeg 0))) (by rw [e0]; exact Ar19.1) (State.isArrayOf_alike hZ.alike Ar19.2.1) Ar19.2.2 hin19 hat19 (g := (mkF m 15 #[.val (.ref a), .val (.ref b), .val (.int m1), .val (.int t1), .val (.int ee), .val (.int ii), s6, s7] [(.int ii), (.ref b)])) rfl rfl (hb hby d6_15)) ?_
      show own_R p e below _ T0 (mkF m 16 #[.val (.ref a), .val (.ref b), .val (.int m1), .val (.int t1), .val (.int ee), .val (.int ii), s6, s7] [(.int (([v0, v1, v2, v3] : List Int32).getD ii.toNatClampNeg 0))])
      refine own_go (fun t k => XS.istore X0.here hx rfl (hb hby d6_16) rfl (l' := #[.val (.ref a), .val (.ref b), .val (.int m1), .val (.int t1), .val (.int ee), .val (.int ii), .val (.int (([v0, v1, v2, v3] : List Int32).getD ii.toNatClampNeg 0)), s7]) (own_os6 o6) k) ?_
      show own_R p e below _ T0 (mkF m 18 #[.val (.ref a), .val (.ref b), .val (.int m1), .val (.int t1), .val (.int ee), .val (.int ii), .val (.int (([v0, v1, v2, v3] : List Int32).getD ii.toNatClampNeg 0)), s7] [])
      obtain ⟨xx, hxx⟩ : ∃ z, z = (([v0, v1, v2, v3] : List Int32).getD ii.toNatClampNeg 0) := ⟨_, rfl⟩
      rw [← hxx]
      show own_R p e below _ T0 (mkF m 18 #[.val (.ref a), .val (.ref b), .val (.int m1), .val (.int t1), .val (.int ee), .val (.int ii), .val (.int xx), s7] [])
      refine own_go (fun t k => XS.iload X0.here hx rfl (hb hby d6_18) rfl  k) ?_
      show own_R p e below _ T0 (mkF m 20 #[.val (.ref a), .val (.ref b), .val (.int m1), .val (.int t1), .val (.int ee), .val (.int ii), .val (.int xx), s7] [(.int xx)])
      refine own_go (fun t k => XS.bipush X0.here hx rfl (hb hby d6_20) k) ?_
      show own_R p e below _ T0 (mkF m 22 #[.val (.ref a), .val (.ref b), .val (.int m1), .val (.int t1), .val (.int ee), .val (.int ii), .val (.int xx), s7] [(.int (13 : Int32)), (.int xx)])
      by_cases hc22_20 : (13 : Int32) < xx
      · -- pc 22: yes
        refine own_go (fun t k => XS.icmpYes X0.here hx rfl (pc0 := 22) (pc' := 98) rfl (hb hby d6_22) rfl (tlt hc22_20).2.2.1 (by decide) (by decide) k) ?_
        show own_R p e below _ T0 (mkF m 98 #[.val (.ref a), .val (.ref b), .val (.int m1), .val (.int t1), .val (.int ee), .val (.int ii), .val (.int xx), s7] [])
        refine own_go (fun t k => XS.iinc X0.here hx rfl (hb hby d6_98) rfl (l' := #[.val (.ref a), .val (.ref b), .val (.int m1), .val (.int t1), .val (.int ee), .val (.int (ii + (1 : Int32))), .val (.int xx), s7]) rfl k) ?_
        show own_R p e below _ T0 (mkF m 101 #[.val (.ref a), .val (.ref b), .val (.int m1), .val (.int t1), .val (.int ee), .val (.int (ii + (1 : Int32))), .val (.int xx), s7] [])
        refine own_go (fun t k => XS.goto X0.here hx rfl (pc0 := 101) (pc' := 6) rfl (hb hby d6_101) (by decide) (by decide) k) ?_
        show own_R p e below _ T0 (mkF m 6 #[.val (.ref a), .val (.ref b), .val (.int m1), .val (.int t1), .val (.int ee), .val (.int (ii + (1 : Int32))), .val (.int xx), s7] [])
        -- the turn is made
        have hx0 : ([v0, v1, v2, v3] : List Int32).getD ii.toInt.toNat 0 = xx := hxx.symm
        rw [own_runS, hx0, own_t1 (own_gt hc22_20).1 (own_gt hc22_20).2] at hrun
        refine ih _ _ _ _ _ _ (sc + (1 : Int32)) (0 : Int32) _ _ X0 e0 N0 Kh E_a F_line_a F_column_a F_afterCarriageReturn_a V_b (One.val rfl) o7 (by rw [hup]; omega) (by rw [hup]; omega) ?_ ?_ ?_ (by rw [hup]; have q : (ii.toInt + 1).toNat = ii.toInt.toNat + 1 := (by omega); rw [q]; exact hrun)
        · rw [hsc]; split
          · exact own_col1 _ _ _
          · exact own_col2 _ _
        · rw [if_pos (by rw [hup]; omega), show ((ii + (1 : Int32)).toInt - 1).toNat = ii.toInt.toNat by rw [hup]; omega, hx0, if_neg (own_gt hc22_20).1]
        · exact fun h => absurd rfl h
      · -- pc 22: no
        refine own_go (fun t k => XS.icmpNo X0.here hx rfl (hb hby d6_22) rfl (flt hc22_20).2.2.1 k) ?_
        show own_R p e below _ T0 (mkF m 25 #[.val (.ref a), .val (.ref b), .val (.int m1), .val (.int t1), .val (.int ee), .val (.int ii), .val (.int xx), s7] [])
        refine own_go (fun t k => XS.iload X0.here hx rfl (hb hby d6_25) rfl  k) ?_
        show own_R p e below _ T0 (mkF m 27 #[.val (.ref a), .val (.ref b), .val (.int m1), .val (.int t1), .val (.int ee), .val (.int ii), .val (.int xx), s7] [(.int xx)])
        refine own_go (fun t k => XS.bipush X0.here hx rfl (hb hby d6_27) k) ?_
        show own_R p e below _ T0 (mkF m 29 #[.val (.ref a), .val (.ref b), .val (.int m1), .val (.int t1), .val (.int ee), .val (.int ii), .val (.int xx), s7] [(.int (13 : Int32)), (.int xx)])
        by_cases hc29_21 : xx = (13 : Int32)
        · -- pc 29: yes
          refine own_go (fun t k => XS.icmpYes X0.here hx rfl (pc0 := 29) (pc' := 39) rfl (hb hby d6_29) rfl (teq hc29_21).1 (by decide) (by decide) k) ?_
          show own_R p e below _ T0 (mkF m 39 #[.val (.ref a), .val (.ref b), .val (.int m1), .val (.int t1), .val (.int ee), .val (.int ii), .val (.int xx), s7] [])
          refine own_go (fun t k => XS.iload X0.here hx rfl (hb hby d6_39) rfl  k) ?_
          show own_R p e below _ T0 (mkF m 41 #[.val (.ref a), .val (.ref b), .val (.int m1), .val (.int t1), .val (.int ee), .val (.int ii), .val (.int xx), s7] [(.int ii)])
          refine own_go (fun t k => XS.iloadN X0.here hx rfl (hb hby d6_41) rfl  k) ?_
          show own_R p e below _ T0 (mkF m 42 #[.val (.ref a), .val (.ref b), .val (.int m1), .val (.int t1), .val (.int ee), .val (.int ii), .val (.int xx), s7] [(.int m1), (.int ii)])
          by_cases hc42_22 : m1 < ii
          · -- pc 42: yes
            refine own_go (fun t k => XS.icmpNo X0.here hx rfl (hb hby d6_42) rfl (tlt hc42_22).2.2.2 k) ?_
            show own_R p e below _ T0 (mkF m 45 #[.val (.ref a), .val (.ref b), .val (.int m1), .val (.int t1), .val (.int ee), .val (.int ii), .val (.int xx), s7] [])
            refine own_go (fun t k => XS.aloadN X0.here hx rfl (hb hby d6_45) rfl rfl  k) ?_
            show own_R p e below _ T0 (mkF m 46 #[.val (.ref a), .val (.ref b), .val (.int m1), .val (.int t1), .val (.int ee), .val (.int ii), .val (.int xx), s7] [(.ref b)])
            refine own_go (fun t k => XS.iload X0.here hx rfl (hb hby d6_46) rfl  k) ?_
            show own_R p e below _ T0 (mkF m 48 #[.val (.ref a), .val (.ref b), .val (.int m1), .val (.int t1), .val (.int ee), .val (.int ii), .val (.int xx), s7] [(.int ii), (.ref b)])
            refine own_go (fun t k => XS.iconst X0.here hx rfl (hb hby d6_48) k) ?_
            show own_R p e below _ T0 (mkF m 49 #[.val (.ref a), .val (.ref b), .val (.int m1), .val (.int t1), .val (.int ee), .val (.int ii), .val (.int xx), s7] [(.int (1 : Int32)), (.int ii), (.ref b)])
            refine own_go (fun t k => XS.isub X0.here hx rfl (hb hby d6_49) rfl k) ?_
            show own_R p e below _ T0 (mkF m 50 #[.val (.ref a), .val (.ref b), .val (.int m1), .val (.int t1), .val (.int ee), .val (.int ii), .val (.int xx), s7] [(.int (ii - (1 : Int32))), (.ref b)])
            have hmi2 := own_lti hc42_22 rfl rfl
            have hdn := own_dn (i := ii) (by omega)
            obtain ⟨cl23, Ar23, q23, S23, Nn23, Hh23, G23⟩ := id V_b
            have hin23 : ¬ ((ii - (1 : Int32)) < 0 ∨ cl23.slots.size ≤ ((ii - (1 : Int32))).toNatClampNeg) := inb_of S23 ⟨by rw [Int32.lt_iff_toInt_lt, hdn]; omega, by rw [Int32.lt_iff_toInt_lt, hdn]; omega⟩
            have hat23 : cl23.slots[((ii - (1 : Int32))).toNatClampNeg]? = some (.int (([v0, v1, v2, v3] : List Int32).getD (ii - (1 : Int32)).toNatClampNeg 0)) := Has.at Hh23 hin23 (own_getD ([v0, v1, v2, v3] : List Int32) _)
            refine own_go (X0.caload hx (j := (ii - (1 : Int32))) (v := (.int (([v0, v1, v2, v3] : List Int32).getD (ii - (1 : Int32)).toNatClampNeg 0))) (by rw [e0]; exact Ar23.1) (State.isArrayOf_alike hZ.alike Ar23.2.1) Ar23.2.2 hin23 hat23 (g := (mkF m 50 #[.val (.ref a), .val (.ref b), .val (.int m1), .val (.int t1), .val (.int ee), .val (.int ii), .val (.int xx), s7] [(.int (ii - (1 : Int32))), (.ref b)])) rfl rfl (hb hby d6_50)) ?_
            show own_R p e below _ T0 (mkF m 51 #[.val (.ref a), .val (.ref b), .val (.int m1), .val (.int t1), .val (.int ee), .val (.int ii), .val (.int xx), s7] [(.int (([v0, v1, v2, v3] : List Int32).getD (ii - (1 : Int32)).toNatClampNeg 0))])
            obtain ⟨yy, hyy⟩ : ∃ z, z = (([v0, v1, v2, v3] : List Int32).getD (ii - (1 : Int32)).toNatClampNeg 0) := ⟨_, rfl⟩
            rw [← hyy]
            show own_R p e below _ T0 (mkF m 51 #[.val (.ref a), .val (.ref b), .val (.int m1), .val (.int t1), .val (.int ee), .val (.int ii), .val (.int xx), s7] [(.int yy)])
            refine own_go (fun t k => XS.bipush X0.here hx rfl (hb hby d6_51) k) ?_
            show own_R p e below _ T0 (mkF m 53 #[.val (.ref a), .val (.ref b), .val (.int m1), .val (.int t1), .val (.int ee), .val (.int ii), .val (.int xx), s7] [(.int (13 : Int32)), (.int yy)])
            by_cases hc53_24 : yy = (13 : Int32)
            · -- pc 53: yes
              refine own_go (fun t k => XS.icmpNo X0.here hx rfl (hb hby d6_53) rfl (teq hc53_24).2 k) ?_
              show own_R p e below _ T0 (mkF m 56 #[.val (.ref a), .val (.ref b), .val (.int m1), .val (.int t1), .val (.int ee), .val (.int ii), .val (.int xx), s7] [])
              refine own_go (fun t k => XS.iconst X0.here hx rfl (hb hby d6_56) k) ?_
              show own_R p e below _ T0 (mkF m 57 #[.val (.ref a), .val (.ref b), .val (.int m1), .val (.int t1), .val (.int ee), .val (.int ii), .val (.int xx), s7] [(.int (1 : Int32))])
              refine own_go (fun t k => XS.goto X0.here hx rfl (pc0 := 57) (pc' := 68) rfl (hb hby d6_57) (by decide) (by decide) k) ?_
              show own_R p e below _ T0 (mkF m 68 #[.val (.ref a), .val (.ref b), .val (.int m1), .val (.int t1), .val (.int ee), .val (.int ii), .val (.int xx), s7] [(.int (1 : Int32))])
              refine own_go (fun t k => XS.istore X0.here hx rfl (hb hby d6_68) rfl (l' := #[.val (.ref a), .val (.ref b), .val (.int m1), .val (.int t1), .val (.int ee), .val (.int ii), .val (.int xx), .val (.int (1 : Int32))]) (own_os7 o7) k) ?_
              show own_R p e below _ T0 (mkF m 70 #[.val (.ref a), .val (.ref b), .val (.int m1), .val (.int t1), .val (.int ee), .val (.int ii), .val (.int xx), .val (.int (1 : Int32))] [])
              refine own_go (fun t k => XS.iload X0.here hx rfl (hb hby d6_70) rfl  k) ?_
              show own_R p e below _ T0 (mkF m 72 #[.val (.ref a), .val (.ref b), .val (.int m1), .val (.int t1), .val (.int ee), .val (.int ii), .val (.int xx), .val (.int (1 : Int32))] [(.int xx)])
              refine own_go (fun t k => XS.bipush X0.here hx rfl (hb hby d6_72) k) ?_
              show own_R p e below _ T0 (mkF m 74 #[.val (.ref a), .val (.ref b), .val (.int m1), .val (.int t1), .val (.int ee), .val (.int ii), .val (.int xx), .val (.int (1 : Int32))] [(.int (13 : Int32)), (.int xx)])
              refine own_go (fun t k => XS.icmpYes X0.here hx rfl (pc0 := 74) (pc' := 82) rfl (hb hby d6_74) rfl (teq hc29_21).1 (by decide) (by decide) k) ?_
              show own_R p e below _ T0 (mkF m 82 #[.val (.ref a), .val (.ref b), .val (.int m1), .val (.int t1), .val (.int ee), .val (.int ii), .val (.int xx), .val (.int (1 : Int32))] [])
              refine own_go (fun t k => XS.aloadN X0.here hx rfl (hb hby d6_82) rfl rfl  k) ?_
              show own_R p e below _ T0 (mkF m 83 #[.val (.ref a), .val (.ref b), .val (.int m1), .val (.int t1), .val (.int ee), .val (.int ii), .val (.int xx), .val (.int (1 : Int32))] [(.ref a)])
              refine own_go (fun t k => XS.dup X0.here hx rfl (hb hby d6_83) rfl rfl k) ?_
              show own_R p e below _ T0 (mkF m 84 #[.val (.ref a), .val (.ref b), .val (.int m1), .val (.int t1), .val (.int ee), .val (.int ii), .val (.int xx), .val (.int (1 : Int32))] [(.ref a), (.ref a)])
              obtain ⟨T25, X25, e25, st25⟩ := getF X0 hx hZ hown (host := "") (Or.inl (hw _ (List.mem_of_getElem? (i := 23) rfl))) Via.refl e0 F_line_a (g := (mkF m 84 #[.val (.ref a), .val (.ref b), .val (.int m1), .val (.int t1), .val (.int ee), .val (.int ii), .val (.int xx), .val (.int (1 : Int32))] [(.ref a), (.ref a)])) rfl rfl (hb hby d6_84)
              refine own_go (st25) ?_
              show own_R p e below _ T25 (mkF m 87 #[.val (.ref a), .val (.ref b), .val (.int m1), .val (.int t1), .val (.int ee), .val (.int ii), .val (.int xx), .val (.int (1 : Int32))] [(.int ln), (.ref a)])
              refine own_go (fun t k => XS.iconst X25.here hx rfl (hb hby d6_87) k) ?_
              show own_R p e below _ T25 (mkF m 88 #[.val (.ref a), .val (.ref b), .val (.int m1), .val (.int t1), .val (.int ee), .val (.int ii), .val (.int xx), .val (.int (1 : Int32))] [(.int (1 : Int32)), (.int ln), (.ref a)])
              refine own_go (fun t k => XS.iadd X25.here hx rfl (hb hby d6_88) rfl k) ?_
              show own_R p e below _ T25 (mkF m 89 #[.val (.ref a), .val (.ref b), .val (.int m1), .val (.int t1), .val (.int ee), .val (.int ii), .val (.int xx), .val (.int (1 : Int32))] [(.int (ln + (1 : Int32))), (.ref a)])
              obtain ⟨T26, h26, X26, e26, W26, st26⟩ := putF X25 hx hZ hown (host := "") (Or.inl (hw _ (List.mem_of_getElem? (i := 23) rfl))) Via.refl e25 F_line_a E_a (Or.inl (hw _ (List.mem_of_getElem? (i := 24) rfl))) (hw _ (List.mem_of_getElem? (i := 15) rfl)) (ty := .int) (by decide) rfl rfl (g := (mkF m 89 #[.val (.ref a), .val (.ref b), .val (.int m1), .val (.int t1), .val (.int ee), .val (.int ii), .val (.int xx), .val (.int (1 : Int32))] [(.int (ln + (1 : Int32))), (.ref a)])) rfl rfl (hb hby d6_89)
              obtain ⟨Lh26, X26, N26⟩ := own_hide X26 (Fr.snoc X26 N0 g_a)
              replace Kh := Kh.wr W26 (Or.inl (List.mem_of_getElem? (i := 0) rfl))
              replace F_line_a := Fld.same W26 F_line_a
              replace F_column_a := Fld.other W26 F_column_a (Or.inr (slot_ne (Or.inl (hw _ (List.mem_of_getElem? (i := 26) rfl))) (Or.inl (hw _ (List.mem_of_getElem? (i := 24) rfl))) (by decide) (t := .int) (t' := .int) (by decide) (by decide)))
              replace F_afterCarriageReturn_a := Fld.other W26 F_afterCarriageReturn_a (Or.inr (slot_ne (Or.inl (hw _ (List.mem_of_getElem? (i := 33) rfl))) (Or.inl (hw _ (List.mem_of_getElem? (i := 24) rfl))) (by decide) (t := .boolean) (t' := .int) (by decide) (by decide)))
              replace E_a := Exa.wr W26 E_a
              replace V_b := Arv.other V_b W26 (Ne.symm ne_a_b)
              refine own_go (st26) ?_
              show own_R p e below _ T26 (mkF m 92 #[.val (.ref a), .val (.ref b), .val (.int m1), .val (.int t1), .val (.int ee), .val (.int ii), .val (.int xx), .val (.int (1 : Int32))] [])
              refine own_go (fun t k => XS.iload X26.here hx rfl (hb hby d6_92) rfl  k) ?_
              show own_R p e below _ T26 (mkF m 94 #[.val (.ref a), .val (.ref b), .val (.int m1), .val (.int t1), .val (.int ee), .val (.int ii), .val (.int xx), .val (.int (1 : Int32))] [(.int ii)])
              refine own_go (fun t k => XS.iconst X26.here hx rfl (hb hby d6_94) k) ?_
              show own_R p e below _ T26 (mkF m 95 #[.val (.ref a), .val (.ref b), .val (.int m1), .val (.int t1), .val (.int ee), .val (.int ii), .val (.int xx), .val (.int (1 : Int32))] [(.int (1 : Int32)), (.int ii)])
              refine own_go (fun t k => XS.iadd X26.here hx rfl (hb hby d6_95) rfl k) ?_
              show own_R p e below _ T26 (mkF m 96 #[.val (.ref a), .val (.ref b), .val (.int m1), .val (.int t1), .val (.int ee), .val (.int ii), .val (.int xx), .val (.int (1 : Int32))] [(.int (ii + (1 : Int32)))])
              refine own_go (fun t k => XS.istore X26.here hx rfl (hb hby d6_96) rfl (l' := #[.val (.ref a), .val (.ref b), .val (.int m1), .val (.int t1), .val (.int (ii + (1 : Int32))), .val (.int ii), .val (.int xx), .val (.int (1 : Int32))]) rfl k) ?_
              show own_R p e below _ T26 (mkF m 98 #[.val (.ref a), .val (.ref b), .val (.int m1), .val (.int t1), .val (.int (ii + (1 : Int32))), .val (.int ii), .val (.int xx), .val (.int (1 : Int32))] [])
              refine own_go (fun t k => XS.iinc X26.here hx rfl (hb hby d6_98) rfl (l' := #[.val (.ref a), .val (.ref b), .val (.int m1), .val (.int t1), .val (.int (ii + (1 : Int32))), .val (.int (ii + (1 : Int32))), .val (.int xx), .val (.int (1 : Int32))]) rfl k) ?_
              show own_R p e below _ T26 (mkF m 101 #[.val (.ref a), .val (.ref b), .val (.int m1), .val (.int t1), .val (.int (ii + (1 : Int32))), .val (.int (ii + (1 : Int32))), .val (.int xx), .val (.int (1 : Int32))] [])
              refine own_go (fun t k => XS.goto X26.here hx rfl (pc0 := 101) (pc' := 6) rfl (hb hby d6_101) (by decide) (by decide) k) ?_
              show own_R p e below _ T26 (mkF m 6 #[.val (.ref a), .val (.ref b), .val (.int m1), .val (.int t1), .val (.int (ii + (1 : Int32))), .val (.int (ii + (1 : Int32))), .val (.int xx), .val (.int (1 : Int32))] [])
              -- the turn is made
              have hx0 : ([v0, v1, v2, v3] : List Int32).getD ii.toInt.toNat 0 = xx := hxx.symm
              rw [own_runS, hx0, own_t2 hc29_21] at hrun
              refine ih _ _ _ _ _ _ (1 : Int32) (1 : Int32) _ _ X26 e26 N26 Kh E_a F_line_a F_column_a F_afterCarriageReturn_a V_b (One.val rfl) (One.val rfl) (by rw [hup]; omega) (by rw [hup]; omega) ?_ ?_ ?_ (by rw [hup]; have q : (ii.toInt + 1).toNat = ii.toInt.toNat + 1 := (by omega); rw [q]; exact hrun)
              · rw [if_neg (by rw [Int32.lt_iff_toInt_lt, hup]; omega)]; exact own_col4 ii
              · rw [if_pos (by rw [hup]; omega), show ((ii + (1 : Int32)).toInt - 1).toNat = ii.toInt.toNat by rw [hup]; omega, hx0, if_pos hc29_21]
              · exact fun h => rfl
            · -- pc 53: no
              refine own_go (fun t k => XS.icmpYes X0.here hx rfl (pc0 := 53) (pc' := 60) rfl (hb hby d6_53) rfl (feq hc53_24).2 (by decide) (by decide) k) ?_
              show own_R p e below _ T0 (mkF m 60 #[.val (.ref a), .val (.ref b), .val (.int m1), .val (.int t1), .val (.int ee), .val (.int ii), .val (.int xx), s7] [])
              refine own_go (fun t k => XS.iconst X0.here hx rfl (hb hby d6_60) k) ?_
              show own_R p e below _ T0 (mkF m 61 #[.val (.ref a), .val (.ref b), .val (.int m1), .val (.int t1), .val (.int ee), .val (.int ii), .val (.int xx), s7] [(.int (0 : Int32))])
              refine own_go (fun t k => XS.goto X0.here hx rfl (pc0 := 61) (pc' := 68) rfl (hb hby d6_61) (by decide) (by decide) k) ?_
              show own_R p e below _ T0 (mkF m 68 #[.val (.ref a), .val (.ref b), .val (.int m1), .val (.int t1), .val (.int ee), .val (.int ii), .val (.int xx), s7] [(.int (0 : Int32))])
              refine own_go (fun t k => XS.istore X0.here hx rfl (hb hby d6_68) rfl (l' := #[.val (.ref a), .val (.ref b), .val (.int m1), .val (.int t1), .val (.int ee), .val (.int ii), .val (.int xx), .val (.int (0 : Int32))]) (own_os7 o7) k) ?_
              show own_R p e below _ T0 (mkF m 70 #[.val (.ref a), .val (.ref b), .val (.int m1), .val (.int t1), .val (.int ee), .val (.int ii), .val (.int xx), .val (.int (0 : Int32))] [])
              refine own_go (fun t k => XS.iload X0.here hx rfl (hb hby d6_70) rfl  k) ?_
              show own_R p e below _ T0 (mkF m 72 #[.val (.ref a), .val (.ref b), .val (.int m1), .val (.int t1), .val (.int ee), .val (.int ii), .val (.int xx), .val (.int (0 : Int32))] [(.int xx)])
              refine own_go (fun t k => XS.bipush X0.here hx rfl (hb hby d6_72) k) ?_
              show own_R p e below _ T0 (mkF m 74 #[.val (.ref a), .val (.ref b), .val (.int m1), .val (.int t1), .val (.int ee), .val (.int ii), .val (.int xx), .val (.int (0 : Int32))] [(.int (13 : Int32)), (.int xx)])
              refine own_go (fun t k => XS.icmpYes X0.here hx rfl (pc0 := 74) (pc' := 82) rfl (hb hby d6_74) rfl (teq hc29_21).1 (by decide) (by decide) k) ?_
              show own_R p e below _ T0 (mkF m 82 #[.val (.ref a), .val (.ref b), .val (.int m1), .val (.int t1), .val (.int ee), .val (.int ii), .val (.int xx), .val (.int (0 : Int32))] [])
              refine own_go (fun t k => XS.aloadN X0.here hx rfl (hb hby d6_82) rfl rfl  k) ?_
              show own_R p e below _ T0 (mkF m 83 #[.val (.ref a), .val (.ref b), .val (.int m1), .val (.int t1), .val (.int ee), .val (.int ii), .val (.int xx), .val (.int (0 : Int32))] [(.ref a)])
              refine own_go (fun t k => XS.dup X0.here hx rfl (hb hby d6_83) rfl rfl k) ?_
              show own_R p e below _ T0 (mkF m 84 #[.val (.ref a), .val (.ref b), .val (.int m1), .val (.int t1), .val (.int ee), .val (.int ii), .val (.int xx), .val (.int (0 : Int32))] [(.ref a), (.ref a)])
              obtain ⟨T27, X27, e27, st27⟩ := getF X0 hx hZ hown (host := "") (Or.inl (hw _ (List.mem_of_getElem? (i := 23) rfl))) Via.refl e0 F_line_a (g := (mkF m 84 #[.val (.ref a), .val (.ref b), .val (.int m1), .val (.int t1), .val (.int ee), .val (.int ii), .val (.int xx), .val (.int (0 : Int32))] [(.ref a), (.ref a)])) rfl rfl (hb hby d6_84)
              refine own_go (st27) ?_
              show own_R p e below _ T27 (mkF m 87 #[.val (.ref a), .val (.ref b), .val (.int m1), .val (.int t1), .val (.int ee), .val (.int ii), .val (.int xx), .val (.int (0 : Int32))] [(.int ln), (.ref a)])
              refine own_go (fun t k => XS.iconst X27.here hx rfl (hb hby d6_87) k) ?_
              show own_R p e below _ T27 (mkF m 88 #[.val (.ref a), .val (.ref b), .val (.int m1), .val (.int t1), .val (.int ee), .val (.int ii), .val (.int xx), .val (.int (0 : Int32))] [(.int (1 : Int32)), (.int ln), (.ref a)])
              refine own_go (fun t k => XS.iadd X27.here hx rfl (hb hby d6_88) rfl k) ?_
              show own_R p e below _ T27 (mkF m 89 #[.val (.ref a), .val (.ref b), .val (.int m1), .val (.int t1), .val (.int ee), .val (.int ii), .val (.int xx), .val (.int (0 : Int32))] [(.int (ln + (1 : Int32))), (.ref a)])
              obtain ⟨T28, h28, X28, e28, W28, st28⟩ := putF X27 hx hZ hown (host := "") (Or.inl (hw _ (List.mem_of_getElem? (i := 23) rfl))) Via.refl e27 F_line_a E_a (Or.inl (hw _ (List.mem_of_getElem? (i := 24) rfl))) (hw _ (List.mem_of_getElem? (i := 15) rfl)) (ty := .int) (by decide) rfl rfl (g := (mkF m 89 #[.val (.ref a), .val (.ref b), .val (.int m1), .val (.int t1), .val (.int ee), .val (.int ii), .val (.int xx), .val (.int (0 : Int32))] [(.int (ln + (1 : Int32))), (.ref a)])) rfl rfl (hb hby d6_89)
              obtain ⟨Lh28, X28, N28⟩ := own_hide X28 (Fr.snoc X28 N0 g_a)
              replace Kh := Kh.wr W28 (Or.inl (List.mem_of_getElem? (i := 0) rfl))
              replace F_line_a := Fld.same W28 F_line_a
              replace F_column_a := Fld.other W28 F_column_a (Or.inr (slot_ne (Or.inl (hw _ (List.mem_of_getElem? (i := 26) rfl))) (Or.inl (hw _ (List.mem_of_getElem? (i := 24) rfl))) (by decide) (t := .int) (t' := .int) (by decide) (by decide)))
              replace F_afterCarriageReturn_a := Fld.other W28 F_afterCarriageReturn_a (Or.inr (slot_ne (Or.inl (hw _ (List.mem_of_getElem? (i := 33) rfl))) (Or.inl (hw _ (List.mem_of_getElem? (i := 24) rfl))) (by decide) (t := .boolean) (t' := .int) (by decide) (by decide)))
              replace E_a := Exa.wr W28 E_a
              replace V_b := Arv.other V_b W28 (Ne.symm ne_a_b)
              refine own_go (st28) ?_
              show own_R p e below _ T28 (mkF m 92 #[.val (.ref a), .val (.ref b), .val (.int m1), .val (.int t1), .val (.int ee), .val (.int ii), .val (.int xx), .val (.int (0 : Int32))] [])
              refine own_go (fun t k => XS.iload X28.here hx rfl (hb hby d6_92) rfl  k) ?_
              show own_R p e below _ T28 (mkF m 94 #[.val (.ref a), .val (.ref b), .val (.int m1), .val (.int t1), .val (.int ee), .val (.int ii), .val (.int xx), .val (.int (0 : Int32))] [(.int ii)])
              refine own_go (fun t k => XS.iconst X28.here hx rfl (hb hby d6_94) k) ?_
              show own_R p e below _ T28 (mkF m 95 #[.val (.ref a), .val (.ref b), .val (.int m1), .val (.int t1), .val (.int ee), .val (.int ii), .val (.int xx), .val (.int (0 : Int32))] [(.int (1 : Int32)), (.int ii)])
              refine own_go (fun t k => XS.iadd X28.here hx rfl (hb hby d6_95) rfl k) ?_
              show own_R p e below _ T28 (mkF m 96 #[.val (.ref a), .val (.ref b), .val (.int m1), .val (.int t1), .val (.int ee), .val (.int ii), .val (.int xx), .val (.int (0 : Int32))] [(.int (ii + (1 : Int32)))])
              refine own_go (fun t k => XS.istore X28.here hx rfl (hb hby d6_96) rfl (l' := #[.val (.ref a), .val (.ref b), .val (.int m1), .val (.int t1), .val (.int (ii + (1 : Int32))), .val (.int ii), .val (.int xx), .val (.int (0 : Int32))]) rfl k) ?_
              show own_R p e below _ T28 (mkF m 98 #[.val (.ref a), .val (.ref b), .val (.int m1), .val (.int t1), .val (.int (ii + (1 : Int32))), .val (.int ii), .val (.int xx), .val (.int (0 : Int32))] [])
              refine own_go (fun t k => XS.iinc X28.here hx rfl (hb hby d6_98) rfl (l' := #[.val (.ref a), .val (.ref b), .val (.int m1), .val (.int t1), .val (.int (ii + (1 : Int32))), .val (.int (ii + (1 : Int32))), .val (.int xx), .val (.int (0 : Int32))]) rfl k) ?_
              show own_R p e below _ T28 (mkF m 101 #[.val (.ref a), .val (.ref b), .val (.int m1), .val (.int t1), .val (.int (ii + (1 : Int32))), .val (.int (ii + (1 : Int32))), .val (.int xx), .val (.int (0 : Int32))] [])
              refine own_go (fun t k => XS.goto X28.here hx rfl (pc0 := 101) (pc' := 6) rfl (hb hby d6_101) (by decide) (by decide) k) ?_
              show own_R p e below _ T28 (mkF m 6 #[.val (.ref a), .val (.ref b), .val (.int m1), .val (.int t1), .val (.int (ii + (1 : Int32))), .val (.int (ii + (1 : Int32))), .val (.int xx), .val (.int (0 : Int32))] [])
              -- the turn is made
              have hx0 : ([v0, v1, v2, v3] : List Int32).getD ii.toInt.toNat 0 = xx := hxx.symm
              rw [own_runS, hx0, own_t2 hc29_21] at hrun
              refine ih _ _ _ _ _ _ (1 : Int32) (1 : Int32) _ _ X28 e28 N28 Kh E_a F_line_a F_column_a F_afterCarriageReturn_a V_b (One.val rfl) (One.val rfl) (by rw [hup]; omega) (by rw [hup]; omega) ?_ ?_ ?_ (by rw [hup]; have q : (ii.toInt + 1).toNat = ii.toInt.toNat + 1 := (by omega); rw [q]; exact hrun)
              · rw [if_neg (by rw [Int32.lt_iff_toInt_lt, hup]; omega)]; exact own_col4 ii
              · rw [if_pos (by rw [hup]; omega), show ((ii + (1 : Int32)).toInt - 1).toNat = ii.toInt.toNat by rw [hup]; omega, hx0, if_pos hc29_21]
              · exact fun h => rfl
          · -- pc 42: no
            refine own_go (fun t k => XS.icmpYes X0.here hx rfl (pc0 := 42) (pc' := 64) rfl (hb hby d6_42) rfl (flt hc42_22).2.2.2 (by decide) (by decide) k) ?_
            show own_R p e below _ T0 (mkF m 64 #[.val (.ref a), .val (.ref b), .val (.int m1), .val (.int t1), .val (.int ee), .val (.int ii), .val (.int xx), s7] [])
            refine own_go (fun t k => XS.aloadN X0.here hx rfl (hb hby d6_64) rfl rfl  k) ?_
            show own_R p e below _ T0 (mkF m 65 #[.val (.ref a), .val (.ref b), .val (.int m1), .val (.int t1), .val (.int ee), .val (.int ii), .val (.int xx), s7] [(.ref a)])
            obtain ⟨T29, X29, e29, st29⟩ := getF X0 hx hZ hown (host := "") (Or.inl (hw _ (List.mem_of_getElem? (i := 32) rfl))) Via.refl e0 F_afterCarriageReturn_a (g := (mkF m 65 #[.val (.ref a), .val (.ref b), .val (.int m1), .val (.int t1), .val (.int ee), .val (.int ii), .val (.int xx), s7] [(.ref a)])) rfl rfl (hb hby d6_65)
            refine own_go (st29) ?_
            show own_R p e below _ T29 (mkF m 68 #[.val (.ref a), .val (.ref b), .val (.int m1), .val (.int t1), .val (.int ee), .val (.int ii), .val (.int xx), s7] [(.int r1)])
            refine own_go (fun t k => XS.istore X29.here hx rfl (hb hby d6_68) rfl (l' := #[.val (.ref a), .val (.ref b), .val (.int m1), .val (.int t1), .val (.int ee), .val (.int ii), .val (.int xx), .val (.int r1)]) (own_os7 o7) k) ?_
            show own_R p e below _ T29 (mkF m 70 #[.val (.ref a), .val (.ref b), .val (.int m1), .val (.int t1), .val (.int ee), .val (.int ii), .val (.int xx), .val (.int r1)] [])
            refine own_go (fun t k => XS.iload X29.here hx rfl (hb hby d6_70) rfl  k) ?_
            show own_R p e below _ T29 (mkF m 72 #[.val (.ref a), .val (.ref b), .val (.int m1), .val (.int t1), .val (.int ee), .val (.int ii), .val (.int xx), .val (.int r1)] [(.int xx)])
            refine own_go (fun t k => XS.bipush X29.here hx rfl (hb hby d6_72) k) ?_
            show own_R p e below _ T29 (mkF m 74 #[.val (.ref a), .val (.ref b), .val (.int m1), .val (.int t1), .val (.int ee), .val (.int ii), .val (.int xx), .val (.int r1)] [(.int (13 : Int32)), (.int xx)])
            refine own_go (fun t k => XS.icmpYes X29.here hx rfl (pc0 := 74) (pc' := 82) rfl (hb hby d6_74) rfl (teq hc29_21).1 (by decide) (by decide) k) ?_
            show own_R p e below _ T29 (mkF m 82 #[.val (.ref a), .val (.ref b), .val (.int m1), .val (.int t1), .val (.int ee), .val (.int ii), .val (.int xx), .val (.int r1)] [])
            refine own_go (fun t k => XS.aloadN X29.here hx rfl (hb hby d6_82) rfl rfl  k) ?_
            show own_R p e below _ T29 (mkF m 83 #[.val (.ref a), .val (.ref b), .val (.int m1), .val (.int t1), .val (.int ee), .val (.int ii), .val (.int xx), .val (.int r1)] [(.ref a)])
            refine own_go (fun t k => XS.dup X29.here hx rfl (hb hby d6_83) rfl rfl k) ?_
            show own_R p e below _ T29 (mkF m 84 #[.val (.ref a), .val (.ref b), .val (.int m1), .val (.int t1), .val (.int ee), .val (.int ii), .val (.int xx), .val (.int r1)] [(.ref a), (.ref a)])
            obtain ⟨T30, X30, e30, st30⟩ := getF X29 hx hZ hown (host := "") (Or.inl (hw _ (List.mem_of_getElem? (i := 23) rfl))) Via.refl e29 F_line_a (g := (mkF m 84 #[.val (.ref a), .val (.ref b), .val (.int m1), .val (.int t1), .val (.int ee), .val (.int ii), .val (.int xx), .val (.int r1)] [(.ref a), (.ref a)])) rfl rfl (hb hby d6_84)
            refine own_go (st30) ?_
            show own_R p e below _ T30 (mkF m 87 #[.val (.ref a), .val (.ref b), .val (.int m1), .val (.int t1), .val (.int ee), .val (.int ii), .val (.int xx), .val (.int r1)] [(.int ln), (.ref a)])
            refine own_go (fun t k => XS.iconst X30.here hx rfl (hb hby d6_87) k) ?_
            show own_R p e below _ T30 (mkF m 88 #[.val (.ref a), .val (.ref b), .val (.int m1), .val (.int t1), .val (.int ee), .val (.int ii), .val (.int xx), .val (.int r1)] [(.int (1 : Int32)), (.int ln), (.ref a)])
            refine own_go (fun t k => XS.iadd X30.here hx rfl (hb hby d6_88) rfl k) ?_
            show own_R p e below _ T30 (mkF m 89 #[.val (.ref a), .val (.ref b), .val (.int m1), .val (.int t1), .val (.int ee), .val (.int ii), .val (.int xx), .val (.int r1)] [(.int (ln + (1 : Int32))), (.ref a)])
            obtain ⟨T31, h31, X31, e31, W31, st31⟩ := putF X30 hx hZ hown (host := "") (Or.inl (hw _ (List.mem_of_getElem? (i := 23) rfl))) Via.refl e30 F_line_a E_a (Or.inl (hw _ (List.mem_of_getElem? (i := 24) rfl))) (hw _ (List.mem_of_getElem? (i := 15) rfl)) (ty := .int) (by decide) rfl rfl (g := (mkF m 89 #[.val (.ref a), .val (.ref b), .val (.int m1), .val (.int t1), .val (.int ee), .val (.int ii), .val (.int xx), .val (.int r1)] [(.int (ln + (1 : Int32))), (.ref a)])) rfl rfl (hb hby d6_89)
            obtain ⟨Lh31, X31, N31⟩ := own_hide X31 (Fr.snoc X31 N0 g_a)
            replace Kh := Kh.wr W31 (Or.inl (List.mem_of_getElem? (i := 0) rfl))
            replace F_line_a := Fld.same W31 F_line_a
            replace F_column_a := Fld.other W31 F_column_a (Or.inr (slot_ne (Or.inl (hw _ (List.mem_of_getElem? (i := 26) rfl))) (Or.inl (hw _ (List.mem_of_getElem? (i := 24) rfl))) (by decide) (t := .int) (t' := .int) (by decide) (by decide)))
            replace F_afterCarriageReturn_a := Fld.other W31 F_afterCarriageReturn_a (Or.inr (slot_ne (Or.inl (hw _ (List.mem_of_getElem? (i := 33) rfl))) (Or.inl (hw _ (List.mem_of_getElem? (i := 24) rfl))) (by decide) (t := .boolean) (t' := .int) (by decide) (by decide)))
            replace E_a := Exa.wr W31 E_a
            replace V_b := Arv.other V_b W31 (Ne.symm ne_a_b)
            refine own_go (st31) ?_
            show own_R p e below _ T31 (mkF m 92 #[.val (.ref a), .val (.ref b), .val (.int m1), .val (.int t1), .val (.int ee), .val (.int ii), .val (.int xx), .val (.int r1)] [])
            refine own_go (fun t k => XS.iload X31.here hx rfl (hb hby d6_92) rfl  k) ?_
            show own_R p e below _ T31 (mkF m 94 #[.val (.ref a), .val (.ref b), .val (.int m1), .val (.int t1), .val (.int ee), .val (.int ii), .val (.int xx), .val (.int r1)] [(.int ii)])
            refine own_go (fun t k => XS.iconst X31.here hx rfl (hb hby d6_94) k) ?_
            show own_R p e below _ T31 (mkF m 95 #[.val (.ref a), .val (.ref b), .val (.int m1), .val (.int t1), .val (.int ee), .val (.int ii), .val (.int xx), .val (.int r1)] [(.int (1 : Int32)), (.int ii)])
            refine own_go (fun t k => XS.iadd X31.here hx rfl (hb hby d6_95) rfl k) ?_
            show own_R p e below _ T31 (mkF m 96 #[.val (.ref a), .val (.ref b), .val (.int m1), .val (.int t1), .val (.int ee), .val (.int ii), .val (.int xx), .val (.int r1)] [(.int (ii + (1 : Int32)))])
            refine own_go (fun t k => XS.istore X31.here hx rfl (hb hby d6_96) rfl (l' := #[.val (.ref a), .val (.ref b), .val (.int m1), .val (.int t1), .val (.int (ii + (1 : Int32))), .val (.int ii), .val (.int xx), .val (.int r1)]) rfl k) ?_
            show own_R p e below _ T31 (mkF m 98 #[.val (.ref a), .val (.ref b), .val (.int m1), .val (.int t1), .val (.int (ii + (1 : Int32))), .val (.int ii), .val (.int xx), .val (.int r1)] [])
            refine own_go (fun t k => XS.iinc X31.here hx rfl (hb hby d6_98) rfl (l' := #[.val (.ref a), .val (.ref b), .val (.int m1), .val (.int t1), .val (.int (ii + (1 : Int32))), .val (.int (ii + (1 : Int32))), .val (.int xx), .val (.int r1)]) rfl k) ?_
            show own_R p e below _ T31 (mkF m 101 #[.val (.ref a), .val (.ref b), .val (.int m1), .val (.int t1), .val (.int (ii + (1 : Int32))), .val (.int (ii + (1 : Int32))), .val (.int xx), .val (.int r1)] [])
            refine own_go (fun t k => XS.goto X31.here hx rfl (pc0 := 101) (pc' := 6) rfl (hb hby d6_101) (by decide) (by decide) k) ?_
            show own_R p e below _ T31 (mkF m 6 #[.val (.ref a), .val (.ref b), .val (.int m1), .val (.int t1), .val (.int (ii + (1 : Int32))), .val (.int (ii + (1 : Int32))), .val (.int xx), .val (.int r1)] [])
            -- the turn is made
            have hx0 : ([v0, v1, v2, v3] : List Int32).getD ii.toInt.toNat 0 = xx := hxx.symm
            rw [own_runS, hx0, own_t2 hc29_21] at hrun
            refine ih _ _ _ _ _ _ (1 : Int32) (1 : Int32) _ _ X31 e31 N31 Kh E_a F_line_a F_column_a F_afterCarriageReturn_a V_b (One.val rfl) (One.val rfl) (by rw [hup]; omega) (by rw [hup]; omega) ?_ ?_ ?_ (by rw [hup]; have q : (ii.toInt + 1).toNat = ii.toInt.toNat + 1 := (by omega); rw [q]; exact hrun)
            · rw [if_neg (by rw [Int32.lt_iff_toInt_lt, hup]; omega)]; exact own_col4 ii
            · rw [if_pos (by rw [hup]; omega), show ((ii + (1 : Int32)).toInt - 1).toNat = ii.toInt.toNat by rw [hup]; omega, hx0, if_pos hc29_21]
            · exact fun h => rfl
        · -- pc 29: no
          refine own_go (fun t k => XS.icmpNo X0.here hx rfl (hb hby d6_29) rfl (feq hc29_21).1 k) ?_
          show own_R p e below _ T0 (mkF m 32 #[.val (.ref a), .val (.ref b), .val (.int m1), .val (.int t1), .val (.int ee), .val (.int ii), .val (.int xx), s7] [])
          refine own_go (fun t k => XS.iload X0.here hx rfl (hb hby d6_32) rfl  k) ?_
          show own_R p e below _ T0 (mkF m 34 #[.val (.ref a), .val (.ref b), .val (.int m1), .val (.int t1), .val (.int ee), .val (.int ii), .val (.int xx), s7] [(.int xx)])
          refine own_go (fun t k => XS.bipush X0.here hx rfl (hb hby d6_34) k) ?_
          show own_R p e below _ T0 (mkF m 36 #[.val (.ref a), .val (.ref b), .val (.int m1), .val (.int t1), .val (.int ee), .val (.int ii), .val (.int xx), s7] [(.int (10 : Int32)), (.int xx)])
          by_cases hc36_32 : xx = (10 : Int32)
          · -- pc 36: yes
            refine own_go (fun t k => XS.icmpNo X0.here hx rfl (hb hby d6_36) rfl (teq hc36_32).2 k) ?_
            show own_R p e below _ T0 (mkF m 39 #[.val (.ref a), .val (.ref b), .val (.int m1), .val (.int t1), .val (.int ee), .val (.int ii), .val (.int xx), s7] [])
            refine own_go (fun t k => XS.iload X0.here hx rfl (hb hby d6_39) rfl  k) ?_
            show own_R p e below _ T0 (mkF m 41 #[.val (.ref a), .val (.ref b), .val (.int m1), .val (.int t1), .val (.int ee), .val (.int ii), .val (.int xx), s7] [(.int ii)])
            refine own_go (fun t k => XS.iloadN X0.here hx rfl (hb hby d6_41) rfl  k) ?_
            show own_R p e below _ T0 (mkF m 42 #[.val (.ref a), .val (.ref b), .val (.int m1), .val (.int t1), .val (.int ee), .val (.int ii), .val (.int xx), s7] [(.int m1), (.int ii)])
            by_cases hc42_33 : m1 < ii
            · -- pc 42: yes
              refine own_go (fun t k => XS.icmpNo X0.here hx rfl (hb hby d6_42) rfl (tlt hc42_33).2.2.2 k) ?_
              show own_R p e below _ T0 (mkF m 45 #[.val (.ref a), .val (.ref b), .val (.int m1), .val (.int t1), .val (.int ee), .val (.int ii), .val (.int xx), s7] [])
              refine own_go (fun t k => XS.aloadN X0.here hx rfl (hb hby d6_45) rfl rfl  k) ?_
              show own_R p e below _ T0 (mkF m 46 #[.val (.ref a), .val (.ref b), .val (.int m1), .val (.int t1), .val (.int ee), .val (.int ii), .val (.int xx), s7] [(.ref b)])
              refine own_go (fun t k => XS.iload X0.here hx rfl (hb hby d6_46) rfl  k) ?_
              show own_R p e below _ T0 (mkF m 48 #[.val (.ref a), .val (.ref b), .val (.int m1), .val (.int t1), .val (.int ee), .val (.int ii), .val (.int xx), s7] [(.int ii), (.ref b)])
              refine own_go (fun t k => XS.iconst X0.here hx rfl (hb hby d6_48) k) ?_
              show own_R p e below _ T0 (mkF m 49 #[.val (.ref a), .val (.ref b), .val (.int m1), .val (.int t1), .val (.int ee), .val (.int ii), .val (.int xx), s7] [(.int (1 : Int32)), (.int ii), (.ref b)])
              refine own_go (fun t k => XS.isub X0.here hx rfl (hb hby d6_49) rfl k) ?_
              show own_R p e below _ T0 (mkF m 50 #[.val (.ref a), .val (.ref b), .val (.int m1), .val (.int t1), .val (.int ee), .val (.int ii), .val (.int xx), s7] [(.int (ii - (1 : Int32))), (.ref b)])
              have hmi2 := own_lti hc42_33 rfl rfl
              have hdn := own_dn (i := ii) (by omega)
              obtain ⟨cl34, Ar34, q34, S34, Nn34, Hh34, G34⟩ := id V_b
              have hin34 : ¬ ((ii - (1 : Int32)) < 0 ∨ cl34.slots.size ≤ ((ii - (1 : Int32))).toNatClampNeg) := inb_of S34 ⟨by rw [Int32.lt_iff_toInt_lt, hdn]; omega, by rw [Int32.lt_iff_toInt_lt, hdn]; omega⟩
              have hat34 : cl34.slots[((ii - (1 : Int32))).toNatClampNeg]? = some (.int (([v0, v1, v2, v3] : List Int32).getD (ii - (1 : Int32)).toNatClampNeg 0)) := Has.at Hh34 hin34 (own_getD ([v0, v1, v2, v3] : List Int32) _)
              refine own_go (X0.caload hx (j := (ii - (1 : Int32))) (v := (.int (([v0, v1, v2, v3] : List Int32).getD (ii - (1 : Int32)).toNatClampNeg 0))) (by rw [e0]; exact Ar34.1) (State.isArrayOf_alike hZ.alike Ar34.2.1) Ar34.2.2 hin34 hat34 (g := (mkF m 50 #[.val (.ref a), .val (.ref b), .val (.int m1), .val (.int t1), .val (.int ee), .val (.int ii), .val (.int xx), s7] [(.int (ii - (1 : Int32))), (.ref b)])) rfl rfl (hb hby d6_50)) ?_
              show own_R p e below _ T0 (mkF m 51 #[.val (.ref a), .val (.ref b), .val (.int m1), .val (.int t1), .val (.int ee), .val (.int ii), .val (.int xx), s7] [(.int (([v0, v1, v2, v3] : List Int32).getD (ii - (1 : Int32)).toNatClampNeg 0))])
              obtain ⟨yy, hyy⟩ : ∃ z, z = (([v0, v1, v2, v3] : List Int32).getD (ii - (1 : Int32)).toNatClampNeg 0) := ⟨_, rfl⟩
              rw [← hyy]
              show own_R p e below _ T0 (mkF m 51 #[.val (.ref a), .val (.ref b), .val (.int m1), .val (.int t1), .val (.int ee), .val (.int ii), .val (.int xx), s7] [(.int yy)])
              refine own_go (fun t k => XS.bipush X0.here hx rfl (hb hby d6_51) k) ?_
              show own_R p e below _ T0 (mkF m 53 #[.val (.ref a), .val (.ref b), .val (.int m1), .val (.int t1), .val (.int ee), .val (.int ii), .val (.int xx), s7] [(.int (13 : Int32)), (.int yy)])
              by_cases hc53_35 : yy = (13 : Int32)
              · -- pc 53: yes
                refine own_go (fun t k => XS.icmpNo X0.here hx rfl (hb hby d6_53) rfl (teq hc53_35).2 k) ?_
                show own_R p e below _ T0 (mkF m 56 #[.val (.ref a), .val (.ref b), .val (.int m1), .val (.int t1), .val (.int ee), .val (.int ii), .val (.int xx), s7] [])
                refine own_go (fun t k => XS.iconst X0.here hx rfl (hb hby d6_56) k) ?_
                show own_R p e below _ T0 (mkF m 57 #[.val (.ref a), .val (.ref b), .val (.int m1), .val (.int t1), .val (.int ee), .val (.int ii), .val (.int xx), s7] [(.int (1 : Int32))])
                refine own_go (fun t k => XS.goto X0.here hx rfl (pc0 := 57) (pc' := 68) rfl (hb hby d6_57) (by decide) (by decide) k) ?_
                show own_R p e below _ T0 (mkF m 68 #[.val (.ref a), .val (.ref b), .val (.int m1), .val (.int t1), .val (.int ee), .val (.int ii), .val (.int xx), s7] [(.int (1 : Int32))])
                refine own_go (fun t k => XS.istore X0.here hx rfl (hb hby d6_68) rfl (l' := #[.val (.ref a), .val (.ref b), .val (.int m1), .val (.int t1), .val (.int ee), .val (.int ii), .val (.int xx), .val (.int (1 : Int32))]) (own_os7 o7) k) ?_
                show own_R p e below _ T0 (mkF m 70 #[.val (.ref a), .val (.ref b), .val (.int m1), .val (.int t1), .val (.int ee), .val (.int ii), .val (.int xx), .val (.int (1 : Int32))] [])
                refine own_go (fun t k => XS.iload X0.here hx rfl (hb hby d6_70) rfl  k) ?_
                show own_R p e below _ T0 (mkF m 72 #[.val (.ref a), .val (.ref b), .val (.int m1), .val (.int t1), .val (.int ee), .val (.int ii), .val (.int xx), .val (.int (1 : Int32))] [(.int xx)])
                refine own_go (fun t k => XS.bipush X0.here hx rfl (hb hby d6_72) k) ?_
                show own_R p e below _ T0 (mkF m 74 #[.val (.ref a), .val (.ref b), .val (.int m1), .val (.int t1), .val (.int ee), .val (.int ii), .val (.int xx), .val (.int (1 : Int32))] [(.int (13 : Int32)), (.int xx)])
                refine own_go (fun t k => XS.icmpNo X0.here hx rfl (hb hby d6_74) rfl (feq hc29_21).1 k) ?_
                show own_R p e below _ T0 (mkF m 77 #[.val (.ref a), .val (.ref b), .val (.int m1), .val (.int t1), .val (.int ee), .val (.int ii), .val (.int xx), .val (.int (1 : Int32))] [])
                refine own_go (fun t k => XS.iload X0.here hx rfl (hb hby d6_77) rfl  k) ?_
                show own_R p e below _ T0 (mkF m 79 #[.val (.ref a), .val (.ref b), .val (.int m1), .val (.int t1), .val (.int ee), .val (.int ii), .val (.int xx), .val (.int (1 : Int32))] [(.int (1 : Int32))])
                refine own_go (fun t k => XS.ifYes X0.here hx rfl (pc0 := 79) (pc' := 92) rfl (hb hby d6_79) rfl ((if0 _ _).trans (feq (by decide : ¬ ((1 : Int32) = (0 : Int32)))).2) (by decide) (by decide) k) ?_
                show own_R p e below _ T0 (mkF m 92 #[.val (.ref a), .val (.ref b), .val (.int m1), .val (.int t1), .val (.int ee), .val (.int ii), .val (.int xx), .val (.int (1 : Int32))] [])
                refine own_go (fun t k => XS.iload X0.here hx rfl (hb hby d6_92) rfl  k) ?_
                show own_R p e below _ T0 (mkF m 94 #[.val (.ref a), .val (.ref b), .val (.int m1), .val (.int t1), .val (.int ee), .val (.int ii), .val (.int xx), .val (.int (1 : Int32))] [(.int ii)])
                refine own_go (fun t k => XS.iconst X0.here hx rfl (hb hby d6_94) k) ?_
                show own_R p e below _ T0 (mkF m 95 #[.val (.ref a), .val (.ref b), .val (.int m1), .val (.int t1), .val (.int ee), .val (.int ii), .val (.int xx), .val (.int (1 : Int32))] [(.int (1 : Int32)), (.int ii)])
                refine own_go (fun t k => XS.iadd X0.here hx rfl (hb hby d6_95) rfl k) ?_
                show own_R p e below _ T0 (mkF m 96 #[.val (.ref a), .val (.ref b), .val (.int m1), .val (.int t1), .val (.int ee), .val (.int ii), .val (.int xx), .val (.int (1 : Int32))] [(.int (ii + (1 : Int32)))])
                refine own_go (fun t k => XS.istore X0.here hx rfl (hb hby d6_96) rfl (l' := #[.val (.ref a), .val (.ref b), .val (.int m1), .val (.int t1), .val (.int (ii + (1 : Int32))), .val (.int ii), .val (.int xx), .val (.int (1 : Int32))]) rfl k) ?_
                show own_R p e below _ T0 (mkF m 98 #[.val (.ref a), .val (.ref b), .val (.int m1), .val (.int t1), .val (.int (ii + (1 : Int32))), .val (.int ii), .val (.int xx), .val (.int (1 : Int32))] [])
                refine own_go (fun t k => XS.iinc X0.here hx rfl (hb hby d6_98) rfl (l' := #[.val (.ref a), .val (.ref b), .val (.int m1), .val (.int t1), .val (.int (ii + (1 : Int32))), .val (.int (ii + (1 : Int32))), .val (.int xx), .val (.int (1 : Int32))]) rfl k) ?_
                show own_R p e below _ T0 (mkF m 101 #[.val (.ref a), .val (.ref b), .val (.int m1), .val (.int t1), .val (.int (ii + (1 : Int32))), .val (.int (ii + (1 : Int32))), .val (.int xx), .val (.int (1 : Int32))] [])
                refine own_go (fun t k => XS.goto X0.here hx rfl (pc0 := 101) (pc' := 6) rfl (hb hby d6_101) (by decide) (by decide) k) ?_
                show own_R p e below _ T0 (mkF m 6 #[.val (.ref a), .val (.ref b), .val (.int m1), .val (.int t1), .val (.int (ii + (1 : Int32))), .val (.int (ii + (1 : Int32))), .val (.int xx), .val (.int (1 : Int32))] [])
                -- the turn is made
                have hx0 : ([v0, v1, v2, v3] : List Int32).getD ii.toInt.toNat 0 = xx := hxx.symm
                have hb : sr = (1 : Int32) := by
                  rw [hsr]
                  rw [if_pos (own_lti hc42_33 rfl rfl)]
                  have hy0 : ([v0, v1, v2, v3] : List Int32).getD (ii.toInt - 1).toNat 0 = yy := by rw [hyy, own_nn (by rw [hdn]; omega), hdn]
                  rw [hy0, if_pos hc53_35]
                have hs1 : sc = (1 : Int32) := hJ1 (show ¬ sr = (0 : Int32) from (by rw [hb]; decide))
                rw [own_runS, hx0, own_t4 hc29_21 hc36_32 (by rw [hb]; decide)] at hrun
                refine ih _ _ _ _ _ _ sc (0 : Int32) _ _ X0 e0 N0 Kh E_a F_line_a F_column_a F_afterCarriageReturn_a V_b (One.val rfl) (One.val rfl) (by rw [hup]; omega) (by rw [hup]; omega) ?_ ?_ ?_ (by rw [hup]; have q : (ii.toInt + 1).toNat = ii.toInt.toNat + 1 := (by omega); rw [q]; exact hrun)
                · rw [if_neg (by rw [Int32.lt_iff_toInt_lt, hup]; omega)]; rw [hs1]; exact own_col4 ii
                · rw [if_pos (by rw [hup]; omega), show ((ii + (1 : Int32)).toInt - 1).toNat = ii.toInt.toNat by rw [hup]; omega, hx0, if_neg hc29_21]
                · exact fun h => absurd rfl h
              · -- pc 53: no
                refine own_go (fun t k => XS.icmpYes X0.here hx rfl (pc0 := 53) (pc' := 60) rfl (hb hby d6_53) rfl (feq hc53_35).2 (by decide) (by decide) k) ?_
                show own_R p e below _ T0 (mkF m 60 #[.val (.ref a), .val (.ref b), .val (.int m1), .val (.int t1), .val (.int ee), .val (.int ii), .val (.int xx), s7] [])
                refine own_go (fun t k => XS.iconst X0.here hx rfl (hb hby d6_60) k) ?_
                show own_R p e below _ T0 (mkF m 61 #[.val (.ref a), .val (.ref b), .val (.int m1), .val (.int t1), .val (.int ee), .val (.int ii), .val (.int xx), s7] [(.int (0 : Int32))])
                refine own_go (fun t k => XS.goto X0.here hx rfl (pc0 := 61) (pc' := 68) rfl (hb hby d6_61) (by decide) (by decide) k) ?_
                show own_R p e below _ T0 (mkF m 68 #[.val (.ref a), .val (.ref b), .val (.int m1), .val (.int t1), .val (.int ee), .val (.int ii), .val (.int xx), s7] [(.int (0 : Int32))])
                refine own_go (fun t k => XS.istore X0.here hx rfl (hb hby d6_68) rfl (l' := #[.val (.ref a), .val (.ref b), .val (.int m1), .val (.int t1), .val (.int ee), .val (.int ii), .val (.int xx), .val (.int (0 : Int32))]) (own_os7 o7) k) ?_
                show own_R p e below _ T0 (mkF m 70 #[.val (.ref a), .val (.ref b), .val (.int m1), .val (.int t1), .val (.int ee), .val (.int ii), .val (.int xx), .val (.int (0 : Int32))] [])
                refine own_go (fun t k => XS.iload X0.here hx rfl (hb hby d6_70) rfl  k) ?_
                show own_R p e below _ T0 (mkF m 72 #[.val (.ref a), .val (.ref b), .val (.int m1), .val (.int t1), .val (.int ee), .val (.int ii), .val (.int xx), .val (.int (0 : Int32))] [(.int xx)])
                refine own_go (fun t k => XS.bipush X0.here hx rfl (hb hby d6_72) k) ?_
                show own_R p e below _ T0 (mkF m 74 #[.val (.ref a), .val (.ref b), .val (.int m1), .val (.int t1), .val (.int ee), .val (.int ii), .val (.int xx), .val (.int (0 : Int32))] [(.int (13 : Int32)), (.int xx)])
                refine own_go (fun t k => XS.icmpNo X0.here hx rfl (hb hby d6_74) rfl (feq hc29_21).1 k) ?_
                show own_R p e below _ T0 (mkF m 77 #[.val (.ref a), .val (.ref b), .val (.int m1), .val (.int t1), .val (.int ee), .val (.int ii), .val (.int xx), .val (.int (0 : Int32))] [])
                refine own_go (fun t k => XS.iload X0.here hx rfl (hb hby d6_77) rfl  k) ?_
                show own_R p e below _ T0 (mkF m 79 #[.val (.ref a), .val (.ref b), .val (.int m1), .val (.int t1), .val (.int ee), .val (.int ii), .val (.int xx), .val (.int (0 : Int32))] [(.int (0 : Int32))])
                refine own_go (fun t k => XS.ifNo X0.here hx rfl (hb hby d6_79) rfl ((if0 _ _).trans (teq (by decide : (0 : Int32) = (0 : Int32))).2) k) ?_
                show own_R p e below _ T0 (mkF m 82 #[.val (.ref a), .val (.ref b), .val (.int m1), .val (.int t1), .val (.int ee), .val (.int ii), .val (.int xx), .val (.int (0 : Int32))] [])
                refine own_go (fun t k => XS.aloadN X0.here hx rfl (hb hby d6_82) rfl rfl  k) ?_
                show own_R p e below _ T0 (mkF m 83 #[.val (.ref a), .val (.ref b), .val (.int m1), .val (.int t1), .val (.int ee), .val (.int ii), .val (.int xx), .val (.int (0 : Int32))] [(.ref a)])
                refine own_go (fun t k => XS.dup X0.here hx rfl (hb hby d6_83) rfl rfl k) ?_
                show own_R p e below _ T0 (mkF m 84 #[.val (.ref a), .val (.ref b), .val (.int m1), .val (.int t1), .val (.int ee), .val (.int ii), .val (.int xx), .val (.int (0 : Int32))] [(.ref a), (.ref a)])
                obtain ⟨T36, X36, e36, st36⟩ := getF X0 hx hZ hown (host := "") (Or.inl (hw _ (List.mem_of_getElem? (i := 23) rfl))) Via.refl e0 F_line_a (g := (mkF m 84 #[.val (.ref a), .val (.ref b), .val (.int m1), .val (.int t1), .val (.int ee), .val (.int ii), .val (.int xx), .val (.int (0 : Int32))] [(.ref a), (.ref a)])) rfl rfl (hb hby d6_84)
                refine own_go (st36) ?_
                show own_R p e below _ T36 (mkF m 87 #[.val (.ref a), .val (.ref b), .val (.int m1), .val (.int t1), .val (.int ee), .val (.int ii), .val (.int xx), .val (.int (0 : Int32))] [(.int ln), (.ref a)])
                refine own_go (fun t k => XS.iconst X36.here hx rfl (hb hby d6_87) k) ?_
                show own_R p e below _ T36 (mkF m 88 #[.val (.ref a), .val (.ref b), .val (.int m1), .val (.int t1), .val (.int ee), .val (.int ii), .val (.int xx), .val (.int (0 : Int32))] [(.int (1 : Int32)), (.int ln), (.ref a)])
                refine own_go (fun t k => XS.iadd X36.here hx rfl (hb hby d6_88) rfl k) ?_
                show own_R p e below _ T36 (mkF m 89 #[.val (.ref a), .val (.ref b), .val (.int m1), .val (.int t1), .val (.int ee), .val (.int ii), .val (.int xx), .val (.int (0 : Int32))] [(.int (ln + (1 : Int32))), (.ref a)])
                obtain ⟨T37, h37, X37, e37, W37, st37⟩ := putF X36 hx hZ hown (host := "") (Or.inl (hw _ (List.mem_of_getElem? (i := 23) rfl))) Via.refl e36 F_line_a E_a (Or.inl (hw _ (List.mem_of_getElem? (i := 24) rfl))) (hw _ (List.mem_of_getElem? (i := 15) rfl)) (ty := .int) (by decide) rfl rfl (g := (mkF m 89 #[.val (.ref a), .val (.ref b), .val (.int m1), .val (.int t1), .val (.int ee), .val (.int ii), .val (.int xx), .val (.int (0 : Int32))] [(.int (ln + (1 : Int32))), (.ref a)])) rfl rfl (hb hby d6_89)
                obtain ⟨Lh37, X37, N37⟩ := own_hide X37 (Fr.snoc X37 N0 g_a)
                replace Kh := Kh.wr W37 (Or.inl (List.mem_of_getElem? (i := 0) rfl))
                replace F_line_a := Fld.same W37 F_line_a
                replace F_column_a := Fld.other W37 F_column_a (Or.inr (slot_ne (Or.inl (hw _ (List.mem_of_getElem? (i := 26) rfl))) (Or.inl (hw _ (List.mem_of_getElem? (i := 24) rfl))) (by decide) (t := .int) (t' := .int) (by decide) (by decide)))
                replace F_afterCarriageReturn_a := Fld.other W37 F_afterCarriageReturn_a (Or.inr (slot_ne (Or.inl (hw _ (List.mem_of_getElem? (i := 33) rfl))) (Or.inl (hw _ (List.mem_of_getElem? (i := 24) rfl))) (by decide) (t := .boolean) (t' := .int) (by decide) (by decide)))
                replace E_a := Exa.wr W37 E_a
                replace V_b := Arv.other V_b W37 (Ne.symm ne_a_b)
                refine own_go (st37) ?_
                show own_R p e below _ T37 (mkF m 92 #[.val (.ref a), .val (.ref b), .val (.int m1), .val (.int t1), .val (.int ee), .val (.int ii), .val (.int xx), .val (.int (0 : Int32))] [])
                refine own_go (fun t k => XS.iload X37.here hx rfl (hb hby d6_92) rfl  k) ?_
                show own_R p e below _ T37 (mkF m 94 #[.val (.ref a), .val (.ref b), .val (.int m1), .val (.int t1), .val (.int ee), .val (.int ii), .val (.int xx), .val (.int (0 : Int32))] [(.int ii)])
                refine own_go (fun t k => XS.iconst X37.here hx rfl (hb hby d6_94) k) ?_
                show own_R p e below _ T37 (mkF m 95 #[.val (.ref a), .val (.ref b), .val (.int m1), .val (.int t1), .val (.int ee), .val (.int ii), .val (.int xx), .val (.int (0 : Int32))] [(.int (1 : Int32)), (.int ii)])
                refine own_go (fun t k => XS.iadd X37.here hx rfl (hb hby d6_95) rfl k) ?_
                show own_R p e below _ T37 (mkF m 96 #[.val (.ref a), .val (.ref b), .val (.int m1), .val (.int t1), .val (.int ee), .val (.int ii), .val (.int xx), .val (.int (0 : Int32))] [(.int (ii + (1 : Int32)))])
                refine own_go (fun t k => XS.istore X37.here hx rfl (hb hby d6_96) rfl (l' := #[.val (.ref a), .val (.ref b), .val (.int m1), .val (.int t1), .val (.int (ii + (1 : Int32))), .val (.int ii), .val (.int xx), .val (.int (0 : Int32))]) rfl k) ?_
                show own_R p e below _ T37 (mkF m 98 #[.val (.ref a), .val (.ref b), .val (.int m1), .val (.int t1), .val (.int (ii + (1 : Int32))), .val (.int ii), .val (.int xx), .val (.int (0 : Int32))] [])
                refine own_go (fun t k => XS.iinc X37.here hx rfl (hb hby d6_98) rfl (l' := #[.val (.ref a), .val (.ref b), .val (.int m1), .val (.int t1), .val (.int (ii + (1 : Int32))), .val (.int (ii + (1 : Int32))), .val (.int xx), .val (.int (0 : Int32))]) rfl k) ?_
                show own_R p e below _ T37 (mkF m 101 #[.val (.ref a), .val (.ref b), .val (.int m1), .val (.int t1), .val (.int (ii + (1 : Int32))), .val (.int (ii + (1 : Int32))), .val (.int xx), .val (.int (0 : Int32))] [])
                refine own_go (fun t k => XS.goto X37.here hx rfl (pc0 := 101) (pc' := 6) rfl (hb hby d6_101) (by decide) (by decide) k) ?_
                show own_R p e below _ T37 (mkF m 6 #[.val (.ref a), .val (.ref b), .val (.int m1), .val (.int t1), .val (.int (ii + (1 : Int32))), .val (.int (ii + (1 : Int32))), .val (.int xx), .val (.int (0 : Int32))] [])
                -- the turn is made
                have hx0 : ([v0, v1, v2, v3] : List Int32).getD ii.toInt.toNat 0 = xx := hxx.symm
                have hb : sr = (0 : Int32) := by
                  rw [hsr]
                  rw [if_pos (own_lti hc42_33 rfl rfl)]
                  have hy0 : ([v0, v1, v2, v3] : List Int32).getD (ii.toInt - 1).toNat 0 = yy := by rw [hyy, own_nn (by rw [hdn]; omega), hdn]
                  rw [hy0, if_neg hc53_35]
                rw [own_runS, hx0, own_t3 hc29_21 hc36_32 hb] at hrun
                refine ih _ _ _ _ _ _ (1 : Int32) (0 : Int32) _ _ X37 e37 N37 Kh E_a F_line_a F_column_a F_afterCarriageReturn_a V_b (One.val rfl) (One.val rfl) (by rw [hup]; omega) (by rw [hup]; omega) ?_ ?_ ?_ (by rw [hup]; have q : (ii.toInt + 1).toNat = ii.toInt.toNat + 1 := (by omega); rw [q]; exact hrun)
                · rw [if_neg (by rw [Int32.lt_iff_toInt_lt, hup]; omega)]; exact own_col4 ii
                · rw [if_pos (by rw [hup]; omega), show ((ii + (1 : Int32)).toInt - 1).toNat = ii.toInt.toNat by rw [hup]; omega, hx0, if_neg hc29_21]
                · exact fun h => rfl
            · -- pc 42: no
              refine own_go (fun t k => XS.icmpYes X0.here hx rfl (pc0 := 42) (pc' := 64) rfl (hb hby d6_42) rfl (flt hc42_33).2.2.2 (by decide) (by decide) k) ?_
              show own_R p e below _ T0 (mkF m 64 #[.val (.ref a), .val (.ref b), .val (.int m1), .val (.int t1), .val (.int ee), .val (.int ii), .val (.int xx), s7] [])
              refine own_go (fun t k => XS.aloadN X0.here hx rfl (hb hby d6_64) rfl rfl  k) ?_
              show own_R p e below _ T0 (mkF m 65 #[.val (.ref a), .val (.ref b), .val (.int m1), .val (.int t1), .val (.int ee), .val (.int ii), .val (.int xx), s7] [(.ref a)])
              obtain ⟨T38, X38, e38, st38⟩ := getF X0 hx hZ hown (host := "") (Or.inl (hw _ (List.mem_of_getElem? (i := 32) rfl))) Via.refl e0 F_afterCarriageReturn_a (g := (mkF m 65 #[.val (.ref a), .val (.ref b), .val (.int m1), .val (.int t1), .val (.int ee), .val (.int ii), .val (.int xx), s7] [(.ref a)])) rfl rfl (hb hby d6_65)
              refine own_go (st38) ?_
              show own_R p e below _ T38 (mkF m 68 #[.val (.ref a), .val (.ref b), .val (.int m1), .val (.int t1), .val (.int ee), .val (.int ii), .val (.int xx), s7] [(.int r1)])
              refine own_go (fun t k => XS.istore X38.here hx rfl (hb hby d6_68) rfl (l' := #[.val (.ref a), .val (.ref b), .val (.int m1), .val (.int t1), .val (.int ee), .val (.int ii), .val (.int xx), .val (.int r1)]) (own_os7 o7) k) ?_
              show own_R p e below _ T38 (mkF m 70 #[.val (.ref a), .val (.ref b), .val (.int m1), .val (.int t1), .val (.int ee), .val (.int ii), .val (.int xx), .val (.int r1)] [])
              refine own_go (fun t k => XS.iload X38.here hx rfl (hb hby d6_70) rfl  k) ?_
              show own_R p e below _ T38 (mkF m 72 #[.val (.ref a), .val (.ref b), .val (.int m1), .val (.int t1), .val (.int ee), .val (.int ii), .val (.int xx), .val (.int r1)] [(.int xx)])
              refine own_go (fun t k => XS.bipush X38.here hx rfl (hb hby d6_72) k) ?_
              show own_R p e below _ T38 (mkF m 74 #[.val (.ref a), .val (.ref b), .val (.int m1), .val (.int t1), .val (.int ee), .val (.int ii), .val (.int xx), .val (.int r1)] [(.int (13 : Int32)), (.int xx)])
              refine own_go (fun t k => XS.icmpNo X38.here hx rfl (hb hby d6_74) rfl (feq hc29_21).1 k) ?_
              show own_R p e below _ T38 (mkF m 77 #[.val (.ref a), .val (.ref b), .val (.int m1), .val (.int t1), .val (.int ee), .val (.int ii), .val (.int xx), .val (.int r1)] [])
              refine own_go (fun t k => XS.iload X38.here hx rfl (hb hby d6_77) rfl  k) ?_
              show own_R p e below _ T38 (mkF m 79 #[.val (.ref a), .val (.ref b), .val (.int m1), .val (.int t1), .val (.int ee), .val (.int ii), .val (.int xx), .val (.int r1)] [(.int r1)])
              by_cases hc79_39 : r1 = (0 : Int32)
              · -- pc 79: yes
                refine own_go (fun t k => XS.ifNo X38.here hx rfl (hb hby d6_79) rfl ((if0 _ _).trans (teq hc79_39).2) k) ?_
                show own_R p e below _ T38 (mkF m 82 #[.val (.ref a), .val (.ref b), .val (.int m1), .val (.int t1), .val (.int ee), .val (.int ii), .val (.int xx), .val (.int r1)] [])
                refine own_go (fun t k => XS.aloadN X38.here hx rfl (hb hby d6_82) rfl rfl  k) ?_
                show own_R p e below _ T38 (mkF m 83 #[.val (.ref a), .val (.ref b), .val (.int m1), .val (.int t1), .val (.int ee), .val (.int ii), .val (.int xx), .val (.int r1)] [(.ref a)])
                refine own_go (fun t k => XS.dup X38.here hx rfl (hb hby d6_83) rfl rfl k) ?_
                show own_R p e below _ T38 (mkF m 84 #[.val (.ref a), .val (.ref b), .val (.int m1), .val (.int t1), .val (.int ee), .val (.int ii), .val (.int xx), .val (.int r1)] [(.ref a), (.ref a)])
                obtain ⟨T40, X40, e40, st40⟩ := getF X38 hx hZ hown (host := "") (Or.inl (hw _ (List.mem_of_getElem? (i := 23) rfl))) Via.refl e38 F_line_a (g := (mkF m 84 #[.val (.ref a), .val (.ref b), .val (.int m1), .val (.int t1), .val (.int ee), .val (.int ii), .val (.int xx), .val (.int r1)] [(.ref a), (.ref a)])) rfl rfl (hb hby d6_84)
                refine own_go (st40) ?_
                show own_R p e below _ T40 (mkF m 87 #[.val (.ref a), .val (.ref b), .val (.int m1), .val (.int t1), .val (.int ee), .val (.int ii), .val (.int xx), .val (.int r1)] [(.int ln), (.ref a)])
                refine own_go (fun t k => XS.iconst X40.here hx rfl (hb hby d6_87) k) ?_
                show own_R p e below _ T40 (mkF m 88 #[.val (.ref a), .val (.ref b), .val (.int m1), .val (.int t1), .val (.int ee), .val (.int ii), .val (.int xx), .val (.int r1)] [(.int (1 : Int32)), (.int ln), (.ref a)])
                refine own_go (fun t k => XS.iadd X40.here hx rfl (hb hby d6_88) rfl k) ?_
                show own_R p e below _ T40 (mkF m 89 #[.val (.ref a), .val (.ref b), .val (.int m1), .val (.int t1), .val (.int ee), .val (.int ii), .val (.int xx), .val (.int r1)] [(.int (ln + (1 : Int32))), (.ref a)])
                obtain ⟨T41, h41, X41, e41, W41, st41⟩ := putF X40 hx hZ hown (host := "") (Or.inl (hw _ (List.mem_of_getElem? (i := 23) rfl))) Via.refl e40 F_line_a E_a (Or.inl (hw _ (List.mem_of_getElem? (i := 24) rfl))) (hw _ (List.mem_of_getElem? (i := 15) rfl)) (ty := .int) (by decide) rfl rfl (g := (mkF m 89 #[.val (.ref a), .val (.ref b), .val (.int m1), .val (.int t1), .val (.int ee), .val (.int ii), .val (.int xx), .val (.int r1)] [(.int (ln + (1 : Int32))), (.ref a)])) rfl rfl (hb hby d6_89)
                obtain ⟨Lh41, X41, N41⟩ := own_hide X41 (Fr.snoc X41 N0 g_a)
                replace Kh := Kh.wr W41 (Or.inl (List.mem_of_getElem? (i := 0) rfl))
                replace F_line_a := Fld.same W41 F_line_a
                replace F_column_a := Fld.other W41 F_column_a (Or.inr (slot_ne (Or.inl (hw _ (List.mem_of_getElem? (i := 26) rfl))) (Or.inl (hw _ (List.mem_of_getElem? (i := 24) rfl))) (by decide) (t := .int) (t' := .int) (by decide) (by decide)))
                replace F_afterCarriageReturn_a := Fld.other W41 F_afterCarriageReturn_a (Or.inr (slot_ne (Or.inl (hw _ (List.mem_of_getElem? (i := 33) rfl))) (Or.inl (hw _ (List.mem_of_getElem? (i := 24) rfl))) (by decide) (t := .boolean) (t' := .int) (by decide) (by decide)))
                replace E_a := Exa.wr W41 E_a
                replace V_b := Arv.other V_b W41 (Ne.symm ne_a_b)
                refine own_go (st41) ?_
                show own_R p e below _ T41 (mkF m 92 #[.val (.ref a), .val (.ref b), .val (.int m1), .val (.int t1), .val (.int ee), .val (.int ii), .val (.int xx), .val (.int r1)] [])
                refine own_go (fun t k => XS.iload X41.here hx rfl (hb hby d6_92) rfl  k) ?_
                show own_R p e below _ T41 (mkF m 94 #[.val (.ref a), .val (.ref b), .val (.int m1), .val (.int t1), .val (.int ee), .val (.int ii), .val (.int xx), .val (.int r1)] [(.int ii)])
                refine own_go (fun t k => XS.iconst X41.here hx rfl (hb hby d6_94) k) ?_
                show own_R p e below _ T41 (mkF m 95 #[.val (.ref a), .val (.ref b), .val (.int m1), .val (.int t1), .val (.int ee), .val (.int ii), .val (.int xx), .val (.int r1)] [(.int (1 : Int32)), (.int ii)])
                refine own_go (fun t k => XS.iadd X41.here hx rfl (hb hby d6_95) rfl k) ?_
                show own_R p e below _ T41 (mkF m 96 #[.val (.ref a), .val (.ref b), .val (.int m1), .val (.int t1), .val (.int ee), .val (.int ii), .val (.int xx), .val (.int r1)] [(.int (ii + (1 : Int32)))])
                refine own_go (fun t k => XS.istore X41.here hx rfl (hb hby d6_96) rfl (l' := #[.val (.ref a), .val (.ref b), .val (.int m1), .val (.int t1), .val (.int (ii + (1 : Int32))), .val (.int ii), .val (.int xx), .val (.int r1)]) rfl k) ?_
                show own_R p e below _ T41 (mkF m 98 #[.val (.ref a), .val (.ref b), .val (.int m1), .val (.int t1), .val (.int (ii + (1 : Int32))), .val (.int ii), .val (.int xx), .val (.int r1)] [])
                refine own_go (fun t k => XS.iinc X41.here hx rfl (hb hby d6_98) rfl (l' := #[.val (.ref a), .val (.ref b), .val (.int m1), .val (.int t1), .val (.int (ii + (1 : Int32))), .val (.int (ii + (1 : Int32))), .val (.int xx), .val (.int r1)]) rfl k) ?_
                show own_R p e below _ T41 (mkF m 101 #[.val (.ref a), .val (.ref b), .val (.int m1), .val (.int t1), .val (.int (ii + (1 : Int32))), .val (.int (ii + (1 : Int32))), .val (.int xx), .val (.int r1)] [])
                refine own_go (fun t k => XS.goto X41.here hx rfl (pc0 := 101) (pc' := 6) rfl (hb hby d6_101) (by decide) (by decide) k) ?_
                show own_R p e below _ T41 (mkF m 6 #[.val (.ref a), .val (.ref b), .val (.int m1), .val (.int t1), .val (.int (ii + (1 : Int32))), .val (.int (ii + (1 : Int32))), .val (.int xx), .val (.int r1)] [])
                -- the turn is made
                have hx0 : ([v0, v1, v2, v3] : List Int32).getD ii.toInt.toNat 0 = xx := hxx.symm
                have hb : sr = r1 := by
                  rw [hsr]
                  rw [if_neg (by have := own_nlti hc42_33 rfl rfl; omega)]
                rw [own_runS, hx0, own_t3 hc29_21 hc36_32 (by rw [hb]; exact hc79_39)] at hrun
                refine ih _ _ _ _ _ _ (1 : Int32) (0 : Int32) _ _ X41 e41 N41 Kh E_a F_line_a F_column_a F_afterCarriageReturn_a V_b (One.val rfl) (One.val rfl) (by rw [hup]; omega) (by rw [hup]; omega) ?_ ?_ ?_ (by rw [hup]; have q : (ii.toInt + 1).toNat = ii.toInt.toNat + 1 := (by omega); rw [q]; exact hrun)
                · rw [if_neg (by rw [Int32.lt_iff_toInt_lt, hup]; omega)]; exact own_col4 ii
                · rw [if_pos (by rw [hup]; omega), show ((ii + (1 : Int32)).toInt - 1).toNat = ii.toInt.toNat by rw [hup]; omega, hx0, if_neg hc29_21]
                · exact fun h => rfl
              · -- pc 79: no
                refine own_go (fun t k => XS.ifYes X38.here hx rfl (pc0 := 79) (pc' := 92) rfl (hb hby d6_79) rfl ((if0 _ _).trans (feq hc79_39).2) (by decide) (by decide) k) ?_
                show own_R p e below _ T38 (mkF m 92 #[.val (.ref a), .val (.ref b), .val (.int m1), .val (.int t1), .val (.int ee), .val (.int ii), .val (.int xx), .val (.int r1)] [])
                refine own_go (fun t k => XS.iload X38.here hx rfl (hb hby d6_92) rfl  k) ?_
                show own_R p e below _ T38 (mkF m 94 #[.val (.ref a), .val (.ref b), .val (.int m1), .val (.int t1), .val (.int ee), .val (.int ii), .val (.int xx), .val (.int r1)] [(.int ii)])
                refine own_go (fun t k => XS.iconst X38.here hx rfl (hb hby d6_94) k) ?_
                show own_R p e below _ T38 (mkF m 95 #[.val (.ref a), .val (.ref b), .val (.int m1), .val (.int t1), .val (.int ee), .val (.int ii), .val (.int xx), .val (.int r1)] [(.int (1 : Int32)), (.int ii)])
                refine own_go (fun t k => XS.iadd X38.here hx rfl (hb hby d6_95) rfl k) ?_
                show own_R p e below _ T38 (mkF m 96 #[.val (.ref a), .val (.ref b), .val (.int m1), .val (.int t1), .val (.int ee), .val (.int ii), .val (.int xx), .val (.int r1)] [(.int (ii + (1 : Int32)))])
                refine own_go (fun t k => XS.istore X38.here hx rfl (hb hby d6_96) rfl (l' := #[.val (.ref a), .val (.ref b), .val (.int m1), .val (.int t1), .val (.int (ii + (1 : Int32))), .val (.int ii), .val (.int xx), .val (.int r1)]) rfl k) ?_
                show own_R p e below _ T38 (mkF m 98 #[.val (.ref a), .val (.ref b), .val (.int m1), .val (.int t1), .val (.int (ii + (1 : Int32))), .val (.int ii), .val (.int xx), .val (.int r1)] [])
                refine own_go (fun t k => XS.iinc X38.here hx rfl (hb hby d6_98) rfl (l' := #[.val (.ref a), .val (.ref b), .val (.int m1), .val (.int t1), .val (.int (ii + (1 : Int32))), .val (.int (ii + (1 : Int32))), .val (.int xx), .val (.int r1)]) rfl k) ?_
                show own_R p e below _ T38 (mkF m 101 #[.val (.ref a), .val (.ref b), .val (.int m1), .val (.int t1), .val (.int (ii + (1 : Int32))), .val (.int (ii + (1 : Int32))), .val (.int xx), .val (.int r1)] [])
                refine own_go (fun t k => XS.goto X38.here hx rfl (pc0 := 101) (pc' := 6) rfl (hb hby d6_101) (by decide) (by decide) k) ?_
                show own_R p e below _ T38 (mkF m 6 #[.val (.ref a), .val (.ref b), .val (.int m1), .val (.int t1), .val (.int (ii + (1 : Int32))), .val (.int (ii + (1 : Int32))), .val (.int xx), .val (.int r1)] [])
                -- the turn is made
                have hx0 : ([v0, v1, v2, v3] : List Int32).getD ii.toInt.toNat 0 = xx := hxx.symm
                have hb : sr = r1 := by
                  rw [hsr]
                  rw [if_neg (by have := own_nlti hc42_33 rfl rfl; omega)]
                have hs1 : sc = (1 : Int32) := hJ1 (show ¬ sr = (0 : Int32) from (by rw [hb]; exact hc79_39))
                rw [own_runS, hx0, own_t4 hc29_21 hc36_32 (by rw [hb]; exact hc79_39)] at hrun
                refine ih _ _ _ _ _ _ sc (0 : Int32) _ _ X38 e38 N0 Kh E_a F_line_a F_column_a F_afterCarriageReturn_a V_b (One.val rfl) (One.val rfl) (by rw [hup]; omega) (by rw [hup]; omega) ?_ ?_ ?_ (by rw [hup]; have q : (ii.toInt + 1).toNat = ii.toInt.toNat + 1 := (by omega); rw [q]; exact hrun)
                · rw [if_neg (by rw [Int32.lt_iff_toInt_lt, hup]; omega)]; rw [hs1]; exact own_col4 ii
                · rw [if_pos (by rw [hup]; omega), show ((ii + (1 : Int32)).toInt - 1).toNat = ii.toInt.toNat by rw [hup]; omega, hx0, if_neg hc29_21]
                · exact fun h => absurd rfl h
          · -- pc 36: no
            refine own_go (fun t k => XS.icmpYes X0.here hx rfl (pc0 := 36) (pc' := 98) rfl (hb hby d6_36) rfl (feq hc36_32).2 (by decide) (by decide) k) ?_
            show own_R p e below _ T0 (mkF m 98 #[.val (.ref a), .val (.ref b), .val (.int m1), .val (.int t1), .val (.int ee), .val (.int ii), .val (.int xx), s7] [])
            refine own_go (fun t k => XS.iinc X0.here hx rfl (hb hby d6_98) rfl (l' := #[.val (.ref a), .val (.ref b), .val (.int m1), .val (.int t1), .val (.int ee), .val (.int (ii + (1 : Int32))), .val (.int xx), s7]) rfl k) ?_
            show own_R p e below _ T0 (mkF m 101 #[.val (.ref a), .val (.ref b), .val (.int m1), .val (.int t1), .val (.int ee), .val (.int (ii + (1 : Int32))), .val (.int xx), s7] [])
            refine own_go (fun t k => XS.goto X0.here hx rfl (pc0 := 101) (pc' := 6) rfl (hb hby d6_101) (by decide) (by decide) k) ?_
            show own_R p e below _ T0 (mkF m 6 #[.val (.ref a), .val (.ref b), .val (.int m1), .val (.int t1), .val (.int ee), .val (.int (ii + (1 : Int32))), .val (.int xx), s7] [])
            -- the turn is made
            have hx0 : ([v0, v1, v2, v3] : List Int32).getD ii.toInt.toNat 0 = xx := hxx.symm
            rw [own_runS, hx0, own_t1 hc29_21 hc36_32] at hrun
            refine ih _ _ _ _ _ _ (sc + (1 : Int32)) (0 : Int32) _ _ X0 e0 N0 Kh E_a F_line_a F_column_a F_afterCarriageReturn_a V_b (One.val rfl) o7 (by rw [hup]; omega) (by rw [hup]; omega) ?_ ?_ ?_ (by rw [hup]; have q : (ii.toInt + 1).toNat = ii.toInt.toNat + 1 := (by omega); rw [q]; exact hrun)
            · rw [hsc]; split
              · exact own_col1 _ _ _
              · exact own_col2 _ _
            · rw [if_pos (by rw [hup]; omega), show ((ii + (1 : Int32)).toInt - 1).toNat = ii.toInt.toNat by rw [hup]; omega, hx0, if_neg hc29_21]
            · exact fun h => absurd rfl h
  refine loop (t1.toInt - m1.toInt).toNat _ _ _ _ _ _ c1 r1 _ _ X0 e0 N0 Kh E_a F_line_a F_column_a F_afterCarriageReturn_a V_b One.u One.u (by omega) (Int.le_refl _) ?_ ?_ hJ rfl
  · rw [if_pos (by decide)]; exact own_z _ _
  · rw [if_neg (by omega)]
theorem own_step01 (x : Int32) (q : Int32 × Int32 × Int32) : (own_step x q).2.2 = (0 : Int32) ∨ (own_step x q).2.2 = (1 : Int32) := by
  unfold own_step
  split
  · exact Or.inr rfl
  · split
    · split <;> exact Or.inl rfl
    · exact Or.inl rfl
theorem own_run01 (xs : List Int32) : ∀ (k i : Nat) (q : Int32 × Int32 × Int32), (q.2.2 = (0 : Int32) ∨ q.2.2 = (1 : Int32)) → ((own_run xs k i q).2.2 = (0 : Int32) ∨ (own_run xs k i q).2.2 = (1 : Int32))
  | 0, _, _, h => h
  | k + 1, i, q, _ => own_run01 xs k (i + 1) _ (own_step01 _ _)
theorem own_rem5 (a : Int32) : 0 ≤ ((a &&& (255 : Int32)) % (5 : Int32)).toInt ∧ ((a &&& (255 : Int32)) % (5 : Int32)).toInt ≤ 4 := by
  have h := c_mask a 255 8 (by decide) rfl
  have g := (c_irem (a &&& 255) 5 5 rfl).1 (by omega)
  omega
theorem own_mm (a b : Int32) (ha : 0 ≤ a.toInt ∧ a.toInt ≤ 4) (hb : 0 ≤ b.toInt ∧ b.toInt ≤ 4) : 0 ≤ (if b < a then b else a).toInt ∧ (if b < a then b else a).toInt ≤ (if a < b then b else a).toInt ∧ (if a < b then b else a).toInt ≤ 4 := by
  by_cases h : b < a <;> by_cases g : a < b <;> simp only [h, g, if_true, if_false] <;> rw [Int32.lt_iff_toInt_lt] at h g <;> omega
theorem ef_0 (m : MethodId) (x0 : Int64) (x1 : Int64) (x2 : Int32) (x3 : Int32) : entryFrame m #[(.long x0), (.long x1), (.int x2), (.int x3)] maxLocals = mkF m 0 #[.val (.long x0), .second, .val (.long x1), .second, .val (.int x2), .val (.int x3), .unset, .unset, .unset, .unset, .unset, .unset, .unset, .unset, .unset, .unset] [] := by first | (simp [entryFrame, mkF, argsToLocals, Value.category, maxLocals]; done) | rfl
def Q0 (Z : State) (q0 : Int64) (q2 : Int64) (p4 : Int32) (p5 : Int32) (h0 : Heap) (n0 : Nat) (v : Option Value) (h : Heap) (L : List Loc) : Prop := v = some (.int (1 : Int32)) ∧ Fr n0 L
set_option maxRecDepth 65536 in
set_option maxHeartbeats 40000000 in
theorem rm0 (l : Launch) (Z : State) (a0 : Array Value) (hw : ∀ d ∈ tables_1, d.before a0 Z = true) (ws : List Jvm.Cond) (q0 : Int64) (q2 : Int64) (p4 : Int32) (p5 : Int32) (h0 : Heap) (n0 : Nat) (Z0 : n0 ≤ h0.size) :
    MetFree l x (head1 (Jvm.Cond.code x code maxLocals ret :: ws) room_1) (fun aS U => aS = #[(.long q0), (.long q2), (.int p4), (.int p5)] ∧ Z.Warmed39 U.vm ∧ U.heap = h0) (fun _ _ _ _ _ => True) (fun _ U o U' => ∃ v L, o = .returned v ∧ Q0 Z q0 q2 p4 p5 h0 n0 v U'.heap L ∧ FrameEnd U o U' L room_1.cells room_1.slots) := by
  refine MetFree.of_bodySF (plainFor_of_name pn_0) hisR ?_
  intro p e s m args below meth c s₁ Bd hml0 hP hK
  obtain ⟨rfl, hZ, hh⟩ := hP
  have hx := Bd.exec
  have hby := Bd.bytes
  have hml : c.maxLocals = 16 := hml0
  have hown : s.vm.findClass "com/example/xtd/xtd/model/LineCounterCountPinLaw" = some m.cls := findClass_of_methodNamed Bd.named
  have hnm := (name_of_methodNamed Bd.named Bd.method).1
  have X0 : Stand p l e room_1 s m #[(.long q0), (.long q2), (.int p4), (.int p5)] below meth c s₁ [] 0 0 := Stand.of_body Bd
  have e0 : s₁.heap = h0 := by rw [← hh, Bd.state]; rfl
  have N0 := Fr.nil n0
  have Kh : Keep h0 h0 [] := Keep.refl _ _
  suffices H : own_R p e below (own_E s below (Q0 Z q0 q2 p4 p5 h0 n0) room_1.cells room_1.slots) s₁ (mkF m 0 #[.val (.long q0), .second, .val (.long q2), .second, .val (.int p4), .val (.int p5), .unset, .unset, .unset, .unset, .unset, .unset, .unset, .unset, .unset, .unset] []) by
    obtain ⟨t, hst, hrun, v, L, hend, hQ, hF⟩ := H
    exact ⟨t, _, castTop (ef_0 m q0 q2 p4 p5) hst, hrun, hend, v, L, rfl, hQ, hF⟩
  show own_R p e below _ s₁ (mkF m 0 #[.val (.long q0), .second, .val (.long q2), .second, .val (.int p4), .val (.int p5), .unset, .unset, .unset, .unset, .unset, .unset, .unset, .unset, .unset, .unset] [])
  refine own_go (fun t k => XS.iconst X0.here hx rfl (hb hby at_0) k) ?_
  show own_R p e below _ s₁ (mkF m 1 #[.val (.long q0), .second, .val (.long q2), .second, .val (.int p4), .val (.int p5), .unset, .unset, .unset, .unset, .unset, .unset, .unset, .unset, .unset, .unset] [(.int (4 : Int32))])
  obtain ⟨T1, h1, k1, X1, e1, E1, A1, st1⟩ := newP X0 hx hZ (hw _ (List.mem_of_getElem? (i := 0) rfl)) e0 (g := (mkF m 1 #[.val (.long q0), .second, .val (.long q2), .second, .val (.int p4), .val (.int p5), .unset, .unset, .unset, .unset, .unset, .unset, .unset, .unset, .unset, .unset] [(.int (4 : Int32))])) rfl (hb hby at_1) rfl (by decide) (cap := 4) (by decide) (by decide) (by decide) (by decide)
  obtain ⟨b1, g1⟩ : ∃ z, z = h0.size := ⟨_, rfl⟩
  rw [← g1] at A1 st1
  have g_b1 : n0 ≤ b1 := Nat.le_trans (Nat.le_trans Z0 Kh.1) (Nat.le_of_eq g1.symm)
  have sz_b1 : h0.size ≤ b1 := Nat.le_trans Kh.1 (Nat.le_of_eq g1.symm)
  replace Kh := Kh.ext E1
  have V_b1 : Arv Z h1 b1 k1 .char (4 : Int32) [(.int (0 : Int32)), (.int (0 : Int32)), (.int (0 : Int32)), (.int (0 : Int32))] (.int (0 : Int32)) := (Arv.new A1 (by decide)).pad (pad_rep [] (.int (0 : Int32)) 4)
  refine own_go (st1) ?_
  show own_R p e below _ T1 (mkF m 3 #[.val (.long q0), .second, .val (.long q2), .second, .val (.int p4), .val (.int p5), .unset, .unset, .unset, .unset, .unset, .unset, .unset, .unset, .unset, .unset] [(.ref b1)])
  refine own_go (fun t k => XS.astore X1.here hx rfl (hb hby at_3) rfl rfl (l' := #[.val (.long q0), .second, .val (.long q2), .second, .val (.int p4), .val (.int p5), .val (.ref b1), .unset, .unset, .unset, .unset, .unset, .unset, .unset, .unset, .unset]) rfl k) ?_
  show own_R p e below _ T1 (mkF m 5 #[.val (.long q0), .second, .val (.long q2), .second, .val (.int p4), .val (.int p5), .val (.ref b1), .unset, .unset, .unset, .unset, .unset, .unset, .unset, .unset, .unset] [])
  refine own_go (fun t k => XS.aload X1.here hx rfl (hb hby at_5) rfl rfl  k) ?_
  show own_R p e below _ T1 (mkF m 7 #[.val (.long q0), .second, .val (.long q2), .second, .val (.int p4), .val (.int p5), .val (.ref b1), .unset, .unset, .unset, .unset, .unset, .unset, .unset, .unset, .unset] [(.ref b1)])
  refine own_go (fun t k => XS.iconst X1.here hx rfl (hb hby at_7) k) ?_
  show own_R p e below _ T1 (mkF m 8 #[.val (.long q0), .second, .val (.long q2), .second, .val (.int p4), .val (.int p5), .val (.ref b1), .unset, .unset, .unset, .unset, .unset, .unset, .unset, .unset, .unset] [(.int (0 : Int32)), (.ref b1)])
  refine own_go (fun t k => XS.lloadN X1.here hx rfl (hb hby at_8) rfl  k) ?_
  show own_R p e below _ T1 (mkF m 9 #[.val (.long q0), .second, .val (.long q2), .second, .val (.int p4), .val (.int p5), .val (.ref b1), .unset, .unset, .unset, .unset, .unset, .unset, .unset, .unset, .unset] [(.long q0), (.int (0 : Int32)), (.ref b1)])
  obtain ⟨_, _, ⟨T2, L2, k2, n2⟩, -, X2, ⟨Lc2, hQ2, l2, y2, z2⟩, st2⟩ := Jvm.LawKit.callS X1 hx (y := (⟨"com/example/xtd/xtd/model/LineCounterCountPinLaw", "pick", "(J)C"⟩ : MethodName)) hown (mvT hZ (hw _ (List.mem_of_getElem? (i := 1) rfl))) (mvT hZ (hw _ (List.mem_of_getElem? (i := 2) rfl))) (mvT hZ (hw _ (List.mem_of_getElem? (i := 3) rfl))) (mvT hZ (hw _ (List.mem_of_getElem? (i := 4) rfl))) (by decide) (backOf (W := 2) (rmpick l Z a0 hw [] q0 h1 n0 (Nat.le_trans Z0 Kh.1)) hZ (hw _ (List.mem_of_getElem? (i := 4) rfl)) (hw _ (List.mem_of_getElem? (i := 3) rfl)) (by decide) (by decide)) (g := (mkF m 9 #[.val (.long q0), .second, .val (.long q2), .second, .val (.int p4), .val (.int p5), .val (.ref b1), .unset, .unset, .unset, .unset, .unset, .unset, .unset, .unset, .unset] [(.long q0), (.int (0 : Int32)), (.ref b1)])) rfl (by rw [hml]; rfl) (argsL := [(.long q0)]) (rest := [(.int (0 : Int32)), (.ref b1)]) (lenOf pd_0 rfl) rfl (by show 2 * 0 + _ ≤ _; exact Nat.le_of_eq rfl) (hb hby at_9) (fun _ _ => ⟨rfl, e1, (by decide : 1 + 0 ≤ _), (by decide : 4 + 0 ≤ _)⟩)
  dsimp only [Pt.U, Pt.locs, Pt.cells, Pt.slots] at X2 l2 y2 z2 st2 hQ2
  subst l2 y2 z2
  obtain ⟨rfl, Nq2, e2⟩ := hQ2
  obtain ⟨Lh2, X2, N2⟩ := own_hide X2 (Fr.app N0 Nq2)
  refine own_go (st2) ?_
  show own_R p e below _ T2 (mkF m 12 #[.val (.long q0), .second, .val (.long q2), .second, .val (.int p4), .val (.int p5), .val (.ref b1), .unset, .unset, .unset, .unset, .unset, .unset, .unset, .unset, .unset] [(.int (if ((q0 &&& (3 : Int64)).toInt32) = (0 : Int32) then (nar .char (13 : Int32)) else if ((q0 &&& (3 : Int64)).toInt32) = (1 : Int32) then (nar .char (10 : Int32)) else (nar .char ((((q0.toUInt64 >>> ((2 : Int32) &&& 0x3f).toInt64.toUInt64).toInt64) &&& (65535 : Int64)).toInt32.toUInt32.toUInt16.toUInt32.toInt32)))), (.int (0 : Int32)), (.ref b1)])
  obtain ⟨u0, hu0⟩ : ∃ z, z = (if ((q0 &&& (3 : Int64)).toInt32) = (0 : Int32) then (nar .char (13 : Int32)) else if ((q0 &&& (3 : Int64)).toInt32) = (1 : Int32) then (nar .char (10 : Int32)) else (nar .char ((((q0.toUInt64 >>> ((2 : Int32) &&& 0x3f).toInt64.toUInt64).toInt64) &&& (65535 : Int64)).toInt32.toUInt32.toUInt16.toUInt32.toInt32))) := ⟨_, rfl⟩
  rw [← hu0]
  show own_R p e below _ T2 (mkF m 12 #[.val (.long q0), .second, .val (.long q2), .second, .val (.int p4), .val (.int p5), .val (.ref b1), .unset, .unset, .unset, .unset, .unset, .unset, .unset, .unset, .unset] [(.int u0), (.int (0 : Int32)), (.ref b1)])
  obtain ⟨cl3, Ar3, q3, S3, Nn3, Hh3, G3⟩ := id V_b1
  have hin3 : ¬ ((0 : Int32) < 0 ∨ cl3.slots.size ≤ ((0 : Int32)).toNatClampNeg) := inb_of S3 ⟨by decide, by decide⟩
  obtain ⟨T4, h4, X4, e4, W4, st4⟩ := stC X2 hx hZ e2 Ar3 (j := (0 : Int32)) hin3 (g := (mkF m 12 #[.val (.long q0), .second, .val (.long q2), .second, .val (.int p4), .val (.int p5), .val (.ref b1), .unset, .unset, .unset, .unset, .unset, .unset, .unset, .unset, .unset] [(.int u0), (.int (0 : Int32)), (.ref b1)])) rfl rfl (hb hby at_12)
  obtain ⟨Lh4, X4, N4⟩ := own_hide X4 (Fr.snoc X4 N2 g_b1)
  replace Kh := Kh.wr W4 (Or.inr sz_b1)
  have V_b1_4 : Arv Z h4 b1 k1 .char (4 : Int32) [(.int (nar .char u0)), (.int (0 : Int32)), (.int (0 : Int32)), (.int (0 : Int32))] (.int (0 : Int32)) := Arv.set Ar3 q3 S3 Nn3 Hh3 G3 (fits_nar_char _) W4 0 rfl (Nat.le_of_ble_eq_true rfl)
  refine own_go (st4) ?_
  show own_R p e below _ T4 (mkF m 13 #[.val (.long q0), .second, .val (.long q2), .second, .val (.int p4), .val (.int p5), .val (.ref b1), .unset, .unset, .unset, .unset, .unset, .unset, .unset, .unset, .unset] [])
  refine own_go (fun t k => XS.aload X4.here hx rfl (hb hby at_13) rfl rfl  k) ?_
  show own_R p e below _ T4 (mkF m 15 #[.val (.long q0), .second, .val (.long q2), .second, .val (.int p4), .val (.int p5), .val (.ref b1), .unset, .unset, .unset, .unset, .unset, .unset, .unset, .unset, .unset] [(.ref b1)])
  refine own_go (fun t k => XS.iconst X4.here hx rfl (hb hby at_15) k) ?_
  show own_R p e below _ T4 (mkF m 16 #[.val (.long q0), .second, .val (.long q2), .second, .val (.int p4), .val (.int p5), .val (.ref b1), .unset, .unset, .unset, .unset, .unset, .unset, .unset, .unset, .unset] [(.int (1 : Int32)), (.ref b1)])
  refine own_go (fun t k => XS.lloadN X4.here hx rfl (hb hby at_16) rfl  k) ?_
  show own_R p e below _ T4 (mkF m 17 #[.val (.long q0), .second, .val (.long q2), .second, .val (.int p4), .val (.int p5), .val (.ref b1), .unset, .unset, .unset, .unset, .unset, .unset, .unset, .unset, .unset] [(.long q0), (.int (1 : Int32)), (.ref b1)])
  refine own_go (fun t k => XS.bipush X4.here hx rfl (hb hby at_17) k) ?_
  show own_R p e below _ T4 (mkF m 19 #[.val (.long q0), .second, .val (.long q2), .second, .val (.int p4), .val (.int p5), .val (.ref b1), .unset, .unset, .unset, .unset, .unset, .unset, .unset, .unset, .unset] [(.int (18 : Int32)), (.long q0), (.int (1 : Int32)), (.ref b1)])
  refine own_go (fun t k => XS.lushr X4.here hx rfl (hb hby at_19) rfl k) ?_
  show own_R p e below _ T4 (mkF m 20 #[.val (.long q0), .second, .val (.long q2), .second, .val (.int p4), .val (.int p5), .val (.ref b1), .unset, .unset, .unset, .unset, .unset, .unset, .unset, .unset, .unset] [(.long ((q0.toUInt64 >>> ((18 : Int32) &&& 0x3f).toInt64.toUInt64).toInt64)), (.int (1 : Int32)), (.ref b1)])
  obtain ⟨_, _, ⟨T5, L5, k5, n5⟩, -, X5, ⟨Lc5, hQ5, l5, y5, z5⟩, st5⟩ := Jvm.LawKit.callS X4 hx (y := (⟨"com/example/xtd/xtd/model/LineCounterCountPinLaw", "pick", "(J)C"⟩ : MethodName)) hown (mvT hZ (hw _ (List.mem_of_getElem? (i := 1) rfl))) (mvT hZ (hw _ (List.mem_of_getElem? (i := 2) rfl))) (mvT hZ (hw _ (List.mem_of_getElem? (i := 3) rfl))) (mvT hZ (hw _ (List.mem_of_getElem? (i := 4) rfl))) (by decide) (backOf (W := 2) (rmpick l Z a0 hw [] ((q0.toUInt64 >>> ((18 : Int32) &&& 0x3f).toInt64.toUInt64).toInt64) h4 n0 (Nat.le_trans Z0 Kh.1)) hZ (hw _ (List.mem_of_getElem? (i := 4) rfl)) (hw _ (List.mem_of_getElem? (i := 3) rfl)) (by decide) (by decide)) (g := (mkF m 20 #[.val (.long q0), .second, .val (.long q2), .second, .val (.int p4), .val (.int p5), .val (.ref b1), .unset, .unset, .unset, .unset, .unset, .unset, .unset, .unset, .unset] [(.long ((q0.toUInt64 >>> ((18 : Int32) &&& 0x3f).toInt64.toUInt64).toInt64)), (.int (1 : Int32)), (.ref b1)])) rfl (by rw [hml]; rfl) (argsL := [(.long ((q0.toUInt64 >>> ((18 : Int32) &&& 0x3f).toInt64.toUInt64).toInt64))]) (rest := [(.int (1 : Int32)), (.ref b1)]) (lenOf pd_0 rfl) rfl (by show 2 * 0 + _ ≤ _; exact Nat.le_of_eq rfl) (hb hby at_20) (fun _ _ => ⟨rfl, e4, (by decide : 1 + 0 ≤ _), (by decide : 4 + 0 ≤ _)⟩)
  dsimp only [Pt.U, Pt.locs, Pt.cells, Pt.slots] at X5 l5 y5 z5 st5 hQ5
  subst l5 y5 z5
  obtain ⟨rfl, Nq5, e5⟩ := hQ5
  obtain ⟨Lh5, X5, N5⟩ := own_hide X5 (Fr.app N4 Nq5)
  refine own_go (st5) ?_
  show own_R p e below _ T5 (mkF m 23 #[.val (.long q0), .second, .val (.long q2), .second, .val (.int p4), .val (.int p5), .val (.ref b1), .unset, .unset, .unset, .unset, .unset, .unset, .unset, .unset, .unset] [(.int (if ((((q0.toUInt64 >>> ((18 : Int32) &&& 0x3f).toInt64.toUInt64).toInt64) &&& (3 : Int64)).toInt32) = (0 : Int32) then (nar .char (13 : Int32)) else if ((((q0.toUInt64 >>> ((18 : Int32) &&& 0x3f).toInt64.toUInt64).toInt64) &&& (3 : Int64)).toInt32) = (1 : Int32) then (nar .char (10 : Int32)) else (nar .char ((((((q0.toUInt64 >>> ((18 : Int32) &&& 0x3f).toInt64.toUInt64).toInt64).toUInt64 >>> ((2 : Int32) &&& 0x3f).toInt64.toUInt64).toInt64) &&& (65535 : Int64)).toInt32.toUInt32.toUInt16.toUInt32.toInt32)))), (.int (1 : Int32)), (.ref b1)])
  obtain ⟨u1, hu1⟩ : ∃ z, z = (if ((((q0.toUInt64 >>> ((18 : Int32) &&& 0x3f).toInt64.toUInt64).toInt64) &&& (3 : Int64)).toInt32) = (0 : Int32) then (nar .char (13 : Int32)) else if ((((q0.toUInt64 >>> ((18 : Int32) &&& 0x3f).toInt64.toUInt64).toInt64) &&& (3 : Int64)).toInt32) = (1 : Int32) then (nar .char (10 : Int32)) else (nar .char ((((((q0.toUInt64 >>> ((18 : Int32) &&& 0x3f).toInt64.toUInt64).toInt64).toUInt64 >>> ((2 : Int32) &&& 0x3f).toInt64.toUInt64).toInt64) &&& (65535 : Int64)).toInt32.toUInt32.toUInt16.toUInt32.toInt32))) := ⟨_, rfl⟩
  rw [← hu1]
  show own_R p e below _ T5 (mkF m 23 #[.val (.long q0), .second, .val (.long q2), .second, .val (.int p4), .val (.int p5), .val (.ref b1), .unset, .unset, .unset, .unset, .unset, .unset, .unset, .unset, .unset] [(.int u1), (.int (1 : Int32)), (.ref b1)])
  obtain ⟨cl6, Ar6, q6, S6, Nn6, Hh6, G6⟩ := id V_b1_4
  have hin6 : ¬ ((1 : Int32) < 0 ∨ cl6.slots.size ≤ ((1 : Int32)).toNatClampNeg) := inb_of S6 ⟨by decide, by decide⟩
  obtain ⟨T7, h7, X7, e7, W7, st7⟩ := stC X5 hx hZ e5 Ar6 (j := (1 : Int32)) hin6 (g := (mkF m 23 #[.val (.long q0), .second, .val (.long q2), .second, .val (.int p4), .val (.int p5), .val (.ref b1), .unset, .unset, .unset, .unset, .unset, .unset, .unset, .unset, .unset] [(.int u1), (.int (1 : Int32)), (.ref b1)])) rfl rfl (hb hby at_23)
  obtain ⟨Lh7, X7, N7⟩ := own_hide X7 (Fr.snoc X7 N5 g_b1)
  replace Kh := Kh.wr W7 (Or.inr sz_b1)
  have V_b1_7 : Arv Z h7 b1 k1 .char (4 : Int32) [(.int (nar .char u0)), (.int (nar .char u1)), (.int (0 : Int32)), (.int (0 : Int32))] (.int (0 : Int32)) := Arv.set Ar6 q6 S6 Nn6 Hh6 G6 (fits_nar_char _) W7 1 rfl (Nat.le_of_ble_eq_true rfl)
  refine own_go (st7) ?_
  show own_R p e below _ T7 (mkF m 24 #[.val (.long q0), .second, .val (.long q2), .second, .val (.int p4), .val (.int p5), .val (.ref b1), .unset, .unset, .unset, .unset, .unset, .unset, .unset, .unset, .unset] [])
  refine own_go (fun t k => XS.aload X7.here hx rfl (hb hby at_24) rfl rfl  k) ?_
  show own_R p e below _ T7 (mkF m 26 #[.val (.long q0), .second, .val (.long q2), .second, .val (.int p4), .val (.int p5), .val (.ref b1), .unset, .unset, .unset, .unset, .unset, .unset, .unset, .unset, .unset] [(.ref b1)])
  refine own_go (fun t k => XS.iconst X7.here hx rfl (hb hby at_26) k) ?_
  show own_R p e below _ T7 (mkF m 27 #[.val (.long q0), .second, .val (.long q2), .second, .val (.int p4), .val (.int p5), .val (.ref b1), .unset, .unset, .unset, .unset, .unset, .unset, .unset, .unset, .unset] [(.int (2 : Int32)), (.ref b1)])
  refine own_go (fun t k => XS.lloadN X7.here hx rfl (hb hby at_27) rfl  k) ?_
  show own_R p e below _ T7 (mkF m 28 #[.val (.long q0), .second, .val (.long q2), .second, .val (.int p4), .val (.int p5), .val (.ref b1), .unset, .unset, .unset, .unset, .unset, .unset, .unset, .unset, .unset] [(.long q2), (.int (2 : Int32)), (.ref b1)])
  obtain ⟨_, _, ⟨T8, L8, k8, n8⟩, -, X8, ⟨Lc8, hQ8, l8, y8, z8⟩, st8⟩ := Jvm.LawKit.callS X7 hx (y := (⟨"com/example/xtd/xtd/model/LineCounterCountPinLaw", "pick", "(J)C"⟩ : MethodName)) hown (mvT hZ (hw _ (List.mem_of_getElem? (i := 1) rfl))) (mvT hZ (hw _ (List.mem_of_getElem? (i := 2) rfl))) (mvT hZ (hw _ (List.mem_of_getElem? (i := 3) rfl))) (mvT hZ (hw _ (List.mem_of_getElem? (i := 4) rfl))) (by decide) (backOf (W := 2) (rmpick l Z a0 hw [] q2 h7 n0 (Nat.le_trans Z0 Kh.1)) hZ (hw _ (List.mem_of_getElem? (i := 4) rfl)) (hw _ (List.mem_of_getElem? (i := 3) rfl)) (by decide) (by decide)) (g := (mkF m 28 #[.val (.long q0), .second, .val (.long q2), .second, .val (.int p4), .val (.int p5), .val (.ref b1), .unset, .unset, .unset, .unset, .unset, .unset, .unset, .unset, .unset] [(.long q2), (.int (2 : Int32)), (.ref b1)])) rfl (by rw [hml]; rfl) (argsL := [(.long q2)]) (rest := [(.int (2 : Int32)), (.ref b1)]) (lenOf pd_0 rfl) rfl (by show 2 * 0 + _ ≤ _; exact Nat.le_of_eq rfl) (hb hby at_28) (fun _ _ => ⟨rfl, e7, (by decide : 1 + 0 ≤ _), (by decide : 4 + 0 ≤ _)⟩)
  dsimp only [Pt.U, Pt.locs, Pt.cells, Pt.slots] at X8 l8 y8 z8 st8 hQ8
  subst l8 y8 z8
  obtain ⟨rfl, Nq8, e8⟩ := hQ8
  obtain ⟨Lh8, X8, N8⟩ := own_hide X8 (Fr.app N7 Nq8)
  refine own_go (st8) ?_
  show own_R p e below _ T8 (mkF m 31 #[.val (.long q0), .second, .val (.long q2), .second, .val (.int p4), .val (.int p5), .val (.ref b1), .unset, .unset, .unset, .unset, .unset, .unset, .unset, .unset, .unset] [(.int (if ((q2 &&& (3 : Int64)).toInt32) = (0 : Int32) then (nar .char (13 : Int32)) else if ((q2 &&& (3 : Int64)).toInt32) = (1 : Int32) then (nar .char (10 : Int32)) else (nar .char ((((q2.toUInt64 >>> ((2 : Int32) &&& 0x3f).toInt64.toUInt64).toInt64) &&& (65535 : Int64)).toInt32.toUInt32.toUInt16.toUInt32.toInt32)))), (.int (2 : Int32)), (.ref b1)])
  obtain ⟨u2, hu2⟩ : ∃ z, z = (if ((q2 &&& (3 : Int64)).toInt32) = (0 : Int32) then (nar .char (13 : Int32)) else if ((q2 &&& (3 : Int64)).toInt32) = (1 : Int32) then (nar .char (10 : Int32)) else (nar .char ((((q2.toUInt64 >>> ((2 : Int32) &&& 0x3f).toInt64.toUInt64).toInt64) &&& (65535 : Int64)).toInt32.toUInt32.toUInt16.toUInt32.toInt32))) := ⟨_, rfl⟩
  rw [← hu2]
  show own_R p e below _ T8 (mkF m 31 #[.val (.long q0), .second, .val (.long q2), .second, .val (.int p4), .val (.int p5), .val (.ref b1), .unset, .unset, .unset, .unset, .unset, .unset, .unset, .unset, .unset] [(.int u2), (.int (2 : Int32)), (.ref b1)])
  obtain ⟨cl9, Ar9, q9, S9, Nn9, Hh9, G9⟩ := id V_b1_7
  have hin9 : ¬ ((2 : Int32) < 0 ∨ cl9.slots.size ≤ ((2 : Int32)).toNatClampNeg) := inb_of S9 ⟨by decide, by decide⟩
  obtain ⟨T10, h10, X10, e10, W10, st10⟩ := stC X8 hx hZ e8 Ar9 (j := (2 : Int32)) hin9 (g := (mkF m 31 #[.val (.long q0), .second, .val (.long q2), .second, .val (.int p4), .val (.int p5), .val (.ref b1), .unset, .unset, .unset, .unset, .unset, .unset, .unset, .unset, .unset] [(.int u2), (.int (2 : Int32)), (.ref b1)])) rfl rfl (hb hby at_31)
  obtain ⟨Lh10, X10, N10⟩ := own_hide X10 (Fr.snoc X10 N8 g_b1)
  replace Kh := Kh.wr W10 (Or.inr sz_b1)
  have V_b1_10 : Arv Z h10 b1 k1 .char (4 : Int32) [(.int (nar .char u0)), (.int (nar .char u1)), (.int (nar .char u2)), (.int (0 : Int32))] (.int (0 : Int32)) := Arv.set Ar9 q9 S9 Nn9 Hh9 G9 (fits_nar_char _) W10 2 rfl (Nat.le_of_ble_eq_true rfl)
  refine own_go (st10) ?_
  show own_R p e below _ T10 (mkF m 32 #[.val (.long q0), .second, .val (.long q2), .second, .val (.int p4), .val (.int p5), .val (.ref b1), .unset, .unset, .unset, .unset, .unset, .unset, .unset, .unset, .unset] [])
  refine own_go (fun t k => XS.aload X10.here hx rfl (hb hby at_32) rfl rfl  k) ?_
  show own_R p e below _ T10 (mkF m 34 #[.val (.long q0), .second, .val (.long q2), .second, .val (.int p4), .val (.int p5), .val (.ref b1), .unset, .unset, .unset, .unset, .unset, .unset, .unset, .unset, .unset] [(.ref b1)])
  refine own_go (fun t k => XS.iconst X10.here hx rfl (hb hby at_34) k) ?_
  show own_R p e below _ T10 (mkF m 35 #[.val (.long q0), .second, .val (.long q2), .second, .val (.int p4), .val (.int p5), .val (.ref b1), .unset, .unset, .unset, .unset, .unset, .unset, .unset, .unset, .unset] [(.int (3 : Int32)), (.ref b1)])
  refine own_go (fun t k => XS.lloadN X10.here hx rfl (hb hby at_35) rfl  k) ?_
  show own_R p e below _ T10 (mkF m 36 #[.val (.long q0), .second, .val (.long q2), .second, .val (.int p4), .val (.int p5), .val (.ref b1), .unset, .unset, .unset, .unset, .unset, .unset, .unset, .unset, .unset] [(.long q2), (.int (3 : Int32)), (.ref b1)])
  refine own_go (fun t k => XS.bipush X10.here hx rfl (hb hby at_36) k) ?_
  show own_R p e below _ T10 (mkF m 38 #[.val (.long q0), .second, .val (.long q2), .second, .val (.int p4), .val (.int p5), .val (.ref b1), .unset, .unset, .unset, .unset, .unset, .unset, .unset, .unset, .unset] [(.int (18 : Int32)), (.long q2), (.int (3 : Int32)), (.ref b1)])
  refine own_go (fun t k => XS.lushr X10.here hx rfl (hb hby at_38) rfl k) ?_
  show own_R p e below _ T10 (mkF m 39 #[.val (.long q0), .second, .val (.long q2), .second, .val (.int p4), .val (.int p5), .val (.ref b1), .unset, .unset, .unset, .unset, .unset, .unset, .unset, .unset, .unset] [(.long ((q2.toUInt64 >>> ((18 : Int32) &&& 0x3f).toInt64.toUInt64).toInt64)), (.int (3 : Int32)), (.ref b1)])
  obtain ⟨_, _, ⟨T11, L11, k11, n11⟩, -, X11, ⟨Lc11, hQ11, l11, y11, z11⟩, st11⟩ := Jvm.LawKit.callS X10 hx (y := (⟨"com/example/xtd/xtd/model/LineCounterCountPinLaw", "pick", "(J)C"⟩ : MethodName)) hown (mvT hZ (hw _ (List.mem_of_getElem? (i := 1) rfl))) (mvT hZ (hw _ (List.mem_of_getElem? (i := 2) rfl))) (mvT hZ (hw _ (List.mem_of_getElem? (i := 3) rfl))) (mvT hZ (hw _ (List.mem_of_getElem? (i := 4) rfl))) (by decide) (backOf (W := 2) (rmpick l Z a0 hw [] ((q2.toUInt64 >>> ((18 : Int32) &&& 0x3f).toInt64.toUInt64).toInt64) h10 n0 (Nat.le_trans Z0 Kh.1)) hZ (hw _ (List.mem_of_getElem? (i := 4) rfl)) (hw _ (List.mem_of_getElem? (i := 3) rfl)) (by decide) (by decide)) (g := (mkF m 39 #[.val (.long q0), .second, .val (.long q2), .second, .val (.int p4), .val (.int p5), .val (.ref b1), .unset, .unset, .unset, .unset, .unset, .unset, .unset, .unset, .unset] [(.long ((q2.toUInt64 >>> ((18 : Int32) &&& 0x3f).toInt64.toUInt64).toInt64)), (.int (3 : Int32)), (.ref b1)])) rfl (by rw [hml]; rfl) (argsL := [(.long ((q2.toUInt64 >>> ((18 : Int32) &&& 0x3f).toInt64.toUInt64).toInt64))]) (rest := [(.int (3 : Int32)), (.ref b1)]) (lenOf pd_0 rfl) rfl (by show 2 * 0 + _ ≤ _; exact Nat.le_of_eq rfl) (hb hby at_39) (fun _ _ => ⟨rfl, e10, (by decide : 1 + 0 ≤ _), (by decide : 4 + 0 ≤ _)⟩)
  dsimp only [Pt.U, Pt.locs, Pt.cells, Pt.slots] at X11 l11 y11 z11 st11 hQ11
  subst l11 y11 z11
  obtain ⟨rfl, Nq11, e11⟩ := hQ11
  obtain ⟨Lh11, X11, N11⟩ := own_hide X11 (Fr.app N10 Nq11)
  refine own_go (st11) ?_
  show own_R p e below _ T11 (mkF m 42 #[.val (.long q0), .second, .val (.long q2), .second, .val (.int p4), .val (.int p5), .val (.ref b1), .unset, .unset, .unset, .unset, .unset, .unset, .unset, .unset, .unset] [(.int (if ((((q2.toUInt64 >>> ((18 : Int32) &&& 0x3f).toInt64.toUInt64).toInt64) &&& (3 : Int64)).toInt32) = (0 : Int32) then (nar .char (13 : Int32)) else if ((((q2.toUInt64 >>> ((18 : Int32) &&& 0x3f).toInt64.toUInt64).toInt64) &&& (3 : Int64)).toInt32) = (1 : Int32) then (nar .char (10 : Int32)) else (nar .char ((((((q2.toUInt64 >>> ((18 : Int32) &&& 0x3f).toInt64.toUInt64).toInt64).toUInt64 >>> ((2 : Int32) &&& 0x3f).toInt64.toUInt64).toInt64) &&& (65535 : Int64)).toInt32.toUInt32.toUInt16.toUInt32.toInt32)))), (.int (3 : Int32)), (.ref b1)])
  obtain ⟨u3, hu3⟩ : ∃ z, z = (if ((((q2.toUInt64 >>> ((18 : Int32) &&& 0x3f).toInt64.toUInt64).toInt64) &&& (3 : Int64)).toInt32) = (0 : Int32) then (nar .char (13 : Int32)) else if ((((q2.toUInt64 >>> ((18 : Int32) &&& 0x3f).toInt64.toUInt64).toInt64) &&& (3 : Int64)).toInt32) = (1 : Int32) then (nar .char (10 : Int32)) else (nar .char ((((((q2.toUInt64 >>> ((18 : Int32) &&& 0x3f).toInt64.toUInt64).toInt64).toUInt64 >>> ((2 : Int32) &&& 0x3f).toInt64.toUInt64).toInt64) &&& (65535 : Int64)).toInt32.toUInt32.toUInt16.toUInt32.toInt32))) := ⟨_, rfl⟩
  rw [← hu3]
  show own_R p e below _ T11 (mkF m 42 #[.val (.long q0), .second, .val (.long q2), .second, .val (.int p4), .val (.int p5), .val (.ref b1), .unset, .unset, .unset, .unset, .unset, .unset, .unset, .unset, .unset] [(.int u3), (.int (3 : Int32)), (.ref b1)])
  obtain ⟨cl12, Ar12, q12, S12, Nn12, Hh12, G12⟩ := id V_b1_10
  have hin12 : ¬ ((3 : Int32) < 0 ∨ cl12.slots.size ≤ ((3 : Int32)).toNatClampNeg) := inb_of S12 ⟨by decide, by decide⟩
  obtain ⟨T13, h13, X13, e13, W13, st13⟩ := stC X11 hx hZ e11 Ar12 (j := (3 : Int32)) hin12 (g := (mkF m 42 #[.val (.long q0), .second, .val (.long q2), .second, .val (.int p4), .val (.int p5), .val (.ref b1), .unset, .unset, .unset, .unset, .unset, .unset, .unset, .unset, .unset] [(.int u3), (.int (3 : Int32)), (.ref b1)])) rfl rfl (hb hby at_42)
  obtain ⟨Lh13, X13, N13⟩ := own_hide X13 (Fr.snoc X13 N11 g_b1)
  replace Kh := Kh.wr W13 (Or.inr sz_b1)
  have V_b1_13 : Arv Z h13 b1 k1 .char (4 : Int32) [(.int (nar .char u0)), (.int (nar .char u1)), (.int (nar .char u2)), (.int (nar .char u3))] (.int (0 : Int32)) := Arv.set Ar12 q12 S12 Nn12 Hh12 G12 (fits_nar_char _) W13 3 rfl (Nat.le_of_ble_eq_true rfl)
  refine own_go (st13) ?_
  show own_R p e below _ T13 (mkF m 43 #[.val (.long q0), .second, .val (.long q2), .second, .val (.int p4), .val (.int p5), .val (.ref b1), .unset, .unset, .unset, .unset, .unset, .unset, .unset, .unset, .unset] [])
  refine own_go (fun t k => XS.iload X13.here hx rfl (hb hby at_43) rfl  k) ?_
  show own_R p e below _ T13 (mkF m 45 #[.val (.long q0), .second, .val (.long q2), .second, .val (.int p4), .val (.int p5), .val (.ref b1), .unset, .unset, .unset, .unset, .unset, .unset, .unset, .unset, .unset] [(.int p5)])
  refine own_go (fun t k => XS.i2l X13.here hx rfl (hb hby at_45) rfl k) ?_
  show own_R p e below _ T13 (mkF m 46 #[.val (.long q0), .second, .val (.long q2), .second, .val (.int p4), .val (.int p5), .val (.ref b1), .unset, .unset, .unset, .unset, .unset, .unset, .unset, .unset, .unset] [(.long (p5.toInt64))])
  obtain ⟨_, _, ⟨T14, L14, k14, n14⟩, -, X14, ⟨Lc14, hQ14, l14, y14, z14⟩, st14⟩ := Jvm.LawKit.callS X13 hx (y := (⟨"com/example/xtd/xtd/model/LineCounterCountPinLaw", "pick", "(J)C"⟩ : MethodName)) hown (mvT hZ (hw _ (List.mem_of_getElem? (i := 1) rfl))) (mvT hZ (hw _ (List.mem_of_getElem? (i := 2) rfl))) (mvT hZ (hw _ (List.mem_of_getElem? (i := 3) rfl))) (mvT hZ (hw _ (List.mem_of_getElem? (i := 4) rfl))) (by decide) (backOf (W := 0) (rmpick l Z a0 hw [] (p5.toInt64) h13 n0 (Nat.le_trans Z0 Kh.1)) hZ (hw _ (List.mem_of_getElem? (i := 4) rfl)) (hw _ (List.mem_of_getElem? (i := 3) rfl)) (by decide) (by decide)) (g := (mkF m 46 #[.val (.long q0), .second, .val (.long q2), .second, .val (.int p4), .val (.int p5), .val (.ref b1), .unset, .unset, .unset, .unset, .unset, .unset, .unset, .unset, .unset] [(.long (p5.toInt64))])) rfl (by rw [hml]; rfl) (argsL := [(.long (p5.toInt64))]) (rest := []) (lenOf pd_0 rfl) rfl (by show 2 * 0 + _ ≤ _; exact Nat.le_of_eq rfl) (hb hby at_46) (fun _ _ => ⟨rfl, e13, (by decide : 1 + 0 ≤ _), (by decide : 4 + 0 ≤ _)⟩)
  dsimp only [Pt.U, Pt.locs, Pt.cells, Pt.slots] at X14 l14 y14 z14 st14 hQ14
  subst l14 y14 z14
  obtain ⟨rfl, Nq14, e14⟩ := hQ14
  obtain ⟨Lh14, X14, N14⟩ := own_hide X14 (Fr.app N13 Nq14)
  refine own_go (st14) ?_
  show own_R p e below _ T14 (mkF m 49 #[.val (.long q0), .second, .val (.long q2), .second, .val (.int p4), .val (.int p5), .val (.ref b1), .unset, .unset, .unset, .unset, .unset, .unset, .unset, .unset, .unset] [(.int (if (((p5.toInt64) &&& (3 : Int64)).toInt32) = (0 : Int32) then (nar .char (13 : Int32)) else if (((p5.toInt64) &&& (3 : Int64)).toInt32) = (1 : Int32) then (nar .char (10 : Int32)) else (nar .char (((((p5.toInt64).toUInt64 >>> ((2 : Int32) &&& 0x3f).toInt64.toUInt64).toInt64) &&& (65535 : Int64)).toInt32.toUInt32.toUInt16.toUInt32.toInt32))))])
  refine own_go (fun t k => XS.istore X14.here hx rfl (hb hby at_49) rfl (l' := #[.val (.long q0), .second, .val (.long q2), .second, .val (.int p4), .val (.int p5), .val (.ref b1), .val (.int (if (((p5.toInt64) &&& (3 : Int64)).toInt32) = (0 : Int32) then (nar .char (13 : Int32)) else if (((p5.toInt64) &&& (3 : Int64)).toInt32) = (1 : Int32) then (nar .char (10 : Int32)) else (nar .char (((((p5.toInt64).toUInt64 >>> ((2 : Int32) &&& 0x3f).toInt64.toUInt64).toInt64) &&& (65535 : Int64)).toInt32.toUInt32.toUInt16.toUInt32.toInt32)))), .unset, .unset, .unset, .unset, .unset, .unset, .unset, .unset]) rfl k) ?_
  show own_R p e below _ T14 (mkF m 51 #[.val (.long q0), .second, .val (.long q2), .second, .val (.int p4), .val (.int p5), .val (.ref b1), .val (.int (if (((p5.toInt64) &&& (3 : Int64)).toInt32) = (0 : Int32) then (nar .char (13 : Int32)) else if (((p5.toInt64) &&& (3 : Int64)).toInt32) = (1 : Int32) then (nar .char (10 : Int32)) else (nar .char (((((p5.toInt64).toUInt64 >>> ((2 : Int32) &&& 0x3f).toInt64.toUInt64).toInt64) &&& (65535 : Int64)).toInt32.toUInt32.toUInt16.toUInt32.toInt32)))), .unset, .unset, .unset, .unset, .unset, .unset, .unset, .unset] [])
  obtain ⟨qq, hqq⟩ : ∃ z, z = (if (((p5.toInt64) &&& (3 : Int64)).toInt32) = (0 : Int32) then (nar .char (13 : Int32)) else if (((p5.toInt64) &&& (3 : Int64)).toInt32) = (1 : Int32) then (nar .char (10 : Int32)) else (nar .char (((((p5.toInt64).toUInt64 >>> ((2 : Int32) &&& 0x3f).toInt64.toUInt64).toInt64) &&& (65535 : Int64)).toInt32.toUInt32.toUInt16.toUInt32.toInt32))) := ⟨_, rfl⟩
  rw [← hqq]
  show own_R p e below _ T14 (mkF m 51 #[.val (.long q0), .second, .val (.long q2), .second, .val (.int p4), .val (.int p5), .val (.ref b1), .val (.int qq), .unset, .unset, .unset, .unset, .unset, .unset, .unset, .unset] [])
  refine own_go (fun t k => XS.iload X14.here hx rfl (hb hby at_51) rfl  k) ?_
  show own_R p e below _ T14 (mkF m 53 #[.val (.long q0), .second, .val (.long q2), .second, .val (.int p4), .val (.int p5), .val (.ref b1), .val (.int qq), .unset, .unset, .unset, .unset, .unset, .unset, .unset, .unset] [(.int p4)])
  refine own_go (fun t k => XS.sipush X14.here hx rfl (hb hby at_53) k) ?_
  show own_R p e below _ T14 (mkF m 56 #[.val (.long q0), .second, .val (.long q2), .second, .val (.int p4), .val (.int p5), .val (.ref b1), .val (.int qq), .unset, .unset, .unset, .unset, .unset, .unset, .unset, .unset] [(.int (255 : Int32)), (.int p4)])
  refine own_go (fun t k => XS.iand X14.here hx rfl (hb hby at_56) rfl k) ?_
  show own_R p e below _ T14 (mkF m 57 #[.val (.long q0), .second, .val (.long q2), .second, .val (.int p4), .val (.int p5), .val (.ref b1), .val (.int qq), .unset, .unset, .unset, .unset, .unset, .unset, .unset, .unset] [(.int (p4 &&& (255 : Int32)))])
  refine own_go (fun t k => XS.iconst X14.here hx rfl (hb hby at_57) k) ?_
  show own_R p e below _ T14 (mkF m 58 #[.val (.long q0), .second, .val (.long q2), .second, .val (.int p4), .val (.int p5), .val (.ref b1), .val (.int qq), .unset, .unset, .unset, .unset, .unset, .unset, .unset, .unset] [(.int (5 : Int32)), (.int (p4 &&& (255 : Int32)))])
  refine own_go (fun t k => iremM X14 hx rfl (hb hby at_58) rfl (by decide) k) ?_
  show own_R p e below _ T14 (mkF m 59 #[.val (.long q0), .second, .val (.long q2), .second, .val (.int p4), .val (.int p5), .val (.ref b1), .val (.int qq), .unset, .unset, .unset, .unset, .unset, .unset, .unset, .unset] [(.int ((p4 &&& (255 : Int32)) % (5 : Int32)))])
  refine own_go (fun t k => XS.istore X14.here hx rfl (hb hby at_59) rfl (l' := #[.val (.long q0), .second, .val (.long q2), .second, .val (.int p4), .val (.int p5), .val (.ref b1), .val (.int qq), .val (.int ((p4 &&& (255 : Int32)) % (5 : Int32))), .unset, .unset, .unset, .unset, .unset, .unset, .unset]) rfl k) ?_
  show own_R p e below _ T14 (mkF m 61 #[.val (.long q0), .second, .val (.long q2), .second, .val (.int p4), .val (.int p5), .val (.ref b1), .val (.int qq), .val (.int ((p4 &&& (255 : Int32)) % (5 : Int32))), .unset, .unset, .unset, .unset, .unset, .unset, .unset] [])
  have bx := own_rem5 p4
  obtain ⟨xa, hxa⟩ : ∃ z, z = ((p4 &&& (255 : Int32)) % (5 : Int32)) := ⟨_, rfl⟩
  rw [← hxa]
  show own_R p e below _ T14 (mkF m 61 #[.val (.long q0), .second, .val (.long q2), .second, .val (.int p4), .val (.int p5), .val (.ref b1), .val (.int qq), .val (.int xa), .unset, .unset, .unset, .unset, .unset, .unset, .unset] [])
  rw [← hxa] at bx
  refine own_go (fun t k => XS.iload X14.here hx rfl (hb hby at_61) rfl  k) ?_
  show own_R p e below _ T14 (mkF m 63 #[.val (.long q0), .second, .val (.long q2), .second, .val (.int p4), .val (.int p5), .val (.ref b1), .val (.int qq), .val (.int xa), .unset, .unset, .unset, .unset, .unset, .unset, .unset] [(.int p4)])
  refine own_go (fun t k => XS.bipush X14.here hx rfl (hb hby at_63) k) ?_
  show own_R p e below _ T14 (mkF m 65 #[.val (.long q0), .second, .val (.long q2), .second, .val (.int p4), .val (.int p5), .val (.ref b1), .val (.int qq), .val (.int xa), .unset, .unset, .unset, .unset, .unset, .unset, .unset] [(.int (8 : Int32)), (.int p4)])
  refine own_go (fun t k => XS.iushr X14.here hx rfl (hb hby at_65) rfl k) ?_
  show own_R p e below _ T14 (mkF m 66 #[.val (.long q0), .second, .val (.long q2), .second, .val (.int p4), .val (.int p5), .val (.ref b1), .val (.int qq), .val (.int xa), .unset, .unset, .unset, .unset, .unset, .unset, .unset] [(.int ((p4.toUInt32 >>> ((8 : Int32) &&& 31).toUInt32).toInt32))])
  refine own_go (fun t k => XS.sipush X14.here hx rfl (hb hby at_66) k) ?_
  show own_R p e below _ T14 (mkF m 69 #[.val (.long q0), .second, .val (.long q2), .second, .val (.int p4), .val (.int p5), .val (.ref b1), .val (.int qq), .val (.int xa), .unset, .unset, .unset, .unset, .unset, .unset, .unset] [(.int (255 : Int32)), (.int ((p4.toUInt32 >>> ((8 : Int32) &&& 31).toUInt32).toInt32))])
  refine own_go (fun t k => XS.iand X14.here hx rfl (hb hby at_69) rfl k) ?_
  show own_R p e below _ T14 (mkF m 70 #[.val (.long q0), .second, .val (.long q2), .second, .val (.int p4), .val (.int p5), .val (.ref b1), .val (.int qq), .val (.int xa), .unset, .unset, .unset, .unset, .unset, .unset, .unset] [(.int (((p4.toUInt32 >>> ((8 : Int32) &&& 31).toUInt32).toInt32) &&& (255 : Int32)))])
  refine own_go (fun t k => XS.iconst X14.here hx rfl (hb hby at_70) k) ?_
  show own_R p e below _ T14 (mkF m 71 #[.val (.long q0), .second, .val (.long q2), .second, .val (.int p4), .val (.int p5), .val (.ref b1), .val (.int qq), .val (.int xa), .unset, .unset, .unset, .unset, .unset, .unset, .unset] [(.int (5 : Int32)), (.int (((p4.toUInt32 >>> ((8 : Int32) &&& 31).toUInt32).toInt32) &&& (255 : Int32)))])
  refine own_go (fun t k => iremM X14 hx rfl (hb hby at_71) rfl (by decide) k) ?_
  show own_R p e below _ T14 (mkF m 72 #[.val (.long q0), .second, .val (.long q2), .second, .val (.int p4), .val (.int p5), .val (.ref b1), .val (.int qq), .val (.int xa), .unset, .unset, .unset, .unset, .unset, .unset, .unset] [(.int ((((p4.toUInt32 >>> ((8 : Int32) &&& 31).toUInt32).toInt32) &&& (255 : Int32)) % (5 : Int32)))])
  refine own_go (fun t k => XS.istore X14.here hx rfl (hb hby at_72) rfl (l' := #[.val (.long q0), .second, .val (.long q2), .second, .val (.int p4), .val (.int p5), .val (.ref b1), .val (.int qq), .val (.int xa), .val (.int ((((p4.toUInt32 >>> ((8 : Int32) &&& 31).toUInt32).toInt32) &&& (255 : Int32)) % (5 : Int32))), .unset, .unset, .unset, .unset, .unset, .unset]) rfl k) ?_
  show own_R p e below _ T14 (mkF m 74 #[.val (.long q0), .second, .val (.long q2), .second, .val (.int p4), .val (.int p5), .val (.ref b1), .val (.int qq), .val (.int xa), .val (.int ((((p4.toUInt32 >>> ((8 : Int32) &&& 31).toUInt32).toInt32) &&& (255 : Int32)) % (5 : Int32))), .unset, .unset, .unset, .unset, .unset, .unset] [])
  have by0 := own_rem5 ((p4.toUInt32 >>> ((8 : Int32) &&& 31).toUInt32).toInt32)
  obtain ⟨ya, hya⟩ : ∃ z, z = ((((p4.toUInt32 >>> ((8 : Int32) &&& 31).toUInt32).toInt32) &&& (255 : Int32)) % (5 : Int32)) := ⟨_, rfl⟩
  rw [← hya]
  show own_R p e below _ T14 (mkF m 74 #[.val (.long q0), .second, .val (.long q2), .second, .val (.int p4), .val (.int p5), .val (.ref b1), .val (.int qq), .val (.int xa), .val (.int ya), .unset, .unset, .unset, .unset, .unset, .unset] [])
  rw [← hya] at by0
  refine own_go (fun t k => XS.iload X14.here hx rfl (hb hby at_74) rfl  k) ?_
  show own_R p e below _ T14 (mkF m 76 #[.val (.long q0), .second, .val (.long q2), .second, .val (.int p4), .val (.int p5), .val (.ref b1), .val (.int qq), .val (.int xa), .val (.int ya), .unset, .unset, .unset, .unset, .unset, .unset] [(.int xa)])
  refine own_go (fun t k => XS.iload X14.here hx rfl (hb hby at_76) rfl  k) ?_
  show own_R p e below _ T14 (mkF m 78 #[.val (.long q0), .second, .val (.long q2), .second, .val (.int p4), .val (.int p5), .val (.ref b1), .val (.int qq), .val (.int xa), .val (.int ya), .unset, .unset, .unset, .unset, .unset, .unset] [(.int ya), (.int xa)])
  obtain ⟨_, _, ⟨T15, L15, k15, n15⟩, -, X15, ⟨Lc15, hQ15, l15, y15, z15⟩, st15⟩ := Jvm.LawKit.callS X14 hx (y := (⟨"java/lang/Math", "min", "(II)I"⟩ : MethodName)) hown (mvT hZ (hw _ (List.mem_of_getElem? (i := 7) rfl))) (mvT hZ (hw _ (List.mem_of_getElem? (i := 8) rfl))) (mvT hZ (hw _ (List.mem_of_getElem? (i := 9) rfl))) (mvT hZ (hw _ (List.mem_of_getElem? (i := 10) rfl))) (by decide) (backOf (W := 0) (rm2 l Z a0 hw [] xa ya h13 n0 (Nat.le_trans Z0 Kh.1)) hZ (hw _ (List.mem_of_getElem? (i := 10) rfl)) (hw _ (List.mem_of_getElem? (i := 9) rfl)) (by decide) (by decide)) (g := (mkF m 78 #[.val (.long q0), .second, .val (.long q2), .second, .val (.int p4), .val (.int p5), .val (.ref b1), .val (.int qq), .val (.int xa), .val (.int ya), .unset, .unset, .unset, .unset, .unset, .unset] [(.int ya), (.int xa)])) rfl (by rw [hml]; rfl) (argsL := [(.int xa), (.int ya)]) (rest := []) (lenOf pd_1 rfl) rfl (by show 2 * 0 + _ ≤ _; exact Nat.le_of_eq rfl) (hb hby at_78) (fun _ _ => ⟨rfl, e14, (by decide : 1 + 0 ≤ _), (by decide : 4 + 0 ≤ _)⟩)
  dsimp only [Pt.U, Pt.locs, Pt.cells, Pt.slots] at X15 l15 y15 z15 st15 hQ15
  subst l15 y15 z15
  obtain ⟨rfl, Nq15, e15⟩ := hQ15
  obtain ⟨Lh15, X15, N15⟩ := own_hide X15 (Fr.app N14 Nq15)
  refine own_go (st15) ?_
  show own_R p e below _ T15 (mkF m 81 #[.val (.long q0), .second, .val (.long q2), .second, .val (.int p4), .val (.int p5), .val (.ref b1), .val (.int qq), .val (.int xa), .val (.int ya), .unset, .unset, .unset, .unset, .unset, .unset] [(.int (if ya < xa then ya else xa))])
  refine own_go (fun t k => XS.istore X15.here hx rfl (hb hby at_81) rfl (l' := #[.val (.long q0), .second, .val (.long q2), .second, .val (.int p4), .val (.int p5), .val (.ref b1), .val (.int qq), .val (.int xa), .val (.int ya), .val (.int (if ya < xa then ya else xa)), .unset, .unset, .unset, .unset, .unset]) rfl k) ?_
  show own_R p e below _ T15 (mkF m 83 #[.val (.long q0), .second, .val (.long q2), .second, .val (.int p4), .val (.int p5), .val (.ref b1), .val (.int qq), .val (.int xa), .val (.int ya), .val (.int (if ya < xa then ya else xa)), .unset, .unset, .unset, .unset, .unset] [])
  refine own_go (fun t k => XS.iload X15.here hx rfl (hb hby at_83) rfl  k) ?_
  show own_R p e below _ T15 (mkF m 85 #[.val (.long q0), .second, .val (.long q2), .second, .val (.int p4), .val (.int p5), .val (.ref b1), .val (.int qq), .val (.int xa), .val (.int ya), .val (.int (if ya < xa then ya else xa)), .unset, .unset, .unset, .unset, .unset] [(.int xa)])
  refine own_go (fun t k => XS.iload X15.here hx rfl (hb hby at_85) rfl  k) ?_
  show own_R p e below _ T15 (mkF m 87 #[.val (.long q0), .second, .val (.long q2), .second, .val (.int p4), .val (.int p5), .val (.ref b1), .val (.int qq), .val (.int xa), .val (.int ya), .val (.int (if ya < xa then ya else xa)), .unset, .unset, .unset, .unset, .unset] [(.int ya), (.int xa)])
  obtain ⟨_, _, ⟨T16, L16, k16, n16⟩, -, X16, ⟨Lc16, hQ16, l16, y16, z16⟩, st16⟩ := Jvm.LawKit.callS X15 hx (y := (⟨"java/lang/Math", "max", "(II)I"⟩ : MethodName)) hown (mvT hZ (hw _ (List.mem_of_getElem? (i := 11) rfl))) (mvT hZ (hw _ (List.mem_of_getElem? (i := 12) rfl))) (mvT hZ (hw _ (List.mem_of_getElem? (i := 9) rfl))) (mvT hZ (hw _ (List.mem_of_getElem? (i := 13) rfl))) (by decide) (backOf (W := 0) (rm3 l Z a0 hw [] xa ya h13 n0 (Nat.le_trans Z0 Kh.1)) hZ (hw _ (List.mem_of_getElem? (i := 13) rfl)) (hw _ (List.mem_of_getElem? (i := 9) rfl)) (by decide) (by decide)) (g := (mkF m 87 #[.val (.long q0), .second, .val (.long q2), .second, .val (.int p4), .val (.int p5), .val (.ref b1), .val (.int qq), .val (.int xa), .val (.int ya), .val (.int (if ya < xa then ya else xa)), .unset, .unset, .unset, .unset, .unset] [(.int ya), (.int xa)])) rfl (by rw [hml]; rfl) (argsL := [(.int xa), (.int ya)]) (rest := []) (lenOf pd_1 rfl) rfl (by show 2 * 0 + _ ≤ _; exact Nat.le_of_eq rfl) (hb hby at_87) (fun _ _ => ⟨rfl, e15, (by decide : 1 + 0 ≤ _), (by decide : 4 + 0 ≤ _)⟩)
  dsimp only [Pt.U, Pt.locs, Pt.cells, Pt.slots] at X16 l16 y16 z16 st16 hQ16
  subst l16 y16 z16
  obtain ⟨rfl, Nq16, e16⟩ := hQ16
  obtain ⟨Lh16, X16, N16⟩ := own_hide X16 (Fr.app N15 Nq16)
  refine own_go (st16) ?_
  show own_R p e below _ T16 (mkF m 90 #[.val (.long q0), .second, .val (.long q2), .second, .val (.int p4), .val (.int p5), .val (.ref b1), .val (.int qq), .val (.int xa), .val (.int ya), .val (.int (if ya < xa then ya else xa)), .unset, .unset, .unset, .unset, .unset] [(.int (if xa < ya then ya else xa))])
  refine own_go (fun t k => XS.istore X16.here hx rfl (hb hby at_90) rfl (l' := #[.val (.long q0), .second, .val (.long q2), .second, .val (.int p4), .val (.int p5), .val (.ref b1), .val (.int qq), .val (.int xa), .val (.int ya), .val (.int (if ya < xa then ya else xa)), .val (.int (if xa < ya then ya else xa)), .unset, .unset, .unset, .unset]) rfl k) ?_
  show own_R p e below _ T16 (mkF m 92 #[.val (.long q0), .second, .val (.long q2), .second, .val (.int p4), .val (.int p5), .val (.ref b1), .val (.int qq), .val (.int xa), .val (.int ya), .val (.int (if ya < xa then ya else xa)), .val (.int (if xa < ya then ya else xa)), .unset, .unset, .unset, .unset] [])
  have bm := own_mm xa ya bx by0
  obtain ⟨mm, hmm⟩ : ∃ z, z = (if ya < xa then ya else xa) := ⟨_, rfl⟩
  rw [← hmm]
  show own_R p e below _ T16 (mkF m 92 #[.val (.long q0), .second, .val (.long q2), .second, .val (.int p4), .val (.int p5), .val (.ref b1), .val (.int qq), .val (.int xa), .val (.int ya), .val (.int mm), .val (.int (if xa < ya then ya else xa)), .unset, .unset, .unset, .unset] [])
  obtain ⟨tt, htt⟩ : ∃ z, z = (if xa < ya then ya else xa) := ⟨_, rfl⟩
  rw [← htt]
  show own_R p e below _ T16 (mkF m 92 #[.val (.long q0), .second, .val (.long q2), .second, .val (.int p4), .val (.int p5), .val (.ref b1), .val (.int qq), .val (.int xa), .val (.int ya), .val (.int mm), .val (.int tt), .unset, .unset, .unset, .unset] [])
  rw [← hmm, ← htt] at bm
  obtain ⟨T17, h17, X17, e17, E17, A17, D17, -, st17⟩ := newO X16 hx hZ hown (hw _ (List.mem_of_getElem? (i := 14) rfl)) (hw _ (List.mem_of_getElem? (i := 15) rfl)) (hw _ (List.mem_of_getElem? (i := 16) rfl)) e16 (g := (mkF m 92 #[.val (.long q0), .second, .val (.long q2), .second, .val (.int p4), .val (.int p5), .val (.ref b1), .val (.int qq), .val (.int xa), .val (.int ya), .val (.int mm), .val (.int tt), .unset, .unset, .unset, .unset] [])) rfl (hb hby at_92) (by decide) (by decide)
  obtain ⟨b17, g17⟩ : ∃ z, z = h13.size := ⟨_, rfl⟩
  rw [← g17] at A17 D17 st17
  have g_b17 : n0 ≤ b17 := Nat.le_trans (Nat.le_trans Z0 Kh.1) (Nat.le_of_eq g17.symm)
  have sz_b17 : h0.size ≤ b17 := Nat.le_trans Kh.1 (Nat.le_of_eq g17.symm)
  have ne_b1_b17 : b1 ≠ b17 := Nat.ne_of_lt (Nat.lt_of_lt_of_le V_b1_13.lt (Nat.le_of_eq g17.symm))
  replace V_b1_13 := V_b1_13.ext E17
  replace Kh := Kh.ext E17
  have F_line_b17 : Fld Z h17 b17 "com/example/xtd/xtd/model/LineCounter" "line" "I" (.int (0 : Int32)) := D17 (Or.inl (hw _ (List.mem_of_getElem? (i := 24) rfl))) (ty := .int) (by decide)
  have F_column_b17 : Fld Z h17 b17 "com/example/xtd/xtd/model/LineCounter" "column" "I" (.int (0 : Int32)) := D17 (Or.inl (hw _ (List.mem_of_getElem? (i := 26) rfl))) (ty := .int) (by decide)
  have F_afterCarriageReturn_b17 : Fld Z h17 b17 "com/example/xtd/xtd/model/LineCounter" "afterCarriageReturn" "Z" (.int (0 : Int32)) := D17 (Or.inl (hw _ (List.mem_of_getElem? (i := 33) rfl))) (ty := .boolean) (by decide)
  refine own_go (st17) ?_
  show own_R p e below _ T17 (mkF m 95 #[.val (.long q0), .second, .val (.long q2), .second, .val (.int p4), .val (.int p5), .val (.ref b1), .val (.int qq), .val (.int xa), .val (.int ya), .val (.int mm), .val (.int tt), .unset, .unset, .unset, .unset] [(.ref b17)])
  refine own_go (fun t k => XS.dup X17.here hx rfl (hb hby at_95) rfl rfl k) ?_
  show own_R p e below _ T17 (mkF m 96 #[.val (.long q0), .second, .val (.long q2), .second, .val (.int p4), .val (.int p5), .val (.ref b1), .val (.int qq), .val (.int xa), .val (.int ya), .val (.int mm), .val (.int tt), .unset, .unset, .unset, .unset] [(.ref b17), (.ref b17)])
  obtain ⟨_, _, ⟨T18, L18, k18, n18⟩, -, X18, ⟨Lc18, hQ18, l18, y18, z18⟩, st18⟩ := X17.specialBack hx (y := (⟨"com/example/xtd/xtd/model/LineCounter", "<init>", "()V"⟩ : MethodName)) rfl hown (mvT hZ (hw _ (List.mem_of_getElem? (i := 17) rfl))) (mvT hZ (hw _ (List.mem_of_getElem? (i := 18) rfl))) (mvT hZ (hw _ (List.mem_of_getElem? (i := 19) rfl))) (by decide) (backOf (W := 1) (rmlci l Z a0 hw [] b17 h17 n0 (Nat.le_trans Z0 Kh.1) F_line_b17 F_column_b17 F_afterCarriageReturn_b17 A17 g_b17) hZ (hw _ (List.mem_of_getElem? (i := 19) rfl)) (hw _ (List.mem_of_getElem? (i := 16) rfl)) (by decide) (by decide)) (g := (mkF m 96 #[.val (.long q0), .second, .val (.long q2), .second, .val (.int p4), .val (.int p5), .val (.ref b1), .val (.int qq), .val (.int xa), .val (.int ya), .val (.int mm), .val (.int tt), .unset, .unset, .unset, .unset] [(.ref b17), (.ref b17)])) rfl (by rw [hml]; rfl) (Steps.refl _) (a := b17) (argsL := []) (rest := [(.ref b17)]) (lenOf pd_2 rfl) rfl (by show 2 * 0 + _ ≤ _; exact Nat.le_of_eq rfl) (hb hby at_96) (fun _ _ => ⟨rfl, e17, (by decide : 2 + 0 ≤ _), (by decide : 7 + 0 ≤ _)⟩)
  dsimp only [Pt.U, Pt.locs, Pt.cells, Pt.slots] at X18 l18 y18 z18 st18 hQ18
  subst l18 y18 z18
  obtain ⟨rfl, Nq18, K18, E18_a, F18_a_line, F18_a_column, F18_a_afterCarriageReturn⟩ := hQ18
  obtain ⟨Lh18, X18, N18⟩ := own_hide X18 (Fr.app N16 Nq18)
  obtain ⟨h18, e18⟩ : ∃ z, T18.heap = z := ⟨_, rfl⟩
  rw [e18] at K18 E18_a F18_a_line F18_a_column F18_a_afterCarriageReturn
  replace V_b1_13 := V_b1_13.keep K18 (ninS ne_b1_b17 nin0)
  replace Kh := Kh.trans K18 (allS (Or.inr sz_b17) all0)
  refine own_go (fun t k => st18.trans k) ?_
  show own_R p e below _ T18 (mkF m 99 #[.val (.long q0), .second, .val (.long q2), .second, .val (.int p4), .val (.int p5), .val (.ref b1), .val (.int qq), .val (.int xa), .val (.int ya), .val (.int mm), .val (.int tt), .unset, .unset, .unset, .unset] [(.ref b17)])
  refine own_go (fun t k => XS.astore X18.here hx rfl (hb hby at_99) rfl rfl (l' := #[.val (.long q0), .second, .val (.long q2), .second, .val (.int p4), .val (.int p5), .val (.ref b1), .val (.int qq), .val (.int xa), .val (.int ya), .val (.int mm), .val (.int tt), .val (.ref b17), .unset, .unset, .unset]) rfl k) ?_
  show own_R p e below _ T18 (mkF m 101 #[.val (.long q0), .second, .val (.long q2), .second, .val (.int p4), .val (.int p5), .val (.ref b1), .val (.int qq), .val (.int xa), .val (.int ya), .val (.int mm), .val (.int tt), .val (.ref b17), .unset, .unset, .unset] [])
  refine own_go (fun t k => XS.aload X18.here hx rfl (hb hby at_101) rfl rfl  k) ?_
  show own_R p e below _ T18 (mkF m 103 #[.val (.long q0), .second, .val (.long q2), .second, .val (.int p4), .val (.int p5), .val (.ref b1), .val (.int qq), .val (.int xa), .val (.int ya), .val (.int mm), .val (.int tt), .val (.ref b17), .unset, .unset, .unset] [(.ref b17)])
  refine own_go (fun t k => XS.aload X18.here hx rfl (hb hby at_103) rfl rfl  k) ?_
  show own_R p e below _ T18 (mkF m 105 #[.val (.long q0), .second, .val (.long q2), .second, .val (.int p4), .val (.int p5), .val (.ref b1), .val (.int qq), .val (.int xa), .val (.int ya), .val (.int mm), .val (.int tt), .val (.ref b17), .unset, .unset, .unset] [(.ref b1), (.ref b17)])
  refine own_go (fun t k => XS.iconst X18.here hx rfl (hb hby at_105) k) ?_
  show own_R p e below _ T18 (mkF m 106 #[.val (.long q0), .second, .val (.long q2), .second, .val (.int p4), .val (.int p5), .val (.ref b1), .val (.int qq), .val (.int xa), .val (.int ya), .val (.int mm), .val (.int tt), .val (.ref b17), .unset, .unset, .unset] [(.int (0 : Int32)), (.ref b1), (.ref b17)])
  refine own_go (fun t k => XS.iload X18.here hx rfl (hb hby at_106) rfl  k) ?_
  show own_R p e below _ T18 (mkF m 108 #[.val (.long q0), .second, .val (.long q2), .second, .val (.int p4), .val (.int p5), .val (.ref b1), .val (.int qq), .val (.int xa), .val (.int ya), .val (.int mm), .val (.int tt), .val (.ref b17), .unset, .unset, .unset] [(.int mm), (.int (0 : Int32)), (.ref b1), (.ref b17)])
  obtain ⟨cq19, kq19, q19a, q19b, q19c⟩ := isOf hZ e18 E18_a
  obtain ⟨_, _, ⟨T19, L19, k19, n19⟩, -, X19, ⟨Lc19, hQ19, l19, y19, z19⟩, st19⟩ := X18.virtualBack hx (y := (⟨"com/example/xtd/xtd/model/LineCounter", "count", "([CII)V"⟩ : MethodName)) (z := (⟨"com/example/xtd/xtd/model/LineCounter", "count", "([CII)V"⟩ : MethodName)) hown (mvT hZ (hw _ (List.mem_of_getElem? (i := 27) rfl))) (mvT hZ (hw _ (List.mem_of_getElem? (i := 28) rfl))) (notFace_of_selects (args := #[]) (mvT hZ (hw _ (List.mem_of_getElem? (i := 30) rfl)))) (mvT hZ (hw _ (List.mem_of_getElem? (i := 30) rfl))) (mvT hZ (hw _ (List.mem_of_getElem? (i := 29) rfl))) (by decide) (backOf (W := 0) (rmcar l Z a0 hw [] b17 b1 (0 : Int32) mm (1 : Int32) (1 : Int32) (0 : Int32) k1 (nar .char u0) (nar .char u1) (nar .char u2) (nar .char u3) h18 n0 (Nat.le_trans Z0 Kh.1) F18_a_line F18_a_column F18_a_afterCarriageReturn E18_a V_b1_13 g_b17 (Ne.symm ne_b1_b17) (by decide) bm.1 (by omega) (fun h => absurd rfl h) (Or.inl rfl)) hZ (hw _ (List.mem_of_getElem? (i := 31) rfl)) (hw _ (List.mem_of_getElem? (i := 16) rfl)) (by decide) (by decide)) q19a q19c (g := (mkF m 108 #[.val (.long q0), .second, .val (.long q2), .second, .val (.int p4), .val (.int p5), .val (.ref b1), .val (.int qq), .val (.int xa), .val (.int ya), .val (.int mm), .val (.int tt), .val (.ref b17), .unset, .unset, .unset] [(.int mm), (.int (0 : Int32)), (.ref b1), (.ref b17)])) rfl (by rw [hml]; rfl) (Steps.refl _) (argsL := [(.ref b1), (.int (0 : Int32)), (.int mm)]) (rest := []) (lenOf pd_3 rfl) rfl (by show 2 * 0 + _ ≤ _; exact Nat.le_of_eq rfl) (hb hby at_108) (fun _ _ => ⟨rfl, e18, (by decide : 2 + 0 ≤ _), (by decide : 7 + 0 ≤ _)⟩)
  dsimp only [Pt.U, Pt.locs, Pt.cells, Pt.slots] at X19 l19 y19 z19 st19 hQ19
  subst l19 y19 z19
  obtain ⟨lv19, cv19, rv19, rfl, Nq19, hs19, K19, Ew19, Fl19, Fc19, Fr19⟩ := hQ19
  obtain ⟨Lh19, X19, N19⟩ := own_hide X19 (Fr.app N18 Nq19)
  obtain ⟨h19, e19⟩ : ∃ z, T19.heap = z := ⟨_, rfl⟩
  rw [e19] at K19 Ew19 Fl19 Fc19 Fr19
  replace V_b1_13 := V_b1_13.keep K19 (ninS ne_b1_b17 nin0)
  replace Kh := Kh.trans K19 (allS (Or.inr sz_b17) all0)
  refine own_go (fun t k => st19.trans k) ?_
  show own_R p e below _ T19 (mkF m 111 #[.val (.long q0), .second, .val (.long q2), .second, .val (.int p4), .val (.int p5), .val (.ref b1), .val (.int qq), .val (.int xa), .val (.int ya), .val (.int mm), .val (.int tt), .val (.ref b17), .unset, .unset, .unset] [])
  refine own_go (fun t k => XS.aload X19.here hx rfl (hb hby at_111) rfl rfl  k) ?_
  show own_R p e below _ T19 (mkF m 113 #[.val (.long q0), .second, .val (.long q2), .second, .val (.int p4), .val (.int p5), .val (.ref b1), .val (.int qq), .val (.int xa), .val (.int ya), .val (.int mm), .val (.int tt), .val (.ref b17), .unset, .unset, .unset] [(.ref b17)])
  refine own_go (fun t k => XS.aload X19.here hx rfl (hb hby at_113) rfl rfl  k) ?_
  show own_R p e below _ T19 (mkF m 115 #[.val (.long q0), .second, .val (.long q2), .second, .val (.int p4), .val (.int p5), .val (.ref b1), .val (.int qq), .val (.int xa), .val (.int ya), .val (.int mm), .val (.int tt), .val (.ref b17), .unset, .unset, .unset] [(.ref b1), (.ref b17)])
  refine own_go (fun t k => XS.iload X19.here hx rfl (hb hby at_115) rfl  k) ?_
  show own_R p e below _ T19 (mkF m 117 #[.val (.long q0), .second, .val (.long q2), .second, .val (.int p4), .val (.int p5), .val (.ref b1), .val (.int qq), .val (.int xa), .val (.int ya), .val (.int mm), .val (.int tt), .val (.ref b17), .unset, .unset, .unset] [(.int mm), (.ref b1), (.ref b17)])
  refine own_go (fun t k => XS.iload X19.here hx rfl (hb hby at_117) rfl  k) ?_
  show own_R p e below _ T19 (mkF m 119 #[.val (.long q0), .second, .val (.long q2), .second, .val (.int p4), .val (.int p5), .val (.ref b1), .val (.int qq), .val (.int xa), .val (.int ya), .val (.int mm), .val (.int tt), .val (.ref b17), .unset, .unset, .unset] [(.int tt), (.int mm), (.ref b1), (.ref b17)])
  have j1 : own_J (lv19, cv19, rv19) := by rw [hs19]; exact own_runJ _ _ _ _ (fun h => absurd rfl h)
  have j2 : rv19 = (0 : Int32) ∨ rv19 = (1 : Int32) := by have q := own_run01 ([(nar .char u0), (nar .char u1), (nar .char u2), (nar .char u3)] : List Int32) (mm.toInt - (0 : Int32).toInt).toNat (0 : Int32).toInt.toNat ((1 : Int32), (1 : Int32), (0 : Int32)) (Or.inl rfl); rw [← hs19] at q; exact q
  obtain ⟨cq20, kq20, q20a, q20b, q20c⟩ := isOf hZ e19 Ew19
  obtain ⟨_, _, ⟨T20, L20, k20, n20⟩, -, X20, ⟨Lc20, hQ20, l20, y20, z20⟩, st20⟩ := X19.virtualBack hx (y := (⟨"com/example/xtd/xtd/model/LineCounter", "count", "([CII)V"⟩ : MethodName)) (z := (⟨"com/example/xtd/xtd/model/LineCounter", "count", "([CII)V"⟩ : MethodName)) hown (mvT hZ (hw _ (List.mem_of_getElem? (i := 27) rfl))) (mvT hZ (hw _ (List.mem_of_getElem? (i := 28) rfl))) (notFace_of_selects (args := #[]) (mvT hZ (hw _ (List.mem_of_getElem? (i := 30) rfl)))) (mvT hZ (hw _ (List.mem_of_getElem? (i := 30) rfl))) (mvT hZ (hw _ (List.mem_of_getElem? (i := 29) rfl))) (by decide) (backOf (W := 0) (rmcar l Z a0 hw [] b17 b1 mm tt lv19 cv19 rv19 k1 (nar .char u0) (nar .char u1) (nar .char u2) (nar .char u3) h19 n0 (Nat.le_trans Z0 Kh.1) Fl19 Fc19 Fr19 Ew19 V_b1_13 g_b17 (Ne.symm ne_b1_b17) bm.1 bm.2.1 bm.2.2 j1 j2) hZ (hw _ (List.mem_of_getElem? (i := 31) rfl)) (hw _ (List.mem_of_getElem? (i := 16) rfl)) (by decide) (by decide)) q20a q20c (g := (mkF m 119 #[.val (.long q0), .second, .val (.long q2), .second, .val (.int p4), .val (.int p5), .val (.ref b1), .val (.int qq), .val (.int xa), .val (.int ya), .val (.int mm), .val (.int tt), .val (.ref b17), .unset, .unset, .unset] [(.int tt), (.int mm), (.ref b1), (.ref b17)])) rfl (by rw [hml]; rfl) (Steps.refl _) (argsL := [(.ref b1), (.int mm), (.int tt)]) (rest := []) (lenOf pd_3 rfl) rfl (by show 2 * 0 + _ ≤ _; exact Nat.le_of_eq rfl) (hb hby at_119) (fun _ _ => ⟨rfl, e19, (by decide : 2 + 0 ≤ _), (by decide : 7 + 0 ≤ _)⟩)
  dsimp only [Pt.U, Pt.locs, Pt.cells, Pt.slots] at X20 l20 y20 z20 st20 hQ20
  subst l20 y20 z20
  obtain ⟨lv20, cv20, rv20, rfl, Nq20, hs20, K20, Ew20, Fl20, Fc20, Fr20⟩ := hQ20
  obtain ⟨Lh20, X20, N20⟩ := own_hide X20 (Fr.app N19 Nq20)
  obtain ⟨h20, e20⟩ : ∃ z, T20.heap = z := ⟨_, rfl⟩
  rw [e20] at K20 Ew20 Fl20 Fc20 Fr20
  replace V_b1_13 := V_b1_13.keep K20 (ninS ne_b1_b17 nin0)
  replace Kh := Kh.trans K20 (allS (Or.inr sz_b17) all0)
  refine own_go (fun t k => st20.trans k) ?_
  show own_R p e below _ T20 (mkF m 122 #[.val (.long q0), .second, .val (.long q2), .second, .val (.int p4), .val (.int p5), .val (.ref b1), .val (.int qq), .val (.int xa), .val (.int ya), .val (.int mm), .val (.int tt), .val (.ref b17), .unset, .unset, .unset] [])
  refine own_go (fun t k => XS.aload X20.here hx rfl (hb hby at_122) rfl rfl  k) ?_
  show own_R p e below _ T20 (mkF m 124 #[.val (.long q0), .second, .val (.long q2), .second, .val (.int p4), .val (.int p5), .val (.ref b1), .val (.int qq), .val (.int xa), .val (.int ya), .val (.int mm), .val (.int tt), .val (.ref b17), .unset, .unset, .unset] [(.ref b17)])
  refine own_go (fun t k => XS.iload X20.here hx rfl (hb hby at_124) rfl  k) ?_
  show own_R p e below _ T20 (mkF m 126 #[.val (.long q0), .second, .val (.long q2), .second, .val (.int p4), .val (.int p5), .val (.ref b1), .val (.int qq), .val (.int xa), .val (.int ya), .val (.int mm), .val (.int tt), .val (.ref b17), .unset, .unset, .unset] [(.int qq), (.ref b17)])
  obtain ⟨cq21, kq21, q21a, q21b, q21c⟩ := isOf hZ e20 Ew20
  obtain ⟨_, _, ⟨T21, L21, k21, n21⟩, -, X21, ⟨Lc21, hQ21, l21, y21, z21⟩, st21⟩ := X20.virtualBack hx (y := (⟨"com/example/xtd/xtd/model/LineCounter", "count", "(C)V"⟩ : MethodName)) (z := (⟨"com/example/xtd/xtd/model/LineCounter", "count", "(C)V"⟩ : MethodName)) hown (mvT hZ (hw _ (List.mem_of_getElem? (i := 34) rfl))) (mvT hZ (hw _ (List.mem_of_getElem? (i := 35) rfl))) (notFace_of_selects (args := #[]) (mvT hZ (hw _ (List.mem_of_getElem? (i := 37) rfl)))) (mvT hZ (hw _ (List.mem_of_getElem? (i := 37) rfl))) (mvT hZ (hw _ (List.mem_of_getElem? (i := 36) rfl))) (by decide) (backOf (W := 0) (rmcch l Z a0 hw [] b17 qq lv20 cv20 rv20 h20 n0 (Nat.le_trans Z0 Kh.1) Fl20 Fc20 Fr20 Ew20 g_b17) hZ (hw _ (List.mem_of_getElem? (i := 38) rfl)) (hw _ (List.mem_of_getElem? (i := 16) rfl)) (by decide) (by decide)) q21a q21c (g := (mkF m 126 #[.val (.long q0), .second, .val (.long q2), .second, .val (.int p4), .val (.int p5), .val (.ref b1), .val (.int qq), .val (.int xa), .val (.int ya), .val (.int mm), .val (.int tt), .val (.ref b17), .unset, .unset, .unset] [(.int qq), (.ref b17)])) rfl (by rw [hml]; rfl) (Steps.refl _) (argsL := [(.int qq)]) (rest := []) (lenOf pd_4 rfl) rfl (by show 2 * 0 + _ ≤ _; exact Nat.le_of_eq rfl) (hb hby at_126) (fun _ _ => ⟨rfl, e20, (by decide : 2 + 0 ≤ _), (by decide : 7 + 0 ≤ _)⟩)
  dsimp only [Pt.U, Pt.locs, Pt.cells, Pt.slots] at X21 l21 y21 z21 st21 hQ21
  subst l21 y21 z21
  obtain ⟨lv21, cv21, rv21, rfl, Nq21, hs21, K21, Ew21, Fl21, Fc21, Fr21⟩ := hQ21
  obtain ⟨Lh21, X21, N21⟩ := own_hide X21 (Fr.app N20 Nq21)
  obtain ⟨h21, e21⟩ : ∃ z, T21.heap = z := ⟨_, rfl⟩
  rw [e21] at K21 Ew21 Fl21 Fc21 Fr21
  replace V_b1_13 := V_b1_13.keep K21 (ninS ne_b1_b17 nin0)
  replace Kh := Kh.trans K21 (allS (Or.inr sz_b17) all0)
  refine own_go (fun t k => st21.trans k) ?_
  show own_R p e below _ T21 (mkF m 129 #[.val (.long q0), .second, .val (.long q2), .second, .val (.int p4), .val (.int p5), .val (.ref b1), .val (.int qq), .val (.int xa), .val (.int ya), .val (.int mm), .val (.int tt), .val (.ref b17), .unset, .unset, .unset] [])
  obtain ⟨T22, h22, X22, e22, E22, A22, D22, -, st22⟩ := newO X21 hx hZ hown (hw _ (List.mem_of_getElem? (i := 14) rfl)) (hw _ (List.mem_of_getElem? (i := 15) rfl)) (hw _ (List.mem_of_getElem? (i := 16) rfl)) e21 (g := (mkF m 129 #[.val (.long q0), .second, .val (.long q2), .second, .val (.int p4), .val (.int p5), .val (.ref b1), .val (.int qq), .val (.int xa), .val (.int ya), .val (.int mm), .val (.int tt), .val (.ref b17), .unset, .unset, .unset] [])) rfl (hb hby at_129) (by decide) (by decide)
  obtain ⟨b22, g22⟩ : ∃ z, z = h21.size := ⟨_, rfl⟩
  rw [← g22] at A22 D22 st22
  have g_b22 : n0 ≤ b22 := Nat.le_trans (Nat.le_trans Z0 Kh.1) (Nat.le_of_eq g22.symm)
  have sz_b22 : h0.size ≤ b22 := Nat.le_trans Kh.1 (Nat.le_of_eq g22.symm)
  have ne_b1_b22 : b1 ≠ b22 := Nat.ne_of_lt (Nat.lt_of_lt_of_le V_b1_13.lt (Nat.le_of_eq g22.symm))
  have ne_b17_b22 : b17 ≠ b22 := Nat.ne_of_lt (Nat.lt_of_lt_of_le Ew21.lt (Nat.le_of_eq g22.symm))
  replace V_b1_13 := V_b1_13.ext E22
  replace Ew21 := Exa.ext E22 Ew21
  replace Fl21 := Fld.ext E22 Fl21
  replace Fc21 := Fld.ext E22 Fc21
  replace Fr21 := Fld.ext E22 Fr21
  replace Kh := Kh.ext E22
  have F_line_b22 : Fld Z h22 b22 "com/example/xtd/xtd/model/LineCounter" "line" "I" (.int (0 : Int32)) := D22 (Or.inl (hw _ (List.mem_of_getElem? (i := 24) rfl))) (ty := .int) (by decide)
  have F_column_b22 : Fld Z h22 b22 "com/example/xtd/xtd/model/LineCounter" "column" "I" (.int (0 : Int32)) := D22 (Or.inl (hw _ (List.mem_of_getElem? (i := 26) rfl))) (ty := .int) (by decide)
  have F_afterCarriageReturn_b22 : Fld Z h22 b22 "com/example/xtd/xtd/model/LineCounter" "afterCarriageReturn" "Z" (.int (0 : Int32)) := D22 (Or.inl (hw _ (List.mem_of_getElem? (i := 33) rfl))) (ty := .boolean) (by decide)
  refine own_go (st22) ?_
  show own_R p e below _ T22 (mkF m 132 #[.val (.long q0), .second, .val (.long q2), .second, .val (.int p4), .val (.int p5), .val (.ref b1), .val (.int qq), .val (.int xa), .val (.int ya), .val (.int mm), .val (.int tt), .val (.ref b17), .unset, .unset, .unset] [(.ref b22)])
  refine own_go (fun t k => XS.dup X22.here hx rfl (hb hby at_132) rfl rfl k) ?_
  show own_R p e below _ T22 (mkF m 133 #[.val (.long q0), .second, .val (.long q2), .second, .val (.int p4), .val (.int p5), .val (.ref b1), .val (.int qq), .val (.int xa), .val (.int ya), .val (.int mm), .val (.int tt), .val (.ref b17), .unset, .unset, .unset] [(.ref b22), (.ref b22)])
  obtain ⟨_, _, ⟨T23, L23, k23, n23⟩, -, X23, ⟨Lc23, hQ23, l23, y23, z23⟩, st23⟩ := X22.specialBack hx (y := (⟨"com/example/xtd/xtd/model/LineCounter", "<init>", "()V"⟩ : MethodName)) rfl hown (mvT hZ (hw _ (List.mem_of_getElem? (i := 17) rfl))) (mvT hZ (hw _ (List.mem_of_getElem? (i := 18) rfl))) (mvT hZ (hw _ (List.mem_of_getElem? (i := 19) rfl))) (by decide) (backOf (W := 1) (rmlci l Z a0 hw [] b22 h22 n0 (Nat.le_trans Z0 Kh.1) F_line_b22 F_column_b22 F_afterCarriageReturn_b22 A22 g_b22) hZ (hw _ (List.mem_of_getElem? (i := 19) rfl)) (hw _ (List.mem_of_getElem? (i := 16) rfl)) (by decide) (by decide)) (g := (mkF m 133 #[.val (.long q0), .second, .val (.long q2), .second, .val (.int p4), .val (.int p5), .val (.ref b1), .val (.int qq), .val (.int xa), .val (.int ya), .val (.int mm), .val (.int tt), .val (.ref b17), .unset, .unset, .unset] [(.ref b22), (.ref b22)])) rfl (by rw [hml]; rfl) (Steps.refl _) (a := b22) (argsL := []) (rest := [(.ref b22)]) (lenOf pd_2 rfl) rfl (by show 2 * 0 + _ ≤ _; exact Nat.le_of_eq rfl) (hb hby at_133) (fun _ _ => ⟨rfl, e22, (by decide : 3 + 0 ≤ _), (by decide : 10 + 0 ≤ _)⟩)
  dsimp only [Pt.U, Pt.locs, Pt.cells, Pt.slots] at X23 l23 y23 z23 st23 hQ23
  subst l23 y23 z23
  obtain ⟨rfl, Nq23, K23, E23_a, F23_a_line, F23_a_column, F23_a_afterCarriageReturn⟩ := hQ23
  obtain ⟨Lh23, X23, N23⟩ := own_hide X23 (Fr.app N21 Nq23)
  obtain ⟨h23, e23⟩ : ∃ z, T23.heap = z := ⟨_, rfl⟩
  rw [e23] at K23 E23_a F23_a_line F23_a_column F23_a_afterCarriageReturn
  replace V_b1_13 := V_b1_13.keep K23 (ninS ne_b1_b22 nin0)
  replace Ew21 := Exa.keep Ew21 K23
  replace Fl21 := Fl21.keep K23 (ninS ne_b17_b22 nin0)
  replace Fc21 := Fc21.keep K23 (ninS ne_b17_b22 nin0)
  replace Fr21 := Fr21.keep K23 (ninS ne_b17_b22 nin0)
  replace Kh := Kh.trans K23 (allS (Or.inr sz_b22) all0)
  refine own_go (fun t k => st23.trans k) ?_
  show own_R p e below _ T23 (mkF m 136 #[.val (.long q0), .second, .val (.long q2), .second, .val (.int p4), .val (.int p5), .val (.ref b1), .val (.int qq), .val (.int xa), .val (.int ya), .val (.int mm), .val (.int tt), .val (.ref b17), .unset, .unset, .unset] [(.ref b22)])
  refine own_go (fun t k => XS.astore X23.here hx rfl (hb hby at_136) rfl rfl (l' := #[.val (.long q0), .second, .val (.long q2), .second, .val (.int p4), .val (.int p5), .val (.ref b1), .val (.int qq), .val (.int xa), .val (.int ya), .val (.int mm), .val (.int tt), .val (.ref b17), .val (.ref b22), .unset, .unset]) rfl k) ?_
  show own_R p e below _ T23 (mkF m 138 #[.val (.long q0), .second, .val (.long q2), .second, .val (.int p4), .val (.int p5), .val (.ref b1), .val (.int qq), .val (.int xa), .val (.int ya), .val (.int mm), .val (.int tt), .val (.ref b17), .val (.ref b22), .unset, .unset] [])
  refine own_go (fun t k => XS.iload X23.here hx rfl (hb hby at_138) rfl  k) ?_
  show own_R p e below _ T23 (mkF m 140 #[.val (.long q0), .second, .val (.long q2), .second, .val (.int p4), .val (.int p5), .val (.ref b1), .val (.int qq), .val (.int xa), .val (.int ya), .val (.int mm), .val (.int tt), .val (.ref b17), .val (.ref b22), .unset, .unset] [(.int tt)])
  by_cases hc140_24 : (0 : Int32) < tt
  · -- pc 140: yes
    refine own_go (fun t k => XS.ifNo X23.here hx rfl (hb hby at_140) rfl ((if0 _ _).trans (tlt hc140_24).2.2.2) k) ?_
    show own_R p e below _ T23 (mkF m 143 #[.val (.long q0), .second, .val (.long q2), .second, .val (.int p4), .val (.int p5), .val (.ref b1), .val (.int qq), .val (.int xa), .val (.int ya), .val (.int mm), .val (.int tt), .val (.ref b17), .val (.ref b22), .unset, .unset] [])
    refine own_go (fun t k => XS.aload X23.here hx rfl (hb hby at_143) rfl rfl  k) ?_
    show own_R p e below _ T23 (mkF m 145 #[.val (.long q0), .second, .val (.long q2), .second, .val (.int p4), .val (.int p5), .val (.ref b1), .val (.int qq), .val (.int xa), .val (.int ya), .val (.int mm), .val (.int tt), .val (.ref b17), .val (.ref b22), .unset, .unset] [(.ref b22)])
    refine own_go (fun t k => XS.aload X23.here hx rfl (hb hby at_145) rfl rfl  k) ?_
    show own_R p e below _ T23 (mkF m 147 #[.val (.long q0), .second, .val (.long q2), .second, .val (.int p4), .val (.int p5), .val (.ref b1), .val (.int qq), .val (.int xa), .val (.int ya), .val (.int mm), .val (.int tt), .val (.ref b17), .val (.ref b22), .unset, .unset] [(.ref b1), (.ref b22)])
    refine own_go (fun t k => XS.iconst X23.here hx rfl (hb hby at_147) k) ?_
    show own_R p e below _ T23 (mkF m 148 #[.val (.long q0), .second, .val (.long q2), .second, .val (.int p4), .val (.int p5), .val (.ref b1), .val (.int qq), .val (.int xa), .val (.int ya), .val (.int mm), .val (.int tt), .val (.ref b17), .val (.ref b22), .unset, .unset] [(.int (0 : Int32)), (.ref b1), (.ref b22)])
    obtain ⟨cl25, Ar25, q25, S25, Nn25, Hh25, G25⟩ := id V_b1_13
    have hin25 : ¬ ((0 : Int32) < 0 ∨ cl25.slots.size ≤ ((0 : Int32)).toNatClampNeg) := inb_of S25 ⟨by decide, by decide⟩
    have hat25 : cl25.slots[((0 : Int32)).toNatClampNeg]? = some (.int (nar .char u0)) := Has.at Hh25 hin25 rfl
    refine own_go (X23.caload hx (j := (0 : Int32)) (v := (.int (nar .char u0))) (by rw [e23]; exact Ar25.1) (State.isArrayOf_alike hZ.alike Ar25.2.1) Ar25.2.2 hin25 hat25 (g := (mkF m 148 #[.val (.long q0), .second, .val (.long q2), .second, .val (.int p4), .val (.int p5), .val (.ref b1), .val (.int qq), .val (.int xa), .val (.int ya), .val (.int mm), .val (.int tt), .val (.ref b17), .val (.ref b22), .unset, .unset] [(.int (0 : Int32)), (.ref b1), (.ref b22)])) rfl rfl (hb hby at_148)) ?_
    show own_R p e below _ T23 (mkF m 149 #[.val (.long q0), .second, .val (.long q2), .second, .val (.int p4), .val (.int p5), .val (.ref b1), .val (.int qq), .val (.int xa), .val (.int ya), .val (.int mm), .val (.int tt), .val (.ref b17), .val (.ref b22), .unset, .unset] [(.int (nar .char u0)), (.ref b22)])
    obtain ⟨cq26, kq26, q26a, q26b, q26c⟩ := isOf hZ e23 E23_a
    obtain ⟨_, _, ⟨T26, L26, k26, n26⟩, -, X26, ⟨Lc26, hQ26, l26, y26, z26⟩, st26⟩ := X23.virtualBack hx (y := (⟨"com/example/xtd/xtd/model/LineCounter", "count", "(C)V"⟩ : MethodName)) (z := (⟨"com/example/xtd/xtd/model/LineCounter", "count", "(C)V"⟩ : MethodName)) hown (mvT hZ (hw _ (List.mem_of_getElem? (i := 34) rfl))) (mvT hZ (hw _ (List.mem_of_getElem? (i := 35) rfl))) (notFace_of_selects (args := #[]) (mvT hZ (hw _ (List.mem_of_getElem? (i := 37) rfl)))) (mvT hZ (hw _ (List.mem_of_getElem? (i := 37) rfl))) (mvT hZ (hw _ (List.mem_of_getElem? (i := 36) rfl))) (by decide) (backOf (W := 0) (rmcch l Z a0 hw [] b22 (nar .char u0) (1 : Int32) (1 : Int32) (0 : Int32) h23 n0 (Nat.le_trans Z0 Kh.1) F23_a_line F23_a_column F23_a_afterCarriageReturn E23_a g_b22) hZ (hw _ (List.mem_of_getElem? (i := 38) rfl)) (hw _ (List.mem_of_getElem? (i := 16) rfl)) (by decide) (by decide)) q26a q26c (g := (mkF m 149 #[.val (.long q0), .second, .val (.long q2), .second, .val (.int p4), .val (.int p5), .val (.ref b1), .val (.int qq), .val (.int xa), .val (.int ya), .val (.int mm), .val (.int tt), .val (.ref b17), .val (.ref b22), .unset, .unset] [(.int (nar .char u0)), (.ref b22)])) rfl (by rw [hml]; rfl) (Steps.refl _) (argsL := [(.int (nar .char u0))]) (rest := []) (lenOf pd_4 rfl) rfl (by show 2 * 0 + _ ≤ _; exact Nat.le_of_eq rfl) (hb hby at_149) (fun _ _ => ⟨rfl, e23, (by decide : 3 + 0 ≤ _), (by decide : 10 + 0 ≤ _)⟩)
    dsimp only [Pt.U, Pt.locs, Pt.cells, Pt.slots] at X26 l26 y26 z26 st26 hQ26
    subst l26 y26 z26
    obtain ⟨lv26, cv26, rv26, rfl, Nq26, hs26, K26, Ew26, Fl26, Fc26, Fr26⟩ := hQ26
    obtain ⟨Lh26, X26, N26⟩ := own_hide X26 (Fr.app N23 Nq26)
    obtain ⟨h26, e26⟩ : ∃ z, T26.heap = z := ⟨_, rfl⟩
    rw [e26] at K26 Ew26 Fl26 Fc26 Fr26
    replace V_b1_13 := V_b1_13.keep K26 (ninS ne_b1_b22 nin0)
    replace Ew21 := Exa.keep Ew21 K26
    replace Fl21 := Fl21.keep K26 (ninS ne_b17_b22 nin0)
    replace Fc21 := Fc21.keep K26 (ninS ne_b17_b22 nin0)
    replace Fr21 := Fr21.keep K26 (ninS ne_b17_b22 nin0)
    replace Kh := Kh.trans K26 (allS (Or.inr sz_b22) all0)
    refine own_go (fun t k => st26.trans k) ?_
    show own_R p e below _ T26 (mkF m 152 #[.val (.long q0), .second, .val (.long q2), .second, .val (.int p4), .val (.int p5), .val (.ref b1), .val (.int qq), .val (.int xa), .val (.int ya), .val (.int mm), .val (.int tt), .val (.ref b17), .val (.ref b22), .unset, .unset] [])
    refine own_go (fun t k => XS.iload X26.here hx rfl (hb hby at_152) rfl  k) ?_
    show own_R p e below _ T26 (mkF m 154 #[.val (.long q0), .second, .val (.long q2), .second, .val (.int p4), .val (.int p5), .val (.ref b1), .val (.int qq), .val (.int xa), .val (.int ya), .val (.int mm), .val (.int tt), .val (.ref b17), .val (.ref b22), .unset, .unset] [(.int tt)])
    refine own_go (fun t k => XS.iconst X26.here hx rfl (hb hby at_154) k) ?_
    show own_R p e below _ T26 (mkF m 155 #[.val (.long q0), .second, .val (.long q2), .second, .val (.int p4), .val (.int p5), .val (.ref b1), .val (.int qq), .val (.int xa), .val (.int ya), .val (.int mm), .val (.int tt), .val (.ref b17), .val (.ref b22), .unset, .unset] [(.int (1 : Int32)), (.int tt)])
    by_cases hc155_27 : (1 : Int32) < tt
    · -- pc 155: yes
      refine own_go (fun t k => XS.icmpNo X26.here hx rfl (hb hby at_155) rfl (tlt hc155_27).2.2.2 k) ?_
      show own_R p e below _ T26 (mkF m 158 #[.val (.long q0), .second, .val (.long q2), .second, .val (.int p4), .val (.int p5), .val (.ref b1), .val (.int qq), .val (.int xa), .val (.int ya), .val (.int mm), .val (.int tt), .val (.ref b17), .val (.ref b22), .unset, .unset] [])
      refine own_go (fun t k => XS.aload X26.here hx rfl (hb hby at_158) rfl rfl  k) ?_
      show own_R p e below _ T26 (mkF m 160 #[.val (.long q0), .second, .val (.long q2), .second, .val (.int p4), .val (.int p5), .val (.ref b1), .val (.int qq), .val (.int xa), .val (.int ya), .val (.int mm), .val (.int tt), .val (.ref b17), .val (.ref b22), .unset, .unset] [(.ref b22)])
      refine own_go (fun t k => XS.aload X26.here hx rfl (hb hby at_160) rfl rfl  k) ?_
      show own_R p e below _ T26 (mkF m 162 #[.val (.long q0), .second, .val (.long q2), .second, .val (.int p4), .val (.int p5), .val (.ref b1), .val (.int qq), .val (.int xa), .val (.int ya), .val (.int mm), .val (.int tt), .val (.ref b17), .val (.ref b22), .unset, .unset] [(.ref b1), (.ref b22)])
      refine own_go (fun t k => XS.iconst X26.here hx rfl (hb hby at_162) k) ?_
      show own_R p e below _ T26 (mkF m 163 #[.val (.long q0), .second, .val (.long q2), .second, .val (.int p4), .val (.int p5), .val (.ref b1), .val (.int qq), .val (.int xa), .val (.int ya), .val (.int mm), .val (.int tt), .val (.ref b17), .val (.ref b22), .unset, .unset] [(.int (1 : Int32)), (.ref b1), (.ref b22)])
      obtain ⟨cl28, Ar28, q28, S28, Nn28, Hh28, G28⟩ := id V_b1_13
      have hin28 : ¬ ((1 : Int32) < 0 ∨ cl28.slots.size ≤ ((1 : Int32)).toNatClampNeg) := inb_of S28 ⟨by decide, by decide⟩
      have hat28 : cl28.slots[((1 : Int32)).toNatClampNeg]? = some (.int (nar .char u1)) := Has.at Hh28 hin28 rfl
      refine own_go (X26.caload hx (j := (1 : Int32)) (v := (.int (nar .char u1))) (by rw [e26]; exact Ar28.1) (State.isArrayOf_alike hZ.alike Ar28.2.1) Ar28.2.2 hin28 hat28 (g := (mkF m 163 #[.val (.long q0), .second, .val (.long q2), .second, .val (.int p4), .val (.int p5), .val (.ref b1), .val (.int qq), .val (.int xa), .val (.int ya), .val (.int mm), .val (.int tt), .val (.ref b17), .val (.ref b22), .unset, .unset] [(.int (1 : Int32)), (.ref b1), (.ref b22)])) rfl rfl (hb hby at_163)) ?_
      show own_R p e below _ T26 (mkF m 164 #[.val (.long q0), .second, .val (.long q2), .second, .val (.int p4), .val (.int p5), .val (.ref b1), .val (.int qq), .val (.int xa), .val (.int ya), .val (.int mm), .val (.int tt), .val (.ref b17), .val (.ref b22), .unset, .unset] [(.int (nar .char u1)), (.ref b22)])
      obtain ⟨cq29, kq29, q29a, q29b, q29c⟩ := isOf hZ e26 Ew26
      obtain ⟨_, _, ⟨T29, L29, k29, n29⟩, -, X29, ⟨Lc29, hQ29, l29, y29, z29⟩, st29⟩ := X26.virtualBack hx (y := (⟨"com/example/xtd/xtd/model/LineCounter", "count", "(C)V"⟩ : MethodName)) (z := (⟨"com/example/xtd/xtd/model/LineCounter", "count", "(C)V"⟩ : MethodName)) hown (mvT hZ (hw _ (List.mem_of_getElem? (i := 34) rfl))) (mvT hZ (hw _ (List.mem_of_getElem? (i := 35) rfl))) (notFace_of_selects (args := #[]) (mvT hZ (hw _ (List.mem_of_getElem? (i := 37) rfl)))) (mvT hZ (hw _ (List.mem_of_getElem? (i := 37) rfl))) (mvT hZ (hw _ (List.mem_of_getElem? (i := 36) rfl))) (by decide) (backOf (W := 0) (rmcch l Z a0 hw [] b22 (nar .char u1) lv26 cv26 rv26 h26 n0 (Nat.le_trans Z0 Kh.1) Fl26 Fc26 Fr26 Ew26 g_b22) hZ (hw _ (List.mem_of_getElem? (i := 38) rfl)) (hw _ (List.mem_of_getElem? (i := 16) rfl)) (by decide) (by decide)) q29a q29c (g := (mkF m 164 #[.val (.long q0), .second, .val (.long q2), .second, .val (.int p4), .val (.int p5), .val (.ref b1), .val (.int qq), .val (.int xa), .val (.int ya), .val (.int mm), .val (.int tt), .val (.ref b17), .val (.ref b22), .unset, .unset] [(.int (nar .char u1)), (.ref b22)])) rfl (by rw [hml]; rfl) (Steps.refl _) (argsL := [(.int (nar .char u1))]) (rest := []) (lenOf pd_4 rfl) rfl (by show 2 * 0 + _ ≤ _; exact Nat.le_of_eq rfl) (hb hby at_164) (fun _ _ => ⟨rfl, e26, (by decide : 3 + 0 ≤ _), (by decide : 10 + 0 ≤ _)⟩)
      dsimp only [Pt.U, Pt.locs, Pt.cells, Pt.slots] at X29 l29 y29 z29 st29 hQ29
      subst l29 y29 z29
      obtain ⟨lv29, cv29, rv29, rfl, Nq29, hs29, K29, Ew29, Fl29, Fc29, Fr29⟩ := hQ29
      obtain ⟨Lh29, X29, N29⟩ := own_hide X29 (Fr.app N26 Nq29)
      obtain ⟨h29, e29⟩ : ∃ z, T29.heap = z := ⟨_, rfl⟩
      rw [e29] at K29 Ew29 Fl29 Fc29 Fr29
      replace V_b1_13 := V_b1_13.keep K29 (ninS ne_b1_b22 nin0)
      replace Ew21 := Exa.keep Ew21 K29
      replace Fl21 := Fl21.keep K29 (ninS ne_b17_b22 nin0)
      replace Fc21 := Fc21.keep K29 (ninS ne_b17_b22 nin0)
      replace Fr21 := Fr21.keep K29 (ninS ne_b17_b22 nin0)
      replace Kh := Kh.trans K29 (allS (Or.inr sz_b22) all0)
      refine own_go (fun t k => st29.trans k) ?_
      show own_R p e below _ T29 (mkF m 167 #[.val (.long q0), .second, .val (.long q2), .second, .val (.int p4), .val (.int p5), .val (.ref b1), .val (.int qq), .val (.int xa), .val (.int ya), .val (.int mm), .val (.int tt), .val (.ref b17), .val (.ref b22), .unset, .unset] [])
      refine own_go (fun t k => XS.iload X29.here hx rfl (hb hby at_167) rfl  k) ?_
      show own_R p e below _ T29 (mkF m 169 #[.val (.long q0), .second, .val (.long q2), .second, .val (.int p4), .val (.int p5), .val (.ref b1), .val (.int qq), .val (.int xa), .val (.int ya), .val (.int mm), .val (.int tt), .val (.ref b17), .val (.ref b22), .unset, .unset] [(.int tt)])
      refine own_go (fun t k => XS.iconst X29.here hx rfl (hb hby at_169) k) ?_
      show own_R p e below _ T29 (mkF m 170 #[.val (.long q0), .second, .val (.long q2), .second, .val (.int p4), .val (.int p5), .val (.ref b1), .val (.int qq), .val (.int xa), .val (.int ya), .val (.int mm), .val (.int tt), .val (.ref b17), .val (.ref b22), .unset, .unset] [(.int (2 : Int32)), (.int tt)])
      by_cases hc170_30 : (2 : Int32) < tt
      · -- pc 170: yes
        refine own_go (fun t k => XS.icmpNo X29.here hx rfl (hb hby at_170) rfl (tlt hc170_30).2.2.2 k) ?_
        show own_R p e below _ T29 (mkF m 173 #[.val (.long q0), .second, .val (.long q2), .second, .val (.int p4), .val (.int p5), .val (.ref b1), .val (.int qq), .val (.int xa), .val (.int ya), .val (.int mm), .val (.int tt), .val (.ref b17), .val (.ref b22), .unset, .unset] [])
        refine own_go (fun t k => XS.aload X29.here hx rfl (hb hby at_173) rfl rfl  k) ?_
        show own_R p e below _ T29 (mkF m 175 #[.val (.long q0), .second, .val (.long q2), .second, .val (.int p4), .val (.int p5), .val (.ref b1), .val (.int qq), .val (.int xa), .val (.int ya), .val (.int mm), .val (.int tt), .val (.ref b17), .val (.ref b22), .unset, .unset] [(.ref b22)])
        refine own_go (fun t k => XS.aload X29.here hx rfl (hb hby at_175) rfl rfl  k) ?_
        show own_R p e below _ T29 (mkF m 177 #[.val (.long q0), .second, .val (.long q2), .second, .val (.int p4), .val (.int p5), .val (.ref b1), .val (.int qq), .val (.int xa), .val (.int ya), .val (.int mm), .val (.int tt), .val (.ref b17), .val (.ref b22), .unset, .unset] [(.ref b1), (.ref b22)])
        refine own_go (fun t k => XS.iconst X29.here hx rfl (hb hby at_177) k) ?_
        show own_R p e below _ T29 (mkF m 178 #[.val (.long q0), .second, .val (.long q2), .second, .val (.int p4), .val (.int p5), .val (.ref b1), .val (.int qq), .val (.int xa), .val (.int ya), .val (.int mm), .val (.int tt), .val (.ref b17), .val (.ref b22), .unset, .unset] [(.int (2 : Int32)), (.ref b1), (.ref b22)])
        obtain ⟨cl31, Ar31, q31, S31, Nn31, Hh31, G31⟩ := id V_b1_13
        have hin31 : ¬ ((2 : Int32) < 0 ∨ cl31.slots.size ≤ ((2 : Int32)).toNatClampNeg) := inb_of S31 ⟨by decide, by decide⟩
        have hat31 : cl31.slots[((2 : Int32)).toNatClampNeg]? = some (.int (nar .char u2)) := Has.at Hh31 hin31 rfl
        refine own_go (X29.caload hx (j := (2 : Int32)) (v := (.int (nar .char u2))) (by rw [e29]; exact Ar31.1) (State.isArrayOf_alike hZ.alike Ar31.2.1) Ar31.2.2 hin31 hat31 (g := (mkF m 178 #[.val (.long q0), .second, .val (.long q2), .second, .val (.int p4), .val (.int p5), .val (.ref b1), .val (.int qq), .val (.int xa), .val (.int ya), .val (.int mm), .val (.int tt), .val (.ref b17), .val (.ref b22), .unset, .unset] [(.int (2 : Int32)), (.ref b1), (.ref b22)])) rfl rfl (hb hby at_178)) ?_
        show own_R p e below _ T29 (mkF m 179 #[.val (.long q0), .second, .val (.long q2), .second, .val (.int p4), .val (.int p5), .val (.ref b1), .val (.int qq), .val (.int xa), .val (.int ya), .val (.int mm), .val (.int tt), .val (.ref b17), .val (.ref b22), .unset, .unset] [(.int (nar .char u2)), (.ref b22)])
        obtain ⟨cq32, kq32, q32a, q32b, q32c⟩ := isOf hZ e29 Ew29
        obtain ⟨_, _, ⟨T32, L32, k32, n32⟩, -, X32, ⟨Lc32, hQ32, l32, y32, z32⟩, st32⟩ := X29.virtualBack hx (y := (⟨"com/example/xtd/xtd/model/LineCounter", "count", "(C)V"⟩ : MethodName)) (z := (⟨"com/example/xtd/xtd/model/LineCounter", "count", "(C)V"⟩ : MethodName)) hown (mvT hZ (hw _ (List.mem_of_getElem? (i := 34) rfl))) (mvT hZ (hw _ (List.mem_of_getElem? (i := 35) rfl))) (notFace_of_selects (args := #[]) (mvT hZ (hw _ (List.mem_of_getElem? (i := 37) rfl)))) (mvT hZ (hw _ (List.mem_of_getElem? (i := 37) rfl))) (mvT hZ (hw _ (List.mem_of_getElem? (i := 36) rfl))) (by decide) (backOf (W := 0) (rmcch l Z a0 hw [] b22 (nar .char u2) lv29 cv29 rv29 h29 n0 (Nat.le_trans Z0 Kh.1) Fl29 Fc29 Fr29 Ew29 g_b22) hZ (hw _ (List.mem_of_getElem? (i := 38) rfl)) (hw _ (List.mem_of_getElem? (i := 16) rfl)) (by decide) (by decide)) q32a q32c (g := (mkF m 179 #[.val (.long q0), .second, .val (.long q2), .second, .val (.int p4), .val (.int p5), .val (.ref b1), .val (.int qq), .val (.int xa), .val (.int ya), .val (.int mm), .val (.int tt), .val (.ref b17), .val (.ref b22), .unset, .unset] [(.int (nar .char u2)), (.ref b22)])) rfl (by rw [hml]; rfl) (Steps.refl _) (argsL := [(.int (nar .char u2))]) (rest := []) (lenOf pd_4 rfl) rfl (by show 2 * 0 + _ ≤ _; exact Nat.le_of_eq rfl) (hb hby at_179) (fun _ _ => ⟨rfl, e29, (by decide : 3 + 0 ≤ _), (by decide : 10 + 0 ≤ _)⟩)
        dsimp only [Pt.U, Pt.locs, Pt.cells, Pt.slots] at X32 l32 y32 z32 st32 hQ32
        subst l32 y32 z32
        obtain ⟨lv32, cv32, rv32, rfl, Nq32, hs32, K32, Ew32, Fl32, Fc32, Fr32⟩ := hQ32
        obtain ⟨Lh32, X32, N32⟩ := own_hide X32 (Fr.app N29 Nq32)
        obtain ⟨h32, e32⟩ : ∃ z, T32.heap = z := ⟨_, rfl⟩
        rw [e32] at K32 Ew32 Fl32 Fc32 Fr32
        replace V_b1_13 := V_b1_13.keep K32 (ninS ne_b1_b22 nin0)
        replace Ew21 := Exa.keep Ew21 K32
        replace Fl21 := Fl21.keep K32 (ninS ne_b17_b22 nin0)
        replace Fc21 := Fc21.keep K32 (ninS ne_b17_b22 nin0)
        replace Fr21 := Fr21.keep K32 (ninS ne_b17_b22 nin0)
        replace Kh := Kh.trans K32 (allS (Or.inr sz_b22) all0)
        refine own_go (fun t k => st32.trans k) ?_
        show own_R p e below _ T32 (mkF m 182 #[.val (.long q0), .second, .val (.long q2), .second, .val (.int p4), .val (.int p5), .val (.ref b1), .val (.int qq), .val (.int xa), .val (.int ya), .val (.int mm), .val (.int tt), .val (.ref b17), .val (.ref b22), .unset, .unset] [])
        refine own_go (fun t k => XS.iload X32.here hx rfl (hb hby at_182) rfl  k) ?_
        show own_R p e below _ T32 (mkF m 184 #[.val (.long q0), .second, .val (.long q2), .second, .val (.int p4), .val (.int p5), .val (.ref b1), .val (.int qq), .val (.int xa), .val (.int ya), .val (.int mm), .val (.int tt), .val (.ref b17), .val (.ref b22), .unset, .unset] [(.int tt)])
        refine own_go (fun t k => XS.iconst X32.here hx rfl (hb hby at_184) k) ?_
        show own_R p e below _ T32 (mkF m 185 #[.val (.long q0), .second, .val (.long q2), .second, .val (.int p4), .val (.int p5), .val (.ref b1), .val (.int qq), .val (.int xa), .val (.int ya), .val (.int mm), .val (.int tt), .val (.ref b17), .val (.ref b22), .unset, .unset] [(.int (3 : Int32)), (.int tt)])
        by_cases hc185_33 : (3 : Int32) < tt
        · -- pc 185: yes
          refine own_go (fun t k => XS.icmpNo X32.here hx rfl (hb hby at_185) rfl (tlt hc185_33).2.2.2 k) ?_
          show own_R p e below _ T32 (mkF m 188 #[.val (.long q0), .second, .val (.long q2), .second, .val (.int p4), .val (.int p5), .val (.ref b1), .val (.int qq), .val (.int xa), .val (.int ya), .val (.int mm), .val (.int tt), .val (.ref b17), .val (.ref b22), .unset, .unset] [])
          refine own_go (fun t k => XS.aload X32.here hx rfl (hb hby at_188) rfl rfl  k) ?_
          show own_R p e below _ T32 (mkF m 190 #[.val (.long q0), .second, .val (.long q2), .second, .val (.int p4), .val (.int p5), .val (.ref b1), .val (.int qq), .val (.int xa), .val (.int ya), .val (.int mm), .val (.int tt), .val (.ref b17), .val (.ref b22), .unset, .unset] [(.ref b22)])
          refine own_go (fun t k => XS.aload X32.here hx rfl (hb hby at_190) rfl rfl  k) ?_
          show own_R p e below _ T32 (mkF m 192 #[.val (.long q0), .second, .val (.long q2), .second, .val (.int p4), .val (.int p5), .val (.ref b1), .val (.int qq), .val (.int xa), .val (.int ya), .val (.int mm), .val (.int tt), .val (.ref b17), .val (.ref b22), .unset, .unset] [(.ref b1), (.ref b22)])
          refine own_go (fun t k => XS.iconst X32.here hx rfl (hb hby at_192) k) ?_
          show own_R p e below _ T32 (mkF m 193 #[.val (.long q0), .second, .val (.long q2), .second, .val (.int p4), .val (.int p5), .val (.ref b1), .val (.int qq), .val (.int xa), .val (.int ya), .val (.int mm), .val (.int tt), .val (.ref b17), .val (.ref b22), .unset, .unset] [(.int (3 : Int32)), (.ref b1), (.ref b22)])
          obtain ⟨cl34, Ar34, q34, S34, Nn34, Hh34, G34⟩ := id V_b1_13
          have hin34 : ¬ ((3 : Int32) < 0 ∨ cl34.slots.size ≤ ((3 : Int32)).toNatClampNeg) := inb_of S34 ⟨by decide, by decide⟩
          have hat34 : cl34.slots[((3 : Int32)).toNatClampNeg]? = some (.int (nar .char u3)) := Has.at Hh34 hin34 rfl
          refine own_go (X32.caload hx (j := (3 : Int32)) (v := (.int (nar .char u3))) (by rw [e32]; exact Ar34.1) (State.isArrayOf_alike hZ.alike Ar34.2.1) Ar34.2.2 hin34 hat34 (g := (mkF m 193 #[.val (.long q0), .second, .val (.long q2), .second, .val (.int p4), .val (.int p5), .val (.ref b1), .val (.int qq), .val (.int xa), .val (.int ya), .val (.int mm), .val (.int tt), .val (.ref b17), .val (.ref b22), .unset, .unset] [(.int (3 : Int32)), (.ref b1), (.ref b22)])) rfl rfl (hb hby at_193)) ?_
          show own_R p e below _ T32 (mkF m 194 #[.val (.long q0), .second, .val (.long q2), .second, .val (.int p4), .val (.int p5), .val (.ref b1), .val (.int qq), .val (.int xa), .val (.int ya), .val (.int mm), .val (.int tt), .val (.ref b17), .val (.ref b22), .unset, .unset] [(.int (nar .char u3)), (.ref b22)])
          obtain ⟨cq35, kq35, q35a, q35b, q35c⟩ := isOf hZ e32 Ew32
          obtain ⟨_, _, ⟨T35, L35, k35, n35⟩, -, X35, ⟨Lc35, hQ35, l35, y35, z35⟩, st35⟩ := X32.virtualBack hx (y := (⟨"com/example/xtd/xtd/model/LineCounter", "count", "(C)V"⟩ : MethodName)) (z := (⟨"com/example/xtd/xtd/model/LineCounter", "count", "(C)V"⟩ : MethodName)) hown (mvT hZ (hw _ (List.mem_of_getElem? (i := 34) rfl))) (mvT hZ (hw _ (List.mem_of_getElem? (i := 35) rfl))) (notFace_of_selects (args := #[]) (mvT hZ (hw _ (List.mem_of_getElem? (i := 37) rfl)))) (mvT hZ (hw _ (List.mem_of_getElem? (i := 37) rfl))) (mvT hZ (hw _ (List.mem_of_getElem? (i := 36) rfl))) (by decide) (backOf (W := 0) (rmcch l Z a0 hw [] b22 (nar .char u3) lv32 cv32 rv32 h32 n0 (Nat.le_trans Z0 Kh.1) Fl32 Fc32 Fr32 Ew32 g_b22) hZ (hw _ (List.mem_of_getElem? (i := 38) rfl)) (hw _ (List.mem_of_getElem? (i := 16) rfl)) (by decide) (by decide)) q35a q35c (g := (mkF m 194 #[.val (.long q0), .second, .val (.long q2), .second, .val (.int p4), .val (.int p5), .val (.ref b1), .val (.int qq), .val (.int xa), .val (.int ya), .val (.int mm), .val (.int tt), .val (.ref b17), .val (.ref b22), .unset, .unset] [(.int (nar .char u3)), (.ref b22)])) rfl (by rw [hml]; rfl) (Steps.refl _) (argsL := [(.int (nar .char u3))]) (rest := []) (lenOf pd_4 rfl) rfl (by show 2 * 0 + _ ≤ _; exact Nat.le_of_eq rfl) (hb hby at_194) (fun _ _ => ⟨rfl, e32, (by decide : 3 + 0 ≤ _), (by decide : 10 + 0 ≤ _)⟩)
          dsimp only [Pt.U, Pt.locs, Pt.cells, Pt.slots] at X35 l35 y35 z35 st35 hQ35
          subst l35 y35 z35
          obtain ⟨lv35, cv35, rv35, rfl, Nq35, hs35, K35, Ew35, Fl35, Fc35, Fr35⟩ := hQ35
          obtain ⟨Lh35, X35, N35⟩ := own_hide X35 (Fr.app N32 Nq35)
          obtain ⟨h35, e35⟩ : ∃ z, T35.heap = z := ⟨_, rfl⟩
          rw [e35] at K35 Ew35 Fl35 Fc35 Fr35
          replace V_b1_13 := V_b1_13.keep K35 (ninS ne_b1_b22 nin0)
          replace Ew21 := Exa.keep Ew21 K35
          replace Fl21 := Fl21.keep K35 (ninS ne_b17_b22 nin0)
          replace Fc21 := Fc21.keep K35 (ninS ne_b17_b22 nin0)
          replace Fr21 := Fr21.keep K35 (ninS ne_b17_b22 nin0)
          replace Kh := Kh.trans K35 (allS (Or.inr sz_b22) all0)
          refine own_go (fun t k => st35.trans k) ?_
          show own_R p e below _ T35 (mkF m 197 #[.val (.long q0), .second, .val (.long q2), .second, .val (.int p4), .val (.int p5), .val (.ref b1), .val (.int qq), .val (.int xa), .val (.int ya), .val (.int mm), .val (.int tt), .val (.ref b17), .val (.ref b22), .unset, .unset] [])
          refine own_go (fun t k => XS.aload X35.here hx rfl (hb hby at_197) rfl rfl  k) ?_
          show own_R p e below _ T35 (mkF m 199 #[.val (.long q0), .second, .val (.long q2), .second, .val (.int p4), .val (.int p5), .val (.ref b1), .val (.int qq), .val (.int xa), .val (.int ya), .val (.int mm), .val (.int tt), .val (.ref b17), .val (.ref b22), .unset, .unset] [(.ref b22)])
          refine own_go (fun t k => XS.iload X35.here hx rfl (hb hby at_199) rfl  k) ?_
          show own_R p e below _ T35 (mkF m 201 #[.val (.long q0), .second, .val (.long q2), .second, .val (.int p4), .val (.int p5), .val (.ref b1), .val (.int qq), .val (.int xa), .val (.int ya), .val (.int mm), .val (.int tt), .val (.ref b17), .val (.ref b22), .unset, .unset] [(.int qq), (.ref b22)])
          obtain ⟨cq36, kq36, q36a, q36b, q36c⟩ := isOf hZ e35 Ew35
          obtain ⟨_, _, ⟨T36, L36, k36, n36⟩, -, X36, ⟨Lc36, hQ36, l36, y36, z36⟩, st36⟩ := X35.virtualBack hx (y := (⟨"com/example/xtd/xtd/model/LineCounter", "count", "(C)V"⟩ : MethodName)) (z := (⟨"com/example/xtd/xtd/model/LineCounter", "count", "(C)V"⟩ : MethodName)) hown (mvT hZ (hw _ (List.mem_of_getElem? (i := 34) rfl))) (mvT hZ (hw _ (List.mem_of_getElem? (i := 35) rfl))) (notFace_of_selects (args := #[]) (mvT hZ (hw _ (List.mem_of_getElem? (i := 37) rfl)))) (mvT hZ (hw _ (List.mem_of_getElem? (i := 37) rfl))) (mvT hZ (hw _ (List.mem_of_getElem? (i := 36) rfl))) (by decide) (backOf (W := 0) (rmcch l Z a0 hw [] b22 qq lv35 cv35 rv35 h35 n0 (Nat.le_trans Z0 Kh.1) Fl35 Fc35 Fr35 Ew35 g_b22) hZ (hw _ (List.mem_of_getElem? (i := 38) rfl)) (hw _ (List.mem_of_getElem? (i := 16) rfl)) (by decide) (by decide)) q36a q36c (g := (mkF m 201 #[.val (.long q0), .second, .val (.long q2), .second, .val (.int p4), .val (.int p5), .val (.ref b1), .val (.int qq), .val (.int xa), .val (.int ya), .val (.int mm), .val (.int tt), .val (.ref b17), .val (.ref b22), .unset, .unset] [(.int qq), (.ref b22)])) rfl (by rw [hml]; rfl) (Steps.refl _) (argsL := [(.int qq)]) (rest := []) (lenOf pd_4 rfl) rfl (by show 2 * 0 + _ ≤ _; exact Nat.le_of_eq rfl) (hb hby at_201) (fun _ _ => ⟨rfl, e35, (by decide : 3 + 0 ≤ _), (by decide : 10 + 0 ≤ _)⟩)
          dsimp only [Pt.U, Pt.locs, Pt.cells, Pt.slots] at X36 l36 y36 z36 st36 hQ36
          subst l36 y36 z36
          obtain ⟨lv36, cv36, rv36, rfl, Nq36, hs36, K36, Ew36, Fl36, Fc36, Fr36⟩ := hQ36
          obtain ⟨Lh36, X36, N36⟩ := own_hide X36 (Fr.app N35 Nq36)
          obtain ⟨h36, e36⟩ : ∃ z, T36.heap = z := ⟨_, rfl⟩
          rw [e36] at K36 Ew36 Fl36 Fc36 Fr36
          replace V_b1_13 := V_b1_13.keep K36 (ninS ne_b1_b22 nin0)
          replace Ew21 := Exa.keep Ew21 K36
          replace Fl21 := Fl21.keep K36 (ninS ne_b17_b22 nin0)
          replace Fc21 := Fc21.keep K36 (ninS ne_b17_b22 nin0)
          replace Fr21 := Fr21.keep K36 (ninS ne_b17_b22 nin0)
          replace Kh := Kh.trans K36 (allS (Or.inr sz_b22) all0)
          refine own_go (fun t k => st36.trans k) ?_
          show own_R p e below _ T36 (mkF m 204 #[.val (.long q0), .second, .val (.long q2), .second, .val (.int p4), .val (.int p5), .val (.ref b1), .val (.int qq), .val (.int xa), .val (.int ya), .val (.int mm), .val (.int tt), .val (.ref b17), .val (.ref b22), .unset, .unset] [])
          have hn : tt.toInt = 4 := by
            have z37 : 0 < tt.toInt := own_lti hc140_24 rfl rfl
            have z38 : 1 < tt.toInt := own_lti hc155_27 rfl rfl
            have z39 : 2 < tt.toInt := own_lti hc170_30 rfl rfl
            have z40 : 3 < tt.toInt := own_lti hc185_33 rfl rfl
            omega
          have k0 : (0 : Int32).toInt = 0 := rfl
          have hA : (lv20, cv20, rv20) = own_run ([(nar .char u0), (nar .char u1), (nar .char u2), (nar .char u3)] : List Int32) 4 0 ((1 : Int32), (1 : Int32), (0 : Int32)) := by
            have q := own_run_add ([(nar .char u0), (nar .char u1), (nar .char u2), (nar .char u3)] : List Int32) (mm.toInt - (0 : Int32).toInt).toNat (tt.toInt - mm.toInt).toNat (0 : Int32).toInt.toNat ((1 : Int32), (1 : Int32), (0 : Int32))
            rw [← hs19] at q
            rw [hs20, show mm.toInt.toNat = (0 : Int32).toInt.toNat + (mm.toInt - (0 : Int32).toInt).toNat by omega, ← q, show (mm.toInt - (0 : Int32).toInt).toNat + (tt.toInt - mm.toInt).toNat = 4 by omega]
            rfl
          have hB : (lv35, cv35, rv35) = own_run ([(nar .char u0), (nar .char u1), (nar .char u2), (nar .char u3)] : List Int32) 4 0 ((1 : Int32), (1 : Int32), (0 : Int32)) := by
            rw [hs35, hs32, hs29, hs26]
            rfl
          have hE : (lv21, cv21, rv21) = (lv36, cv36, rv36) := by rw [hs21, hs36, hA, ← hB]
          refine own_go (fun t k => XS.aload X36.here hx rfl (hb hby at_204) rfl rfl  k) ?_
          show own_R p e below _ T36 (mkF m 206 #[.val (.long q0), .second, .val (.long q2), .second, .val (.int p4), .val (.int p5), .val (.ref b1), .val (.int qq), .val (.int xa), .val (.int ya), .val (.int mm), .val (.int tt), .val (.ref b17), .val (.ref b22), .unset, .unset] [(.ref b17)])
          refine own_go (fun t k => XS.lconst X36.here hx rfl (hb hby at_206) k) ?_
          show own_R p e below _ T36 (mkF m 207 #[.val (.long q0), .second, .val (.long q2), .second, .val (.int p4), .val (.int p5), .val (.ref b1), .val (.int qq), .val (.int xa), .val (.int ya), .val (.int mm), .val (.int tt), .val (.ref b17), .val (.ref b22), .unset, .unset] [(.long (0 : Int64)), (.ref b17)])
          refine own_go (fun t k => XS.aconstNull X36.here hx rfl (hb hby at_207) k) ?_
          show own_R p e below _ T36 (mkF m 208 #[.val (.long q0), .second, .val (.long q2), .second, .val (.int p4), .val (.int p5), .val (.ref b1), .val (.int qq), .val (.int xa), .val (.int ya), .val (.int mm), .val (.int tt), .val (.ref b17), .val (.ref b22), .unset, .unset] [.null, (.long (0 : Int64)), (.ref b17)])
          obtain ⟨cq41, kq41, q41a, q41b, q41c⟩ := isOf hZ e36 Ew21
          obtain ⟨_, _, ⟨T41, L41, k41, n41⟩, -, X41, ⟨Lc41, hQ41, l41, y41, z41⟩, st41⟩ := X36.virtualBack hx (y := (⟨"com/example/xtd/xtd/model/LineCounter", "position", "(JLjava/lang/String;)Lcom/example/xtd/xtd/model/Position;"⟩ : MethodName)) (z := (⟨"com/example/xtd/xtd/model/LineCounter", "position", "(JLjava/lang/String;)Lcom/example/xtd/xtd/model/Position;"⟩ : MethodName)) hown (mvT hZ (hw _ (List.mem_of_getElem? (i := 39) rfl))) (mvT hZ (hw _ (List.mem_of_getElem? (i := 40) rfl))) (notFace_of_selects (args := #[]) (mvT hZ (hw _ (List.mem_of_getElem? (i := 42) rfl)))) (mvT hZ (hw _ (List.mem_of_getElem? (i := 42) rfl))) (mvT hZ (hw _ (List.mem_of_getElem? (i := 41) rfl))) (by decide) (backOf (W := 0) (rmposn l Z a0 hw [] b17 (0 : Int64) lv21 cv21 rv21 h36 n0 (Nat.le_trans Z0 Kh.1) Fl21 Fc21 Fr21 Ew21) hZ (hw _ (List.mem_of_getElem? (i := 43) rfl)) (hw _ (List.mem_of_getElem? (i := 16) rfl)) (by decide) (by decide)) q41a q41c (g := (mkF m 208 #[.val (.long q0), .second, .val (.long q2), .second, .val (.int p4), .val (.int p5), .val (.ref b1), .val (.int qq), .val (.int xa), .val (.int ya), .val (.int mm), .val (.int tt), .val (.ref b17), .val (.ref b22), .unset, .unset] [.null, (.long (0 : Int64)), (.ref b17)])) rfl (by rw [hml]; rfl) (Steps.refl _) (argsL := [(.long (0 : Int64)), .null]) (rest := []) (lenOf pd_5 rfl) rfl (by show 2 * 0 + _ ≤ _; exact Nat.le_of_eq rfl) (hb hby at_208) (fun _ _ => ⟨rfl, e36, (by decide : 3 + 1 ≤ _), (by decide : 10 + 4 ≤ _)⟩)
          dsimp only [Pt.U, Pt.locs, Pt.cells, Pt.slots] at X41 l41 y41 z41 st41 hQ41
          subst l41 y41 z41
          obtain ⟨b41, rfl, Nq41, K41, gz41_b, E41_b, F41_b_line, F41_b_column, F41_b_offset, F41_b_systemId⟩ := hQ41
          obtain ⟨Lh41, X41, N41⟩ := own_hide X41 (Fr.app N36 Nq41)
          obtain ⟨h41, e41⟩ : ∃ z, T41.heap = z := ⟨_, rfl⟩
          rw [e41] at K41 E41_b F41_b_line F41_b_column F41_b_offset F41_b_systemId
          have ne_b1_b41 : b1 ≠ b41 := Nat.ne_of_lt (Nat.lt_of_lt_of_le V_b1_13.lt gz41_b)
          have ne_b17_b41 : b17 ≠ b41 := Nat.ne_of_lt (Nat.lt_of_lt_of_le Ew21.lt gz41_b)
          have ne_b22_b41 : b22 ≠ b41 := Nat.ne_of_lt (Nat.lt_of_lt_of_le Ew36.lt gz41_b)
          have g_b41 : n0 ≤ b41 := Nat.le_trans (Nat.le_trans Z0 Kh.1) gz41_b
          have sz_b41 : h0.size ≤ b41 := Nat.le_trans Kh.1 gz41_b
          replace V_b1_13 := V_b1_13.keep K41 nin0
          replace Ew21 := Exa.keep Ew21 K41
          replace Fl21 := Fl21.keep K41 nin0
          replace Fc21 := Fc21.keep K41 nin0
          replace Fr21 := Fr21.keep K41 nin0
          replace Ew36 := Exa.keep Ew36 K41
          replace Fl36 := Fl36.keep K41 nin0
          replace Fc36 := Fc36.keep K41 nin0
          replace Fr36 := Fr36.keep K41 nin0
          replace Kh := Kh.trans K41 all0
          refine own_go (fun t k => st41.trans k) ?_
          show own_R p e below _ T41 (mkF m 211 #[.val (.long q0), .second, .val (.long q2), .second, .val (.int p4), .val (.int p5), .val (.ref b1), .val (.int qq), .val (.int xa), .val (.int ya), .val (.int mm), .val (.int tt), .val (.ref b17), .val (.ref b22), .unset, .unset] [(.ref b41)])
          refine own_go (fun t k => XS.astore X41.here hx rfl (hb hby at_211) rfl rfl (l' := #[.val (.long q0), .second, .val (.long q2), .second, .val (.int p4), .val (.int p5), .val (.ref b1), .val (.int qq), .val (.int xa), .val (.int ya), .val (.int mm), .val (.int tt), .val (.ref b17), .val (.ref b22), .val (.ref b41), .unset]) rfl k) ?_
          show own_R p e below _ T41 (mkF m 213 #[.val (.long q0), .second, .val (.long q2), .second, .val (.int p4), .val (.int p5), .val (.ref b1), .val (.int qq), .val (.int xa), .val (.int ya), .val (.int mm), .val (.int tt), .val (.ref b17), .val (.ref b22), .val (.ref b41), .unset] [])
          refine own_go (fun t k => XS.aload X41.here hx rfl (hb hby at_213) rfl rfl  k) ?_
          show own_R p e below _ T41 (mkF m 215 #[.val (.long q0), .second, .val (.long q2), .second, .val (.int p4), .val (.int p5), .val (.ref b1), .val (.int qq), .val (.int xa), .val (.int ya), .val (.int mm), .val (.int tt), .val (.ref b17), .val (.ref b22), .val (.ref b41), .unset] [(.ref b22)])
          refine own_go (fun t k => XS.lconst X41.here hx rfl (hb hby at_215) k) ?_
          show own_R p e below _ T41 (mkF m 216 #[.val (.long q0), .second, .val (.long q2), .second, .val (.int p4), .val (.int p5), .val (.ref b1), .val (.int qq), .val (.int xa), .val (.int ya), .val (.int mm), .val (.int tt), .val (.ref b17), .val (.ref b22), .val (.ref b41), .unset] [(.long (0 : Int64)), (.ref b22)])
          refine own_go (fun t k => XS.aconstNull X41.here hx rfl (hb hby at_216) k) ?_
          show own_R p e below _ T41 (mkF m 217 #[.val (.long q0), .second, .val (.long q2), .second, .val (.int p4), .val (.int p5), .val (.ref b1), .val (.int qq), .val (.int xa), .val (.int ya), .val (.int mm), .val (.int tt), .val (.ref b17), .val (.ref b22), .val (.ref b41), .unset] [.null, (.long (0 : Int64)), (.ref b22)])
          obtain ⟨cq42, kq42, q42a, q42b, q42c⟩ := isOf hZ e41 Ew36
          obtain ⟨_, _, ⟨T42, L42, k42, n42⟩, -, X42, ⟨Lc42, hQ42, l42, y42, z42⟩, st42⟩ := X41.virtualBack hx (y := (⟨"com/example/xtd/xtd/model/LineCounter", "position", "(JLjava/lang/String;)Lcom/example/xtd/xtd/model/Position;"⟩ : MethodName)) (z := (⟨"com/example/xtd/xtd/model/LineCounter", "position", "(JLjava/lang/String;)Lcom/example/xtd/xtd/model/Position;"⟩ : MethodName)) hown (mvT hZ (hw _ (List.mem_of_getElem? (i := 39) rfl))) (mvT hZ (hw _ (List.mem_of_getElem? (i := 40) rfl))) (notFace_of_selects (args := #[]) (mvT hZ (hw _ (List.mem_of_getElem? (i := 42) rfl)))) (mvT hZ (hw _ (List.mem_of_getElem? (i := 42) rfl))) (mvT hZ (hw _ (List.mem_of_getElem? (i := 41) rfl))) (by decide) (backOf (W := 0) (rmposn l Z a0 hw [] b22 (0 : Int64) lv36 cv36 rv36 h41 n0 (Nat.le_trans Z0 Kh.1) Fl36 Fc36 Fr36 Ew36) hZ (hw _ (List.mem_of_getElem? (i := 43) rfl)) (hw _ (List.mem_of_getElem? (i := 16) rfl)) (by decide) (by decide)) q42a q42c (g := (mkF m 217 #[.val (.long q0), .second, .val (.long q2), .second, .val (.int p4), .val (.int p5), .val (.ref b1), .val (.int qq), .val (.int xa), .val (.int ya), .val (.int mm), .val (.int tt), .val (.ref b17), .val (.ref b22), .val (.ref b41), .unset] [.null, (.long (0 : Int64)), (.ref b22)])) rfl (by rw [hml]; rfl) (Steps.refl _) (argsL := [(.long (0 : Int64)), .null]) (rest := []) (lenOf pd_5 rfl) rfl (by show 2 * 0 + _ ≤ _; exact Nat.le_of_eq rfl) (hb hby at_217) (fun _ _ => ⟨rfl, e41, (by decide : 4 + 1 ≤ _), (by decide : 14 + 4 ≤ _)⟩)
          dsimp only [Pt.U, Pt.locs, Pt.cells, Pt.slots] at X42 l42 y42 z42 st42 hQ42
          subst l42 y42 z42
          obtain ⟨b42, rfl, Nq42, K42, gz42_b, E42_b, F42_b_line, F42_b_column, F42_b_offset, F42_b_systemId⟩ := hQ42
          obtain ⟨Lh42, X42, N42⟩ := own_hide X42 (Fr.app N41 Nq42)
          obtain ⟨h42, e42⟩ : ∃ z, T42.heap = z := ⟨_, rfl⟩
          rw [e42] at K42 E42_b F42_b_line F42_b_column F42_b_offset F42_b_systemId
          have ne_b1_b42 : b1 ≠ b42 := Nat.ne_of_lt (Nat.lt_of_lt_of_le V_b1_13.lt gz42_b)
          have ne_b17_b42 : b17 ≠ b42 := Nat.ne_of_lt (Nat.lt_of_lt_of_le Ew21.lt gz42_b)
          have ne_b22_b42 : b22 ≠ b42 := Nat.ne_of_lt (Nat.lt_of_lt_of_le Ew36.lt gz42_b)
          have ne_b41_b42 : b41 ≠ b42 := Nat.ne_of_lt (Nat.lt_of_lt_of_le E41_b.lt gz42_b)
          have g_b42 : n0 ≤ b42 := Nat.le_trans (Nat.le_trans Z0 Kh.1) gz42_b
          have sz_b42 : h0.size ≤ b42 := Nat.le_trans Kh.1 gz42_b
          replace V_b1_13 := V_b1_13.keep K42 nin0
          replace Ew21 := Exa.keep Ew21 K42
          replace Fl21 := Fl21.keep K42 nin0
          replace Fc21 := Fc21.keep K42 nin0
          replace Fr21 := Fr21.keep K42 nin0
          replace Ew36 := Exa.keep Ew36 K42
          replace Fl36 := Fl36.keep K42 nin0
          replace Fc36 := Fc36.keep K42 nin0
          replace Fr36 := Fr36.keep K42 nin0
          replace E41_b := Exa.keep E41_b K42
          replace F41_b_line := F41_b_line.keep K42 nin0
          replace F41_b_column := F41_b_column.keep K42 nin0
          replace F41_b_offset := F41_b_offset.keep K42 nin0
          replace F41_b_systemId := F41_b_systemId.keep K42 nin0
          replace Kh := Kh.trans K42 all0
          refine own_go (fun t k => st42.trans k) ?_
          show own_R p e below _ T42 (mkF m 220 #[.val (.long q0), .second, .val (.long q2), .second, .val (.int p4), .val (.int p5), .val (.ref b1), .val (.int qq), .val (.int xa), .val (.int ya), .val (.int mm), .val (.int tt), .val (.ref b17), .val (.ref b22), .val (.ref b41), .unset] [(.ref b42)])
          refine own_go (fun t k => XS.astore X42.here hx rfl (hb hby at_220) rfl rfl (l' := #[.val (.long q0), .second, .val (.long q2), .second, .val (.int p4), .val (.int p5), .val (.ref b1), .val (.int qq), .val (.int xa), .val (.int ya), .val (.int mm), .val (.int tt), .val (.ref b17), .val (.ref b22), .val (.ref b41), .val (.ref b42)]) rfl k) ?_
          show own_R p e below _ T42 (mkF m 222 #[.val (.long q0), .second, .val (.long q2), .second, .val (.int p4), .val (.int p5), .val (.ref b1), .val (.int qq), .val (.int xa), .val (.int ya), .val (.int mm), .val (.int tt), .val (.ref b17), .val (.ref b22), .val (.ref b41), .val (.ref b42)] [])
          refine own_go (fun t k => XS.aload X42.here hx rfl (hb hby at_222) rfl rfl  k) ?_
          show own_R p e below _ T42 (mkF m 224 #[.val (.long q0), .second, .val (.long q2), .second, .val (.int p4), .val (.int p5), .val (.ref b1), .val (.int qq), .val (.int xa), .val (.int ya), .val (.int mm), .val (.int tt), .val (.ref b17), .val (.ref b22), .val (.ref b41), .val (.ref b42)] [(.ref b41)])
          obtain ⟨cq43, kq43, q43a, q43b, q43c⟩ := isOf hZ e42 E41_b
          obtain ⟨_, _, ⟨T43, L43, k43, n43⟩, -, X43, ⟨Lc43, hQ43, l43, y43, z43⟩, st43⟩ := X42.virtualBack hx (y := (⟨"com/example/xtd/xtd/model/Position", "line", "()I"⟩ : MethodName)) (z := (⟨"com/example/xtd/xtd/model/Position", "line", "()I"⟩ : MethodName)) hown (mvT hZ (hw _ (List.mem_of_getElem? (i := 64) rfl))) (mvT hZ (hw _ (List.mem_of_getElem? (i := 65) rfl))) (notFace_of_selects (args := #[]) (mvT hZ (hw _ (List.mem_of_getElem? (i := 67) rfl)))) (mvT hZ (hw _ (List.mem_of_getElem? (i := 67) rfl))) (mvT hZ (hw _ (List.mem_of_getElem? (i := 66) rfl))) (by decide) (backOf (W := 0) (rmgline l Z a0 hw [] b41 lv21 cv21 (0 : Int64) h42 n0 (Nat.le_trans Z0 Kh.1) F41_b_line F41_b_column F41_b_offset F41_b_systemId E41_b) hZ (hw _ (List.mem_of_getElem? (i := 68) rfl)) (hw _ (List.mem_of_getElem? (i := 46) rfl)) (by decide) (by decide)) q43a q43c (g := (mkF m 224 #[.val (.long q0), .second, .val (.long q2), .second, .val (.int p4), .val (.int p5), .val (.ref b1), .val (.int qq), .val (.int xa), .val (.int ya), .val (.int mm), .val (.int tt), .val (.ref b17), .val (.ref b22), .val (.ref b41), .val (.ref b42)] [(.ref b41)])) rfl (by rw [hml]; rfl) (Steps.refl _) (argsL := []) (rest := []) (lenOf pd_7 rfl) rfl (by show 2 * 0 + _ ≤ _; exact Nat.le_of_eq rfl) (hb hby at_224) (fun _ _ => ⟨rfl, e42, (by decide : 5 + 0 ≤ _), (by decide : 18 + 0 ≤ _)⟩)
          dsimp only [Pt.U, Pt.locs, Pt.cells, Pt.slots] at X43 l43 y43 z43 st43 hQ43
          subst l43 y43 z43
          obtain ⟨rfl, Nq43, e43⟩ := hQ43
          obtain ⟨Lh43, X43, N43⟩ := own_hide X43 (Fr.app N42 Nq43)
          refine own_go (fun t k => st43.trans k) ?_
          show own_R p e below _ T43 (mkF m 227 #[.val (.long q0), .second, .val (.long q2), .second, .val (.int p4), .val (.int p5), .val (.ref b1), .val (.int qq), .val (.int xa), .val (.int ya), .val (.int mm), .val (.int tt), .val (.ref b17), .val (.ref b22), .val (.ref b41), .val (.ref b42)] [(.int lv21)])
          refine own_go (fun t k => XS.aload X43.here hx rfl (hb hby at_227) rfl rfl  k) ?_
          show own_R p e below _ T43 (mkF m 229 #[.val (.long q0), .second, .val (.long q2), .second, .val (.int p4), .val (.int p5), .val (.ref b1), .val (.int qq), .val (.int xa), .val (.int ya), .val (.int mm), .val (.int tt), .val (.ref b17), .val (.ref b22), .val (.ref b41), .val (.ref b42)] [(.ref b42), (.int lv21)])
          obtain ⟨cq44, kq44, q44a, q44b, q44c⟩ := isOf hZ e43 E42_b
          obtain ⟨_, _, ⟨T44, L44, k44, n44⟩, -, X44, ⟨Lc44, hQ44, l44, y44, z44⟩, st44⟩ := X43.virtualBack hx (y := (⟨"com/example/xtd/xtd/model/Position", "line", "()I"⟩ : MethodName)) (z := (⟨"com/example/xtd/xtd/model/Position", "line", "()I"⟩ : MethodName)) hown (mvT hZ (hw _ (List.mem_of_getElem? (i := 64) rfl))) (mvT hZ (hw _ (List.mem_of_getElem? (i := 65) rfl))) (notFace_of_selects (args := #[]) (mvT hZ (hw _ (List.mem_of_getElem? (i := 67) rfl)))) (mvT hZ (hw _ (List.mem_of_getElem? (i := 67) rfl))) (mvT hZ (hw _ (List.mem_of_getElem? (i := 66) rfl))) (by decide) (backOf (W := 1) (rmgline l Z a0 hw [] b42 lv36 cv36 (0 : Int64) h42 n0 (Nat.le_trans Z0 Kh.1) F42_b_line F42_b_column F42_b_offset F42_b_systemId E42_b) hZ (hw _ (List.mem_of_getElem? (i := 68) rfl)) (hw _ (List.mem_of_getElem? (i := 46) rfl)) (by decide) (by decide)) q44a q44c (g := (mkF m 229 #[.val (.long q0), .second, .val (.long q2), .second, .val (.int p4), .val (.int p5), .val (.ref b1), .val (.int qq), .val (.int xa), .val (.int ya), .val (.int mm), .val (.int tt), .val (.ref b17), .val (.ref b22), .val (.ref b41), .val (.ref b42)] [(.ref b42), (.int lv21)])) rfl (by rw [hml]; rfl) (Steps.refl _) (argsL := []) (rest := [(.int lv21)]) (lenOf pd_7 rfl) rfl (by show 2 * 0 + _ ≤ _; exact Nat.le_of_eq rfl) (hb hby at_229) (fun _ _ => ⟨rfl, e43, (by decide : 5 + 0 ≤ _), (by decide : 18 + 0 ≤ _)⟩)
          dsimp only [Pt.U, Pt.locs, Pt.cells, Pt.slots] at X44 l44 y44 z44 st44 hQ44
          subst l44 y44 z44
          obtain ⟨rfl, Nq44, e44⟩ := hQ44
          obtain ⟨Lh44, X44, N44⟩ := own_hide X44 (Fr.app N43 Nq44)
          refine own_go (fun t k => st44.trans k) ?_
          show own_R p e below _ T44 (mkF m 232 #[.val (.long q0), .second, .val (.long q2), .second, .val (.int p4), .val (.int p5), .val (.ref b1), .val (.int qq), .val (.int xa), .val (.int ya), .val (.int mm), .val (.int tt), .val (.ref b17), .val (.ref b22), .val (.ref b41), .val (.ref b42)] [(.int lv36), (.int lv21)])
          refine own_go (fun t k => XS.icmpNo X44.here hx rfl (hb hby at_232) rfl (teq (Prod.mk.inj hE).1).2 k) ?_
          show own_R p e below _ T44 (mkF m 235 #[.val (.long q0), .second, .val (.long q2), .second, .val (.int p4), .val (.int p5), .val (.ref b1), .val (.int qq), .val (.int xa), .val (.int ya), .val (.int mm), .val (.int tt), .val (.ref b17), .val (.ref b22), .val (.ref b41), .val (.ref b42)] [])
          refine own_go (fun t k => XS.aload X44.here hx rfl (hb hby at_235) rfl rfl  k) ?_
          show own_R p e below _ T44 (mkF m 237 #[.val (.long q0), .second, .val (.long q2), .second, .val (.int p4), .val (.int p5), .val (.ref b1), .val (.int qq), .val (.int xa), .val (.int ya), .val (.int mm), .val (.int tt), .val (.ref b17), .val (.ref b22), .val (.ref b41), .val (.ref b42)] [(.ref b41)])
          obtain ⟨cq45, kq45, q45a, q45b, q45c⟩ := isOf hZ e44 E41_b
          obtain ⟨_, _, ⟨T45, L45, k45, n45⟩, -, X45, ⟨Lc45, hQ45, l45, y45, z45⟩, st45⟩ := X44.virtualBack hx (y := (⟨"com/example/xtd/xtd/model/Position", "column", "()I"⟩ : MethodName)) (z := (⟨"com/example/xtd/xtd/model/Position", "column", "()I"⟩ : MethodName)) hown (mvT hZ (hw _ (List.mem_of_getElem? (i := 69) rfl))) (mvT hZ (hw _ (List.mem_of_getElem? (i := 70) rfl))) (notFace_of_selects (args := #[]) (mvT hZ (hw _ (List.mem_of_getElem? (i := 72) rfl)))) (mvT hZ (hw _ (List.mem_of_getElem? (i := 72) rfl))) (mvT hZ (hw _ (List.mem_of_getElem? (i := 71) rfl))) (by decide) (backOf (W := 0) (rmgcolumn l Z a0 hw [] b41 lv21 cv21 (0 : Int64) h42 n0 (Nat.le_trans Z0 Kh.1) F41_b_line F41_b_column F41_b_offset F41_b_systemId E41_b) hZ (hw _ (List.mem_of_getElem? (i := 73) rfl)) (hw _ (List.mem_of_getElem? (i := 46) rfl)) (by decide) (by decide)) q45a q45c (g := (mkF m 237 #[.val (.long q0), .second, .val (.long q2), .second, .val (.int p4), .val (.int p5), .val (.ref b1), .val (.int qq), .val (.int xa), .val (.int ya), .val (.int mm), .val (.int tt), .val (.ref b17), .val (.ref b22), .val (.ref b41), .val (.ref b42)] [(.ref b41)])) rfl (by rw [hml]; rfl) (Steps.refl _) (argsL := []) (rest := []) (lenOf pd_7 rfl) rfl (by show 2 * 0 + _ ≤ _; exact Nat.le_of_eq rfl) (hb hby at_237) (fun _ _ => ⟨rfl, e44, (by decide : 5 + 0 ≤ _), (by decide : 18 + 0 ≤ _)⟩)
          dsimp only [Pt.U, Pt.locs, Pt.cells, Pt.slots] at X45 l45 y45 z45 st45 hQ45
          subst l45 y45 z45
          obtain ⟨rfl, Nq45, e45⟩ := hQ45
          obtain ⟨Lh45, X45, N45⟩ := own_hide X45 (Fr.app N44 Nq45)
          refine own_go (fun t k => st45.trans k) ?_
          show own_R p e below _ T45 (mkF m 240 #[.val (.long q0), .second, .val (.long q2), .second, .val (.int p4), .val (.int p5), .val (.ref b1), .val (.int qq), .val (.int xa), .val (.int ya), .val (.int mm), .val (.int tt), .val (.ref b17), .val (.ref b22), .val (.ref b41), .val (.ref b42)] [(.int cv21)])
          refine own_go (fun t k => XS.aload X45.here hx rfl (hb hby at_240) rfl rfl  k) ?_
          show own_R p e below _ T45 (mkF m 242 #[.val (.long q0), .second, .val (.long q2), .second, .val (.int p4), .val (.int p5), .val (.ref b1), .val (.int qq), .val (.int xa), .val (.int ya), .val (.int mm), .val (.int tt), .val (.ref b17), .val (.ref b22), .val (.ref b41), .val (.ref b42)] [(.ref b42), (.int cv21)])
          obtain ⟨cq46, kq46, q46a, q46b, q46c⟩ := isOf hZ e45 E42_b
          obtain ⟨_, _, ⟨T46, L46, k46, n46⟩, -, X46, ⟨Lc46, hQ46, l46, y46, z46⟩, st46⟩ := X45.virtualBack hx (y := (⟨"com/example/xtd/xtd/model/Position", "column", "()I"⟩ : MethodName)) (z := (⟨"com/example/xtd/xtd/model/Position", "column", "()I"⟩ : MethodName)) hown (mvT hZ (hw _ (List.mem_of_getElem? (i := 69) rfl))) (mvT hZ (hw _ (List.mem_of_getElem? (i := 70) rfl))) (notFace_of_selects (args := #[]) (mvT hZ (hw _ (List.mem_of_getElem? (i := 72) rfl)))) (mvT hZ (hw _ (List.mem_of_getElem? (i := 72) rfl))) (mvT hZ (hw _ (List.mem_of_getElem? (i := 71) rfl))) (by decide) (backOf (W := 1) (rmgcolumn l Z a0 hw [] b42 lv36 cv36 (0 : Int64) h42 n0 (Nat.le_trans Z0 Kh.1) F42_b_line F42_b_column F42_b_offset F42_b_systemId E42_b) hZ (hw _ (List.mem_of_getElem? (i := 73) rfl)) (hw _ (List.mem_of_getElem? (i := 46) rfl)) (by decide) (by decide)) q46a q46c (g := (mkF m 242 #[.val (.long q0), .second, .val (.long q2), .second, .val (.int p4), .val (.int p5), .val (.ref b1), .val (.int qq), .val (.int xa), .val (.int ya), .val (.int mm), .val (.int tt), .val (.ref b17), .val (.ref b22), .val (.ref b41), .val (.ref b42)] [(.ref b42), (.int cv21)])) rfl (by rw [hml]; rfl) (Steps.refl _) (argsL := []) (rest := [(.int cv21)]) (lenOf pd_7 rfl) rfl (by show 2 * 0 + _ ≤ _; exact Nat.le_of_eq rfl) (hb hby at_242) (fun _ _ => ⟨rfl, e45, (by decide : 5 + 0 ≤ _), (by decide : 18 + 0 ≤ _)⟩)
          dsimp only [Pt.U, Pt.locs, Pt.cells, Pt.slots] at X46 l46 y46 z46 st46 hQ46
          subst l46 y46 z46
          obtain ⟨rfl, Nq46, e46⟩ := hQ46
          obtain ⟨Lh46, X46, N46⟩ := own_hide X46 (Fr.app N45 Nq46)
          refine own_go (fun t k => st46.trans k) ?_
          show own_R p e below _ T46 (mkF m 245 #[.val (.long q0), .second, .val (.long q2), .second, .val (.int p4), .val (.int p5), .val (.ref b1), .val (.int qq), .val (.int xa), .val (.int ya), .val (.int mm), .val (.int tt), .val (.ref b17), .val (.ref b22), .val (.ref b41), .val (.ref b42)] [(.int cv36), (.int cv21)])
          refine own_go (fun t k => XS.icmpNo X46.here hx rfl (hb hby at_245) rfl (teq (Prod.mk.inj (Prod.mk.inj hE).2).1).2 k) ?_
          show own_R p e below _ T46 (mkF m 248 #[.val (.long q0), .second, .val (.long q2), .second, .val (.int p4), .val (.int p5), .val (.ref b1), .val (.int qq), .val (.int xa), .val (.int ya), .val (.int mm), .val (.int tt), .val (.ref b17), .val (.ref b22), .val (.ref b41), .val (.ref b42)] [])
          refine own_go (fun t k => XS.iconst X46.here hx rfl (hb hby at_248) k) ?_
          show own_R p e below _ T46 (mkF m 249 #[.val (.long q0), .second, .val (.long q2), .second, .val (.int p4), .val (.int p5), .val (.ref b1), .val (.int qq), .val (.int xa), .val (.int ya), .val (.int mm), .val (.int tt), .val (.ref b17), .val (.ref b22), .val (.ref b41), .val (.ref b42)] [(.int (1 : Int32))])
          refine own_go (fun t k => XS.goto X46.here hx rfl (pc0 := 249) (pc' := 253) rfl (hb hby at_249) (by decide) (by decide) k) ?_
          show own_R p e below _ T46 (mkF m 253 #[.val (.long q0), .second, .val (.long q2), .second, .val (.int p4), .val (.int p5), .val (.ref b1), .val (.int qq), .val (.int xa), .val (.int ya), .val (.int mm), .val (.int tt), .val (.ref b17), .val (.ref b22), .val (.ref b41), .val (.ref b42)] [(.int (1 : Int32))])
          refine own_retN X46 hx Bd.returns (by simp) (BodyLoose.notSynchronized Bd) (hb hby at_253) (by decide) (by decide) ?_
          exact ⟨rfl, N46⟩
        · -- pc 185: no
          refine own_go (fun t k => XS.icmpYes X32.here hx rfl (pc0 := 185) (pc' := 197) rfl (hb hby at_185) rfl (flt hc185_33).2.2.2 (by decide) (by decide) k) ?_
          show own_R p e below _ T32 (mkF m 197 #[.val (.long q0), .second, .val (.long q2), .second, .val (.int p4), .val (.int p5), .val (.ref b1), .val (.int qq), .val (.int xa), .val (.int ya), .val (.int mm), .val (.int tt), .val (.ref b17), .val (.ref b22), .unset, .unset] [])
          refine own_go (fun t k => XS.aload X32.here hx rfl (hb hby at_197) rfl rfl  k) ?_
          show own_R p e below _ T32 (mkF m 199 #[.val (.long q0), .second, .val (.long q2), .second, .val (.int p4), .val (.int p5), .val (.ref b1), .val (.int qq), .val (.int xa), .val (.int ya), .val (.int mm), .val (.int tt), .val (.ref b17), .val (.ref b22), .unset, .unset] [(.ref b22)])
          refine own_go (fun t k => XS.iload X32.here hx rfl (hb hby at_199) rfl  k) ?_
          show own_R p e below _ T32 (mkF m 201 #[.val (.long q0), .second, .val (.long q2), .second, .val (.int p4), .val (.int p5), .val (.ref b1), .val (.int qq), .val (.int xa), .val (.int ya), .val (.int mm), .val (.int tt), .val (.ref b17), .val (.ref b22), .unset, .unset] [(.int qq), (.ref b22)])
          obtain ⟨cq47, kq47, q47a, q47b, q47c⟩ := isOf hZ e32 Ew32
          obtain ⟨_, _, ⟨T47, L47, k47, n47⟩, -, X47, ⟨Lc47, hQ47, l47, y47, z47⟩, st47⟩ := X32.virtualBack hx (y := (⟨"com/example/xtd/xtd/model/LineCounter", "count", "(C)V"⟩ : MethodName)) (z := (⟨"com/example/xtd/xtd/model/LineCounter", "count", "(C)V"⟩ : MethodName)) hown (mvT hZ (hw _ (List.mem_of_getElem? (i := 34) rfl))) (mvT hZ (hw _ (List.mem_of_getElem? (i := 35) rfl))) (notFace_of_selects (args := #[]) (mvT hZ (hw _ (List.mem_of_getElem? (i := 37) rfl)))) (mvT hZ (hw _ (List.mem_of_getElem? (i := 37) rfl))) (mvT hZ (hw _ (List.mem_of_getElem? (i := 36) rfl))) (by decide) (backOf (W := 0) (rmcch l Z a0 hw [] b22 qq lv32 cv32 rv32 h32 n0 (Nat.le_trans Z0 Kh.1) Fl32 Fc32 Fr32 Ew32 g_b22) hZ (hw _ (List.mem_of_getElem? (i := 38) rfl)) (hw _ (List.mem_of_getElem? (i := 16) rfl)) (by decide) (by decide)) q47a q47c (g := (mkF m 201 #[.val (.long q0), .second, .val (.long q2), .second, .val (.int p4), .val (.int p5), .val (.ref b1), .val (.int qq), .val (.int xa), .val (.int ya), .val (.int mm), .val (.int tt), .val (.ref b17), .val (.ref b22), .unset, .unset] [(.int qq), (.ref b22)])) rfl (by rw [hml]; rfl) (Steps.refl _) (argsL := [(.int qq)]) (rest := []) (lenOf pd_4 rfl) rfl (by show 2 * 0 + _ ≤ _; exact Nat.le_of_eq rfl) (hb hby at_201) (fun _ _ => ⟨rfl, e32, (by decide : 3 + 0 ≤ _), (by decide : 10 + 0 ≤ _)⟩)
          dsimp only [Pt.U, Pt.locs, Pt.cells, Pt.slots] at X47 l47 y47 z47 st47 hQ47
          subst l47 y47 z47
          obtain ⟨lv47, cv47, rv47, rfl, Nq47, hs47, K47, Ew47, Fl47, Fc47, Fr47⟩ := hQ47
          obtain ⟨Lh47, X47, N47⟩ := own_hide X47 (Fr.app N32 Nq47)
          obtain ⟨h47, e47⟩ : ∃ z, T47.heap = z := ⟨_, rfl⟩
          rw [e47] at K47 Ew47 Fl47 Fc47 Fr47
          replace V_b1_13 := V_b1_13.keep K47 (ninS ne_b1_b22 nin0)
          replace Ew21 := Exa.keep Ew21 K47
          replace Fl21 := Fl21.keep K47 (ninS ne_b17_b22 nin0)
          replace Fc21 := Fc21.keep K47 (ninS ne_b17_b22 nin0)
          replace Fr21 := Fr21.keep K47 (ninS ne_b17_b22 nin0)
          replace Kh := Kh.trans K47 (allS (Or.inr sz_b22) all0)
          refine own_go (fun t k => st47.trans k) ?_
          show own_R p e below _ T47 (mkF m 204 #[.val (.long q0), .second, .val (.long q2), .second, .val (.int p4), .val (.int p5), .val (.ref b1), .val (.int qq), .val (.int xa), .val (.int ya), .val (.int mm), .val (.int tt), .val (.ref b17), .val (.ref b22), .unset, .unset] [])
          have hn : tt.toInt = 3 := by
            have z48 : 0 < tt.toInt := own_lti hc140_24 rfl rfl
            have z49 : 1 < tt.toInt := own_lti hc155_27 rfl rfl
            have z50 : 2 < tt.toInt := own_lti hc170_30 rfl rfl
            have z51 : tt.toInt ≤ 3 := own_nlti hc185_33 rfl rfl
            omega
          have k0 : (0 : Int32).toInt = 0 := rfl
          have hA : (lv20, cv20, rv20) = own_run ([(nar .char u0), (nar .char u1), (nar .char u2), (nar .char u3)] : List Int32) 3 0 ((1 : Int32), (1 : Int32), (0 : Int32)) := by
            have q := own_run_add ([(nar .char u0), (nar .char u1), (nar .char u2), (nar .char u3)] : List Int32) (mm.toInt - (0 : Int32).toInt).toNat (tt.toInt - mm.toInt).toNat (0 : Int32).toInt.toNat ((1 : Int32), (1 : Int32), (0 : Int32))
            rw [← hs19] at q
            rw [hs20, show mm.toInt.toNat = (0 : Int32).toInt.toNat + (mm.toInt - (0 : Int32).toInt).toNat by omega, ← q, show (mm.toInt - (0 : Int32).toInt).toNat + (tt.toInt - mm.toInt).toNat = 3 by omega]
            rfl
          have hB : (lv32, cv32, rv32) = own_run ([(nar .char u0), (nar .char u1), (nar .char u2), (nar .char u3)] : List Int32) 3 0 ((1 : Int32), (1 : Int32), (0 : Int32)) := by
            rw [hs32, hs29, hs26]
            rfl
          have hE : (lv21, cv21, rv21) = (lv47, cv47, rv47) := by rw [hs21, hs47, hA, ← hB]
          refine own_go (fun t k => XS.aload X47.here hx rfl (hb hby at_204) rfl rfl  k) ?_
          show own_R p e below _ T47 (mkF m 206 #[.val (.long q0), .second, .val (.long q2), .second, .val (.int p4), .val (.int p5), .val (.ref b1), .val (.int qq), .val (.int xa), .val (.int ya), .val (.int mm), .val (.int tt), .val (.ref b17), .val (.ref b22), .unset, .unset] [(.ref b17)])
          refine own_go (fun t k => XS.lconst X47.here hx rfl (hb hby at_206) k) ?_
          show own_R p e below _ T47 (mkF m 207 #[.val (.long q0), .second, .val (.long q2), .second, .val (.int p4), .val (.int p5), .val (.ref b1), .val (.int qq), .val (.int xa), .val (.int ya), .val (.int mm), .val (.int tt), .val (.ref b17), .val (.ref b22), .unset, .unset] [(.long (0 : Int64)), (.ref b17)])
          refine own_go (fun t k => XS.aconstNull X47.here hx rfl (hb hby at_207) k) ?_
          show own_R p e below _ T47 (mkF m 208 #[.val (.long q0), .second, .val (.long q2), .second, .val (.int p4), .val (.int p5), .val (.ref b1), .val (.int qq), .val (.int xa), .val (.int ya), .val (.int mm), .val (.int tt), .val (.ref b17), .val (.ref b22), .unset, .unset] [.null, (.long (0 : Int64)), (.ref b17)])
          obtain ⟨cq52, kq52, q52a, q52b, q52c⟩ := isOf hZ e47 Ew21
          obtain ⟨_, _, ⟨T52, L52, k52, n52⟩, -, X52, ⟨Lc52, hQ52, l52, y52, z52⟩, st52⟩ := X47.virtualBack hx (y := (⟨"com/example/xtd/xtd/model/LineCounter", "position", "(JLjava/lang/String;)Lcom/example/xtd/xtd/model/Position;"⟩ : MethodName)) (z := (⟨"com/example/xtd/xtd/model/LineCounter", "position", "(JLjava/lang/String;)Lcom/example/xtd/xtd/model/Position;"⟩ : MethodName)) hown (mvT hZ (hw _ (List.mem_of_getElem? (i := 39) rfl))) (mvT hZ (hw _ (List.mem_of_getElem? (i := 40) rfl))) (notFace_of_selects (args := #[]) (mvT hZ (hw _ (List.mem_of_getElem? (i := 42) rfl)))) (mvT hZ (hw _ (List.mem_of_getElem? (i := 42) rfl))) (mvT hZ (hw _ (List.mem_of_getElem? (i := 41) rfl))) (by decide) (backOf (W := 0) (rmposn l Z a0 hw [] b17 (0 : Int64) lv21 cv21 rv21 h47 n0 (Nat.le_trans Z0 Kh.1) Fl21 Fc21 Fr21 Ew21) hZ (hw _ (List.mem_of_getElem? (i := 43) rfl)) (hw _ (List.mem_of_getElem? (i := 16) rfl)) (by decide) (by decide)) q52a q52c (g := (mkF m 208 #[.val (.long q0), .second, .val (.long q2), .second, .val (.int p4), .val (.int p5), .val (.ref b1), .val (.int qq), .val (.int xa), .val (.int ya), .val (.int mm), .val (.int tt), .val (.ref b17), .val (.ref b22), .unset, .unset] [.null, (.long (0 : Int64)), (.ref b17)])) rfl (by rw [hml]; rfl) (Steps.refl _) (argsL := [(.long (0 : Int64)), .null]) (rest := []) (lenOf pd_5 rfl) rfl (by show 2 * 0 + _ ≤ _; exact Nat.le_of_eq rfl) (hb hby at_208) (fun _ _ => ⟨rfl, e47, (by decide : 3 + 1 ≤ _), (by decide : 10 + 4 ≤ _)⟩)
          dsimp only [Pt.U, Pt.locs, Pt.cells, Pt.slots] at X52 l52 y52 z52 st52 hQ52
          subst l52 y52 z52
          obtain ⟨b52, rfl, Nq52, K52, gz52_b, E52_b, F52_b_line, F52_b_column, F52_b_offset, F52_b_systemId⟩ := hQ52
          obtain ⟨Lh52, X52, N52⟩ := own_hide X52 (Fr.app N47 Nq52)
          obtain ⟨h52, e52⟩ : ∃ z, T52.heap = z := ⟨_, rfl⟩
          rw [e52] at K52 E52_b F52_b_line F52_b_column F52_b_offset F52_b_systemId
          have ne_b1_b52 : b1 ≠ b52 := Nat.ne_of_lt (Nat.lt_of_lt_of_le V_b1_13.lt gz52_b)
          have ne_b17_b52 : b17 ≠ b52 := Nat.ne_of_lt (Nat.lt_of_lt_of_le Ew21.lt gz52_b)
          have ne_b22_b52 : b22 ≠ b52 := Nat.ne_of_lt (Nat.lt_of_lt_of_le Ew47.lt gz52_b)
          have g_b52 : n0 ≤ b52 := Nat.le_trans (Nat.le_trans Z0 Kh.1) gz52_b
          have sz_b52 : h0.size ≤ b52 := Nat.le_trans Kh.1 gz52_b
          replace V_b1_13 := V_b1_13.keep K52 nin0
          replace Ew21 := Exa.keep Ew21 K52
          replace Fl21 := Fl21.keep K52 nin0
          replace Fc21 := Fc21.keep K52 nin0
          replace Fr21 := Fr21.keep K52 nin0
          replace Ew47 := Exa.keep Ew47 K52
          replace Fl47 := Fl47.keep K52 nin0
          replace Fc47 := Fc47.keep K52 nin0
          replace Fr47 := Fr47.keep K52 nin0
          replace Kh := Kh.trans K52 all0
          refine own_go (fun t k => st52.trans k) ?_
          show own_R p e below _ T52 (mkF m 211 #[.val (.long q0), .second, .val (.long q2), .second, .val (.int p4), .val (.int p5), .val (.ref b1), .val (.int qq), .val (.int xa), .val (.int ya), .val (.int mm), .val (.int tt), .val (.ref b17), .val (.ref b22), .unset, .unset] [(.ref b52)])
          refine own_go (fun t k => XS.astore X52.here hx rfl (hb hby at_211) rfl rfl (l' := #[.val (.long q0), .second, .val (.long q2), .second, .val (.int p4), .val (.int p5), .val (.ref b1), .val (.int qq), .val (.int xa), .val (.int ya), .val (.int mm), .val (.int tt), .val (.ref b17), .val (.ref b22), .val (.ref b52), .unset]) rfl k) ?_
          show own_R p e below _ T52 (mkF m 213 #[.val (.long q0), .second, .val (.long q2), .second, .val (.int p4), .val (.int p5), .val (.ref b1), .val (.int qq), .val (.int xa), .val (.int ya), .val (.int mm), .val (.int tt), .val (.ref b17), .val (.ref b22), .val (.ref b52), .unset] [])
          refine own_go (fun t k => XS.aload X52.here hx rfl (hb hby at_213) rfl rfl  k) ?_
          show own_R p e below _ T52 (mkF m 215 #[.val (.long q0), .second, .val (.long q2), .second, .val (.int p4), .val (.int p5), .val (.ref b1), .val (.int qq), .val (.int xa), .val (.int ya), .val (.int mm), .val (.int tt), .val (.ref b17), .val (.ref b22), .val (.ref b52), .unset] [(.ref b22)])
          refine own_go (fun t k => XS.lconst X52.here hx rfl (hb hby at_215) k) ?_
          show own_R p e below _ T52 (mkF m 216 #[.val (.long q0), .second, .val (.long q2), .second, .val (.int p4), .val (.int p5), .val (.ref b1), .val (.int qq), .val (.int xa), .val (.int ya), .val (.int mm), .val (.int tt), .val (.ref b17), .val (.ref b22), .val (.ref b52), .unset] [(.long (0 : Int64)), (.ref b22)])
          refine own_go (fun t k => XS.aconstNull X52.here hx rfl (hb hby at_216) k) ?_
          show own_R p e below _ T52 (mkF m 217 #[.val (.long q0), .second, .val (.long q2), .second, .val (.int p4), .val (.int p5), .val (.ref b1), .val (.int qq), .val (.int xa), .val (.int ya), .val (.int mm), .val (.int tt), .val (.ref b17), .val (.ref b22), .val (.ref b52), .unset] [.null, (.long (0 : Int64)), (.ref b22)])
          obtain ⟨cq53, kq53, q53a, q53b, q53c⟩ := isOf hZ e52 Ew47
          obtain ⟨_, _, ⟨T53, L53, k53, n53⟩, -, X53, ⟨Lc53, hQ53, l53, y53, z53⟩, st53⟩ := X52.virtualBack hx (y := (⟨"com/example/xtd/xtd/model/LineCounter", "position", "(JLjava/lang/String;)Lcom/example/xtd/xtd/model/Position;"⟩ : MethodName)) (z := (⟨"com/example/xtd/xtd/model/LineCounter", "position", "(JLjava/lang/String;)Lcom/example/xtd/xtd/model/Position;"⟩ : MethodName)) hown (mvT hZ (hw _ (List.mem_of_getElem? (i := 39) rfl))) (mvT hZ (hw _ (List.mem_of_getElem? (i := 40) rfl))) (notFace_of_selects (args := #[]) (mvT hZ (hw _ (List.mem_of_getElem? (i := 42) rfl)))) (mvT hZ (hw _ (List.mem_of_getElem? (i := 42) rfl))) (mvT hZ (hw _ (List.mem_of_getElem? (i := 41) rfl))) (by decide) (backOf (W := 0) (rmposn l Z a0 hw [] b22 (0 : Int64) lv47 cv47 rv47 h52 n0 (Nat.le_trans Z0 Kh.1) Fl47 Fc47 Fr47 Ew47) hZ (hw _ (List.mem_of_getElem? (i := 43) rfl)) (hw _ (List.mem_of_getElem? (i := 16) rfl)) (by decide) (by decide)) q53a q53c (g := (mkF m 217 #[.val (.long q0), .second, .val (.long q2), .second, .val (.int p4), .val (.int p5), .val (.ref b1), .val (.int qq), .val (.int xa), .val (.int ya), .val (.int mm), .val (.int tt), .val (.ref b17), .val (.ref b22), .val (.ref b52), .unset] [.null, (.long (0 : Int64)), (.ref b22)])) rfl (by rw [hml]; rfl) (Steps.refl _) (argsL := [(.long (0 : Int64)), .null]) (rest := []) (lenOf pd_5 rfl) rfl (by show 2 * 0 + _ ≤ _; exact Nat.le_of_eq rfl) (hb hby at_217) (fun _ _ => ⟨rfl, e52, (by decide : 4 + 1 ≤ _), (by decide : 14 + 4 ≤ _)⟩)
          dsimp only [Pt.U, Pt.locs, Pt.cells, Pt.slots] at X53 l53 y53 z53 st53 hQ53
          subst l53 y53 z53
          obtain ⟨b53, rfl, Nq53, K53, gz53_b, E53_b, F53_b_line, F53_b_column, F53_b_offset, F53_b_systemId⟩ := hQ53
          obtain ⟨Lh53, X53, N53⟩ := own_hide X53 (Fr.app N52 Nq53)
          obtain ⟨h53, e53⟩ : ∃ z, T53.heap = z := ⟨_, rfl⟩
          rw [e53] at K53 E53_b F53_b_line F53_b_column F53_b_offset F53_b_systemId
          have ne_b1_b53 : b1 ≠ b53 := Nat.ne_of_lt (Nat.lt_of_lt_of_le V_b1_13.lt gz53_b)
          have ne_b17_b53 : b17 ≠ b53 := Nat.ne_of_lt (Nat.lt_of_lt_of_le Ew21.lt gz53_b)
          have ne_b22_b53 : b22 ≠ b53 := Nat.ne_of_lt (Nat.lt_of_lt_of_le Ew47.lt gz53_b)
          have ne_b52_b53 : b52 ≠ b53 := Nat.ne_of_lt (Nat.lt_of_lt_of_le E52_b.lt gz53_b)
          have g_b53 : n0 ≤ b53 := Nat.le_trans (Nat.le_trans Z0 Kh.1) gz53_b
          have sz_b53 : h0.size ≤ b53 := Nat.le_trans Kh.1 gz53_b
          replace V_b1_13 := V_b1_13.keep K53 nin0
          replace Ew21 := Exa.keep Ew21 K53
          replace Fl21 := Fl21.keep K53 nin0
          replace Fc21 := Fc21.keep K53 nin0
          replace Fr21 := Fr21.keep K53 nin0
          replace Ew47 := Exa.keep Ew47 K53
          replace Fl47 := Fl47.keep K53 nin0
          replace Fc47 := Fc47.keep K53 nin0
          replace Fr47 := Fr47.keep K53 nin0
          replace E52_b := Exa.keep E52_b K53
          replace F52_b_line := F52_b_line.keep K53 nin0
          replace F52_b_column := F52_b_column.keep K53 nin0
          replace F52_b_offset := F52_b_offset.keep K53 nin0
          replace F52_b_systemId := F52_b_systemId.keep K53 nin0
          replace Kh := Kh.trans K53 all0
          refine own_go (fun t k => st53.trans k) ?_
          show own_R p e below _ T53 (mkF m 220 #[.val (.long q0), .second, .val (.long q2), .second, .val (.int p4), .val (.int p5), .val (.ref b1), .val (.int qq), .val (.int xa), .val (.int ya), .val (.int mm), .val (.int tt), .val (.ref b17), .val (.ref b22), .val (.ref b52), .unset] [(.ref b53)])
          refine own_go (fun t k => XS.astore X53.here hx rfl (hb hby at_220) rfl rfl (l' := #[.val (.long q0), .second, .val (.long q2), .second, .val (.int p4), .val (.int p5), .val (.ref b1), .val (.int qq), .val (.int xa), .val (.int ya), .val (.int mm), .val (.int tt), .val (.ref b17), .val (.ref b22), .val (.ref b52), .val (.ref b53)]) rfl k) ?_
          show own_R p e below _ T53 (mkF m 222 #[.val (.long q0), .second, .val (.long q2), .second, .val (.int p4), .val (.int p5), .val (.ref b1), .val (.int qq), .val (.int xa), .val (.int ya), .val (.int mm), .val (.int tt), .val (.ref b17), .val (.ref b22), .val (.ref b52), .val (.ref b53)] [])
          refine own_go (fun t k => XS.aload X53.here hx rfl (hb hby at_222) rfl rfl  k) ?_
          show own_R p e below _ T53 (mkF m 224 #[.val (.long q0), .second, .val (.long q2), .second, .val (.int p4), .val (.int p5), .val (.ref b1), .val (.int qq), .val (.int xa), .val (.int ya), .val (.int mm), .val (.int tt), .val (.ref b17), .val (.ref b22), .val (.ref b52), .val (.ref b53)] [(.ref b52)])
          obtain ⟨cq54, kq54, q54a, q54b, q54c⟩ := isOf hZ e53 E52_b
          obtain ⟨_, _, ⟨T54, L54, k54, n54⟩, -, X54, ⟨Lc54, hQ54, l54, y54, z54⟩, st54⟩ := X53.virtualBack hx (y := (⟨"com/example/xtd/xtd/model/Position", "line", "()I"⟩ : MethodName)) (z := (⟨"com/example/xtd/xtd/model/Position", "line", "()I"⟩ : MethodName)) hown (mvT hZ (hw _ (List.mem_of_getElem? (i := 64) rfl))) (mvT hZ (hw _ (List.mem_of_getElem? (i := 65) rfl))) (notFace_of_selects (args := #[]) (mvT hZ (hw _ (List.mem_of_getElem? (i := 67) rfl)))) (mvT hZ (hw _ (List.mem_of_getElem? (i := 67) rfl))) (mvT hZ (hw _ (List.mem_of_getElem? (i := 66) rfl))) (by decide) (backOf (W := 0) (rmgline l Z a0 hw [] b52 lv21 cv21 (0 : Int64) h53 n0 (Nat.le_trans Z0 Kh.1) F52_b_line F52_b_column F52_b_offset F52_b_systemId E52_b) hZ (hw _ (List.mem_of_getElem? (i := 68) rfl)) (hw _ (List.mem_of_getElem? (i := 46) rfl)) (by decide) (by decide)) q54a q54c (g := (mkF m 224 #[.val (.long q0), .second, .val (.long q2), .second, .val (.int p4), .val (.int p5), .val (.ref b1), .val (.int qq), .val (.int xa), .val (.int ya), .val (.int mm), .val (.int tt), .val (.ref b17), .val (.ref b22), .val (.ref b52), .val (.ref b53)] [(.ref b52)])) rfl (by rw [hml]; rfl) (Steps.refl _) (argsL := []) (rest := []) (lenOf pd_7 rfl) rfl (by show 2 * 0 + _ ≤ _; exact Nat.le_of_eq rfl) (hb hby at_224) (fun _ _ => ⟨rfl, e53, (by decide : 5 + 0 ≤ _), (by decide : 18 + 0 ≤ _)⟩)
          dsimp only [Pt.U, Pt.locs, Pt.cells, Pt.slots] at X54 l54 y54 z54 st54 hQ54
          subst l54 y54 z54
          obtain ⟨rfl, Nq54, e54⟩ := hQ54
          obtain ⟨Lh54, X54, N54⟩ := own_hide X54 (Fr.app N53 Nq54)
          refine own_go (fun t k => st54.trans k) ?_
          show own_R p e below _ T54 (mkF m 227 #[.val (.long q0), .second, .val (.long q2), .second, .val (.int p4), .val (.int p5), .val (.ref b1), .val (.int qq), .val (.int xa), .val (.int ya), .val (.int mm), .val (.int tt), .val (.ref b17), .val (.ref b22), .val (.ref b52), .val (.ref b53)] [(.int lv21)])
          refine own_go (fun t k => XS.aload X54.here hx rfl (hb hby at_227) rfl rfl  k) ?_
          show own_R p e below _ T54 (mkF m 229 #[.val (.long q0), .second, .val (.long q2), .second, .val (.int p4), .val (.int p5), .val (.ref b1), .val (.int qq), .val (.int xa), .val (.int ya), .val (.int mm), .val (.int tt), .val (.ref b17), .val (.ref b22), .val (.ref b52), .val (.ref b53)] [(.ref b53), (.int lv21)])
          obtain ⟨cq55, kq55, q55a, q55b, q55c⟩ := isOf hZ e54 E53_b
          obtain ⟨_, _, ⟨T55, L55, k55, n55⟩, -, X55, ⟨Lc55, hQ55, l55, y55, z55⟩, st55⟩ := X54.virtualBack hx (y := (⟨"com/example/xtd/xtd/model/Position", "line", "()I"⟩ : MethodName)) (z := (⟨"com/example/xtd/xtd/model/Position", "line", "()I"⟩ : MethodName)) hown (mvT hZ (hw _ (List.mem_of_getElem? (i := 64) rfl))) (mvT hZ (hw _ (List.mem_of_getElem? (i := 65) rfl))) (notFace_of_selects (args := #[]) (mvT hZ (hw _ (List.mem_of_getElem? (i := 67) rfl)))) (mvT hZ (hw _ (List.mem_of_getElem? (i := 67) rfl))) (mvT hZ (hw _ (List.mem_of_getElem? (i := 66) rfl))) (by decide) (backOf (W := 1) (rmgline l Z a0 hw [] b53 lv47 cv47 (0 : Int64) h53 n0 (Nat.le_trans Z0 Kh.1) F53_b_line F53_b_column F53_b_offset F53_b_systemId E53_b) hZ (hw _ (List.mem_of_getElem? (i := 68) rfl)) (hw _ (List.mem_of_getElem? (i := 46) rfl)) (by decide) (by decide)) q55a q55c (g := (mkF m 229 #[.val (.long q0), .second, .val (.long q2), .second, .val (.int p4), .val (.int p5), .val (.ref b1), .val (.int qq), .val (.int xa), .val (.int ya), .val (.int mm), .val (.int tt), .val (.ref b17), .val (.ref b22), .val (.ref b52), .val (.ref b53)] [(.ref b53), (.int lv21)])) rfl (by rw [hml]; rfl) (Steps.refl _) (argsL := []) (rest := [(.int lv21)]) (lenOf pd_7 rfl) rfl (by show 2 * 0 + _ ≤ _; exact Nat.le_of_eq rfl) (hb hby at_229) (fun _ _ => ⟨rfl, e54, (by decide : 5 + 0 ≤ _), (by decide : 18 + 0 ≤ _)⟩)
          dsimp only [Pt.U, Pt.locs, Pt.cells, Pt.slots] at X55 l55 y55 z55 st55 hQ55
          subst l55 y55 z55
          obtain ⟨rfl, Nq55, e55⟩ := hQ55
          obtain ⟨Lh55, X55, N55⟩ := own_hide X55 (Fr.app N54 Nq55)
          refine own_go (fun t k => st55.trans k) ?_
          show own_R p e below _ T55 (mkF m 232 #[.val (.long q0), .second, .val (.long q2), .second, .val (.int p4), .val (.int p5), .val (.ref b1), .val (.int qq), .val (.int xa), .val (.int ya), .val (.int mm), .val (.int tt), .val (.ref b17), .val (.ref b22), .val (.ref b52), .val (.ref b53)] [(.int lv47), (.int lv21)])
          refine own_go (fun t k => XS.icmpNo X55.here hx rfl (hb hby at_232) rfl (teq (Prod.mk.inj hE).1).2 k) ?_
          show own_R p e below _ T55 (mkF m 235 #[.val (.long q0), .second, .val (.long q2), .second, .val (.int p4), .val (.int p5), .val (.ref b1), .val (.int qq), .val (.int xa), .val (.int ya), .val (.int mm), .val (.int tt), .val (.ref b17), .val (.ref b22), .val (.ref b52), .val (.ref b53)] [])
          refine own_go (fun t k => XS.aload X55.here hx rfl (hb hby at_235) rfl rfl  k) ?_
          show own_R p e below _ T55 (mkF m 237 #[.val (.long q0), .second, .val (.long q2), .second, .val (.int p4), .val (.int p5), .val (.ref b1), .val (.int qq), .val (.int xa), .val (.int ya), .val (.int mm), .val (.int tt), .val (.ref b17), .val (.ref b22), .val (.ref b52), .val (.ref b53)] [(.ref b52)])
          obtain ⟨cq56, kq56, q56a, q56b, q56c⟩ := isOf hZ e55 E52_b
          obtain ⟨_, _, ⟨T56, L56, k56, n56⟩, -, X56, ⟨Lc56, hQ56, l56, y56, z56⟩, st56⟩ := X55.virtualBack hx (y := (⟨"com/example/xtd/xtd/model/Position", "column", "()I"⟩ : MethodName)) (z := (⟨"com/example/xtd/xtd/model/Position", "column", "()I"⟩ : MethodName)) hown (mvT hZ (hw _ (List.mem_of_getElem? (i := 69) rfl))) (mvT hZ (hw _ (List.mem_of_getElem? (i := 70) rfl))) (notFace_of_selects (args := #[]) (mvT hZ (hw _ (List.mem_of_getElem? (i := 72) rfl)))) (mvT hZ (hw _ (List.mem_of_getElem? (i := 72) rfl))) (mvT hZ (hw _ (List.mem_of_getElem? (i := 71) rfl))) (by decide) (backOf (W := 0) (rmgcolumn l Z a0 hw [] b52 lv21 cv21 (0 : Int64) h53 n0 (Nat.le_trans Z0 Kh.1) F52_b_line F52_b_column F52_b_offset F52_b_systemId E52_b) hZ (hw _ (List.mem_of_getElem? (i := 73) rfl)) (hw _ (List.mem_of_getElem? (i := 46) rfl)) (by decide) (by decide)) q56a q56c (g := (mkF m 237 #[.val (.long q0), .second, .val (.long q2), .second, .val (.int p4), .val (.int p5), .val (.ref b1), .val (.int qq), .val (.int xa), .val (.int ya), .val (.int mm), .val (.int tt), .val (.ref b17), .val (.ref b22), .val (.ref b52), .val (.ref b53)] [(.ref b52)])) rfl (by rw [hml]; rfl) (Steps.refl _) (argsL := []) (rest := []) (lenOf pd_7 rfl) rfl (by show 2 * 0 + _ ≤ _; exact Nat.le_of_eq rfl) (hb hby at_237) (fun _ _ => ⟨rfl, e55, (by decide : 5 + 0 ≤ _), (by decide : 18 + 0 ≤ _)⟩)
          dsimp only [Pt.U, Pt.locs, Pt.cells, Pt.slots] at X56 l56 y56 z56 st56 hQ56
          subst l56 y56 z56
          obtain ⟨rfl, Nq56, e56⟩ := hQ56
          obtain ⟨Lh56, X56, N56⟩ := own_hide X56 (Fr.app N55 Nq56)
          refine own_go (fun t k => st56.trans k) ?_
          show own_R p e below _ T56 (mkF m 240 #[.val (.long q0), .second, .val (.long q2), .second, .val (.int p4), .val (.int p5), .val (.ref b1), .val (.int qq), .val (.int xa), .val (.int ya), .val (.int mm), .val (.int tt), .val (.ref b17), .val (.ref b22), .val (.ref b52), .val (.ref b53)] [(.int cv21)])
          refine own_go (fun t k => XS.aload X56.here hx rfl (hb hby at_240) rfl rfl  k) ?_
          show own_R p e below _ T56 (mkF m 242 #[.val (.long q0), .second, .val (.long q2), .second, .val (.int p4), .val (.int p5), .val (.ref b1), .val (.int qq), .val (.int xa), .val (.int ya), .val (.int mm), .val (.int tt), .val (.ref b17), .val (.ref b22), .val (.ref b52), .val (.ref b53)] [(.ref b53), (.int cv21)])
          obtain ⟨cq57, kq57, q57a, q57b, q57c⟩ := isOf hZ e56 E53_b
          obtain ⟨_, _, ⟨T57, L57, k57, n57⟩, -, X57, ⟨Lc57, hQ57, l57, y57, z57⟩, st57⟩ := X56.virtualBack hx (y := (⟨"com/example/xtd/xtd/model/Position", "column", "()I"⟩ : MethodName)) (z := (⟨"com/example/xtd/xtd/model/Position", "column", "()I"⟩ : MethodName)) hown (mvT hZ (hw _ (List.mem_of_getElem? (i := 69) rfl))) (mvT hZ (hw _ (List.mem_of_getElem? (i := 70) rfl))) (notFace_of_selects (args := #[]) (mvT hZ (hw _ (List.mem_of_getElem? (i := 72) rfl)))) (mvT hZ (hw _ (List.mem_of_getElem? (i := 72) rfl))) (mvT hZ (hw _ (List.mem_of_getElem? (i := 71) rfl))) (by decide) (backOf (W := 1) (rmgcolumn l Z a0 hw [] b53 lv47 cv47 (0 : Int64) h53 n0 (Nat.le_trans Z0 Kh.1) F53_b_line F53_b_column F53_b_offset F53_b_systemId E53_b) hZ (hw _ (List.mem_of_getElem? (i := 73) rfl)) (hw _ (List.mem_of_getElem? (i := 46) rfl)) (by decide) (by decide)) q57a q57c (g := (mkF m 242 #[.val (.long q0), .second, .val (.long q2), .second, .val (.int p4), .val (.int p5), .val (.ref b1), .val (.int qq), .val (.int xa), .val (.int ya), .val (.int mm), .val (.int tt), .val (.ref b17), .val (.ref b22), .val (.ref b52), .val (.ref b53)] [(.ref b53), (.int cv21)])) rfl (by rw [hml]; rfl) (Steps.refl _) (argsL := []) (rest := [(.int cv21)]) (lenOf pd_7 rfl) rfl (by show 2 * 0 + _ ≤ _; exact Nat.le_of_eq rfl) (hb hby at_242) (fun _ _ => ⟨rfl, e56, (by decide : 5 + 0 ≤ _), (by decide : 18 + 0 ≤ _)⟩)
          dsimp only [Pt.U, Pt.locs, Pt.cells, Pt.slots] at X57 l57 y57 z57 st57 hQ57
          subst l57 y57 z57
          obtain ⟨rfl, Nq57, e57⟩ := hQ57
          obtain ⟨Lh57, X57, N57⟩ := own_hide X57 (Fr.app N56 Nq57)
          refine own_go (fun t k => st57.trans k) ?_
          show own_R p e below _ T57 (mkF m 245 #[.val (.long q0), .second, .val (.long q2), .second, .val (.int p4), .val (.int p5), .val (.ref b1), .val (.int qq), .val (.int xa), .val (.int ya), .val (.int mm), .val (.int tt), .val (.ref b17), .val (.ref b22), .val (.ref b52), .val (.ref b53)] [(.int cv47), (.int cv21)])
          refine own_go (fun t k => XS.icmpNo X57.here hx rfl (hb hby at_245) rfl (teq (Prod.mk.inj (Prod.mk.inj hE).2).1).2 k) ?_
          show own_R p e below _ T57 (mkF m 248 #[.val (.long q0), .second, .val (.long q2), .second, .val (.int p4), .val (.int p5), .val (.ref b1), .val (.int qq), .val (.int xa), .val (.int ya), .val (.int mm), .val (.int tt), .val (.ref b17), .val (.ref b22), .val (.ref b52), .val (.ref b53)] [])
          refine own_go (fun t k => XS.iconst X57.here hx rfl (hb hby at_248) k) ?_
          show own_R p e below _ T57 (mkF m 249 #[.val (.long q0), .second, .val (.long q2), .second, .val (.int p4), .val (.int p5), .val (.ref b1), .val (.int qq), .val (.int xa), .val (.int ya), .val (.int mm), .val (.int tt), .val (.ref b17), .val (.ref b22), .val (.ref b52), .val (.ref b53)] [(.int (1 : Int32))])
          refine own_go (fun t k => XS.goto X57.here hx rfl (pc0 := 249) (pc' := 253) rfl (hb hby at_249) (by decide) (by decide) k) ?_
          show own_R p e below _ T57 (mkF m 253 #[.val (.long q0), .second, .val (.long q2), .second, .val (.int p4), .val (.int p5), .val (.ref b1), .val (.int qq), .val (.int xa), .val (.int ya), .val (.int mm), .val (.int tt), .val (.ref b17), .val (.ref b22), .val (.ref b52), .val (.ref b53)] [(.int (1 : Int32))])
          refine own_retN X57 hx Bd.returns (by simp) (BodyLoose.notSynchronized Bd) (hb hby at_253) (by decide) (by decide) ?_
          exact ⟨rfl, N57⟩
      · -- pc 170: no
        refine own_go (fun t k => XS.icmpYes X29.here hx rfl (pc0 := 170) (pc' := 182) rfl (hb hby at_170) rfl (flt hc170_30).2.2.2 (by decide) (by decide) k) ?_
        show own_R p e below _ T29 (mkF m 182 #[.val (.long q0), .second, .val (.long q2), .second, .val (.int p4), .val (.int p5), .val (.ref b1), .val (.int qq), .val (.int xa), .val (.int ya), .val (.int mm), .val (.int tt), .val (.ref b17), .val (.ref b22), .unset, .unset] [])
        refine own_go (fun t k => XS.iload X29.here hx rfl (hb hby at_182) rfl  k) ?_
        show own_R p e below _ T29 (mkF m 184 #[.val (.long q0), .second, .val (.long q2), .second, .val (.int p4), .val (.int p5), .val (.ref b1), .val (.int qq), .val (.int xa), .val (.int ya), .val (.int mm), .val (.int tt), .val (.ref b17), .val (.ref b22), .unset, .unset] [(.int tt)])
        refine own_go (fun t k => XS.iconst X29.here hx rfl (hb hby at_184) k) ?_
        show own_R p e below _ T29 (mkF m 185 #[.val (.long q0), .second, .val (.long q2), .second, .val (.int p4), .val (.int p5), .val (.ref b1), .val (.int qq), .val (.int xa), .val (.int ya), .val (.int mm), .val (.int tt), .val (.ref b17), .val (.ref b22), .unset, .unset] [(.int (3 : Int32)), (.int tt)])
        refine own_go (fun t k => XS.icmpYes X29.here hx rfl (pc0 := 185) (pc' := 197) rfl (hb hby at_185) rfl (flt (own_nlt hc170_30 (by decide))).2.2.2 (by decide) (by decide) k) ?_
        show own_R p e below _ T29 (mkF m 197 #[.val (.long q0), .second, .val (.long q2), .second, .val (.int p4), .val (.int p5), .val (.ref b1), .val (.int qq), .val (.int xa), .val (.int ya), .val (.int mm), .val (.int tt), .val (.ref b17), .val (.ref b22), .unset, .unset] [])
        refine own_go (fun t k => XS.aload X29.here hx rfl (hb hby at_197) rfl rfl  k) ?_
        show own_R p e below _ T29 (mkF m 199 #[.val (.long q0), .second, .val (.long q2), .second, .val (.int p4), .val (.int p5), .val (.ref b1), .val (.int qq), .val (.int xa), .val (.int ya), .val (.int mm), .val (.int tt), .val (.ref b17), .val (.ref b22), .unset, .unset] [(.ref b22)])
        refine own_go (fun t k => XS.iload X29.here hx rfl (hb hby at_199) rfl  k) ?_
        show own_R p e below _ T29 (mkF m 201 #[.val (.long q0), .second, .val (.long q2), .second, .val (.int p4), .val (.int p5), .val (.ref b1), .val (.int qq), .val (.int xa), .val (.int ya), .val (.int mm), .val (.int tt), .val (.ref b17), .val (.ref b22), .unset, .unset] [(.int qq), (.ref b22)])
        obtain ⟨cq58, kq58, q58a, q58b, q58c⟩ := isOf hZ e29 Ew29
        obtain ⟨_, _, ⟨T58, L58, k58, n58⟩, -, X58, ⟨Lc58, hQ58, l58, y58, z58⟩, st58⟩ := X29.virtualBack hx (y := (⟨"com/example/xtd/xtd/model/LineCounter", "count", "(C)V"⟩ : MethodName)) (z := (⟨"com/example/xtd/xtd/model/LineCounter", "count", "(C)V"⟩ : MethodName)) hown (mvT hZ (hw _ (List.mem_of_getElem? (i := 34) rfl))) (mvT hZ (hw _ (List.mem_of_getElem? (i := 35) rfl))) (notFace_of_selects (args := #[]) (mvT hZ (hw _ (List.mem_of_getElem? (i := 37) rfl)))) (mvT hZ (hw _ (List.mem_of_getElem? (i := 37) rfl))) (mvT hZ (hw _ (List.mem_of_getElem? (i := 36) rfl))) (by decide) (backOf (W := 0) (rmcch l Z a0 hw [] b22 qq lv29 cv29 rv29 h29 n0 (Nat.le_trans Z0 Kh.1) Fl29 Fc29 Fr29 Ew29 g_b22) hZ (hw _ (List.mem_of_getElem? (i := 38) rfl)) (hw _ (List.mem_of_getElem? (i := 16) rfl)) (by decide) (by decide)) q58a q58c (g := (mkF m 201 #[.val (.long q0), .second, .val (.long q2), .second, .val (.int p4), .val (.int p5), .val (.ref b1), .val (.int qq), .val (.int xa), .val (.int ya), .val (.int mm), .val (.int tt), .val (.ref b17), .val (.ref b22), .unset, .unset] [(.int qq), (.ref b22)])) rfl (by rw [hml]; rfl) (Steps.refl _) (argsL := [(.int qq)]) (rest := []) (lenOf pd_4 rfl) rfl (by show 2 * 0 + _ ≤ _; exact Nat.le_of_eq rfl) (hb hby at_201) (fun _ _ => ⟨rfl, e29, (by decide : 3 + 0 ≤ _), (by decide : 10 + 0 ≤ _)⟩)
        dsimp only [Pt.U, Pt.locs, Pt.cells, Pt.slots] at X58 l58 y58 z58 st58 hQ58
        subst l58 y58 z58
        obtain ⟨lv58, cv58, rv58, rfl, Nq58, hs58, K58, Ew58, Fl58, Fc58, Fr58⟩ := hQ58
        obtain ⟨Lh58, X58, N58⟩ := own_hide X58 (Fr.app N29 Nq58)
        obtain ⟨h58, e58⟩ : ∃ z, T58.heap = z := ⟨_, rfl⟩
        rw [e58] at K58 Ew58 Fl58 Fc58 Fr58
        replace V_b1_13 := V_b1_13.keep K58 (ninS ne_b1_b22 nin0)
        replace Ew21 := Exa.keep Ew21 K58
        replace Fl21 := Fl21.keep K58 (ninS ne_b17_b22 nin0)
        replace Fc21 := Fc21.keep K58 (ninS ne_b17_b22 nin0)
        replace Fr21 := Fr21.keep K58 (ninS ne_b17_b22 nin0)
        replace Kh := Kh.trans K58 (allS (Or.inr sz_b22) all0)
        refine own_go (fun t k => st58.trans k) ?_
        show own_R p e below _ T58 (mkF m 204 #[.val (.long q0), .second, .val (.long q2), .second, .val (.int p4), .val (.int p5), .val (.ref b1), .val (.int qq), .val (.int xa), .val (.int ya), .val (.int mm), .val (.int tt), .val (.ref b17), .val (.ref b22), .unset, .unset] [])
        have hn : tt.toInt = 2 := by
          have z59 : 0 < tt.toInt := own_lti hc140_24 rfl rfl
          have z60 : 1 < tt.toInt := own_lti hc155_27 rfl rfl
          have z61 : tt.toInt ≤ 2 := own_nlti hc170_30 rfl rfl
          omega
        have k0 : (0 : Int32).toInt = 0 := rfl
        have hA : (lv20, cv20, rv20) = own_run ([(nar .char u0), (nar .char u1), (nar .char u2), (nar .char u3)] : List Int32) 2 0 ((1 : Int32), (1 : Int32), (0 : Int32)) := by
          have q := own_run_add ([(nar .char u0), (nar .char u1), (nar .char u2), (nar .char u3)] : List Int32) (mm.toInt - (0 : Int32).toInt).toNat (tt.toInt - mm.toInt).toNat (0 : Int32).toInt.toNat ((1 : Int32), (1 : Int32), (0 : Int32))
          rw [← hs19] at q
          rw [hs20, show mm.toInt.toNat = (0 : Int32).toInt.toNat + (mm.toInt - (0 : Int32).toInt).toNat by omega, ← q, show (mm.toInt - (0 : Int32).toInt).toNat + (tt.toInt - mm.toInt).toNat = 2 by omega]
          rfl
        have hB : (lv29, cv29, rv29) = own_run ([(nar .char u0), (nar .char u1), (nar .char u2), (nar .char u3)] : List Int32) 2 0 ((1 : Int32), (1 : Int32), (0 : Int32)) := by
          rw [hs29, hs26]
          rfl
        have hE : (lv21, cv21, rv21) = (lv58, cv58, rv58) := by rw [hs21, hs58, hA, ← hB]
        refine own_go (fun t k => XS.aload X58.here hx rfl (hb hby at_204) rfl rfl  k) ?_
        show own_R p e below _ T58 (mkF m 206 #[.val (.long q0), .second, .val (.long q2), .second, .val (.int p4), .val (.int p5), .val (.ref b1), .val (.int qq), .val (.int xa), .val (.int ya), .val (.int mm), .val (.int tt), .val (.ref b17), .val (.ref b22), .unset, .unset] [(.ref b17)])
        refine own_go (fun t k => XS.lconst X58.here hx rfl (hb hby at_206) k) ?_
        show own_R p e below _ T58 (mkF m 207 #[.val (.long q0), .second, .val (.long q2), .second, .val (.int p4), .val (.int p5), .val (.ref b1), .val (.int qq), .val (.int xa), .val (.int ya), .val (.int mm), .val (.int tt), .val (.ref b17), .val (.ref b22), .unset, .unset] [(.long (0 : Int64)), (.ref b17)])
        refine own_go (fun t k => XS.aconstNull X58.here hx rfl (hb hby at_207) k) ?_
        show own_R p e below _ T58 (mkF m 208 #[.val (.long q0), .second, .val (.long q2), .second, .val (.int p4), .val (.int p5), .val (.ref b1), .val (.int qq), .val (.int xa), .val (.int ya), .val (.int mm), .val (.int tt), .val (.ref b17), .val (.ref b22), .unset, .unset] [.null, (.long (0 : Int64)), (.ref b17)])
        obtain ⟨cq62, kq62, q62a, q62b, q62c⟩ := isOf hZ e58 Ew21
        obtain ⟨_, _, ⟨T62, L62, k62, n62⟩, -, X62, ⟨Lc62, hQ62, l62, y62, z62⟩, st62⟩ := X58.virtualBack hx (y := (⟨"com/example/xtd/xtd/model/LineCounter", "position", "(JLjava/lang/String;)Lcom/example/xtd/xtd/model/Position;"⟩ : MethodName)) (z := (⟨"com/example/xtd/xtd/model/LineCounter", "position", "(JLjava/lang/String;)Lcom/example/xtd/xtd/model/Position;"⟩ : MethodName)) hown (mvT hZ (hw _ (List.mem_of_getElem? (i := 39) rfl))) (mvT hZ (hw _ (List.mem_of_getElem? (i := 40) rfl))) (notFace_of_selects (args := #[]) (mvT hZ (hw _ (List.mem_of_getElem? (i := 42) rfl)))) (mvT hZ (hw _ (List.mem_of_getElem? (i := 42) rfl))) (mvT hZ (hw _ (List.mem_of_getElem? (i := 41) rfl))) (by decide) (backOf (W := 0) (rmposn l Z a0 hw [] b17 (0 : Int64) lv21 cv21 rv21 h58 n0 (Nat.le_trans Z0 Kh.1) Fl21 Fc21 Fr21 Ew21) hZ (hw _ (List.mem_of_getElem? (i := 43) rfl)) (hw _ (List.mem_of_getElem? (i := 16) rfl)) (by decide) (by decide)) q62a q62c (g := (mkF m 208 #[.val (.long q0), .second, .val (.long q2), .second, .val (.int p4), .val (.int p5), .val (.ref b1), .val (.int qq), .val (.int xa), .val (.int ya), .val (.int mm), .val (.int tt), .val (.ref b17), .val (.ref b22), .unset, .unset] [.null, (.long (0 : Int64)), (.ref b17)])) rfl (by rw [hml]; rfl) (Steps.refl _) (argsL := [(.long (0 : Int64)), .null]) (rest := []) (lenOf pd_5 rfl) rfl (by show 2 * 0 + _ ≤ _; exact Nat.le_of_eq rfl) (hb hby at_208) (fun _ _ => ⟨rfl, e58, (by decide : 3 + 1 ≤ _), (by decide : 10 + 4 ≤ _)⟩)
        dsimp only [Pt.U, Pt.locs, Pt.cells, Pt.slots] at X62 l62 y62 z62 st62 hQ62
        subst l62 y62 z62
        obtain ⟨b62, rfl, Nq62, K62, gz62_b, E62_b, F62_b_line, F62_b_column, F62_b_offset, F62_b_systemId⟩ := hQ62
        obtain ⟨Lh62, X62, N62⟩ := own_hide X62 (Fr.app N58 Nq62)
        obtain ⟨h62, e62⟩ : ∃ z, T62.heap = z := ⟨_, rfl⟩
        rw [e62] at K62 E62_b F62_b_line F62_b_column F62_b_offset F62_b_systemId
        have ne_b1_b62 : b1 ≠ b62 := Nat.ne_of_lt (Nat.lt_of_lt_of_le V_b1_13.lt gz62_b)
        have ne_b17_b62 : b17 ≠ b62 := Nat.ne_of_lt (Nat.lt_of_lt_of_le Ew21.lt gz62_b)
        have ne_b22_b62 : b22 ≠ b62 := Nat.ne_of_lt (Nat.lt_of_lt_of_le Ew58.lt gz62_b)
        have g_b62 : n0 ≤ b62 := Nat.le_trans (Nat.le_trans Z0 Kh.1) gz62_b
        have sz_b62 : h0.size ≤ b62 := Nat.le_trans Kh.1 gz62_b
        replace V_b1_13 := V_b1_13.keep K62 nin0
        replace Ew21 := Exa.keep Ew21 K62
        replace Fl21 := Fl21.keep K62 nin0
        replace Fc21 := Fc21.keep K62 nin0
        replace Fr21 := Fr21.keep K62 nin0
        replace Ew58 := Exa.keep Ew58 K62
        replace Fl58 := Fl58.keep K62 nin0
        replace Fc58 := Fc58.keep K62 nin0
        replace Fr58 := Fr58.keep K62 nin0
        replace Kh := Kh.trans K62 all0
        refine own_go (fun t k => st62.trans k) ?_
        show own_R p e below _ T62 (mkF m 211 #[.val (.long q0), .second, .val (.long q2), .second, .val (.int p4), .val (.int p5), .val (.ref b1), .val (.int qq), .val (.int xa), .val (.int ya), .val (.int mm), .val (.int tt), .val (.ref b17), .val (.ref b22), .unset, .unset] [(.ref b62)])
        refine own_go (fun t k => XS.astore X62.here hx rfl (hb hby at_211) rfl rfl (l' := #[.val (.long q0), .second, .val (.long q2), .second, .val (.int p4), .val (.int p5), .val (.ref b1), .val (.int qq), .val (.int xa), .val (.int ya), .val (.int mm), .val (.int tt), .val (.ref b17), .val (.ref b22), .val (.ref b62), .unset]) rfl k) ?_
        show own_R p e below _ T62 (mkF m 213 #[.val (.long q0), .second, .val (.long q2), .second, .val (.int p4), .val (.int p5), .val (.ref b1), .val (.int qq), .val (.int xa), .val (.int ya), .val (.int mm), .val (.int tt), .val (.ref b17), .val (.ref b22), .val (.ref b62), .unset] [])
        refine own_go (fun t k => XS.aload X62.here hx rfl (hb hby at_213) rfl rfl  k) ?_
        show own_R p e below _ T62 (mkF m 215 #[.val (.long q0), .second, .val (.long q2), .second, .val (.int p4), .val (.int p5), .val (.ref b1), .val (.int qq), .val (.int xa), .val (.int ya), .val (.int mm), .val (.int tt), .val (.ref b17), .val (.ref b22), .val (.ref b62), .unset] [(.ref b22)])
        refine own_go (fun t k => XS.lconst X62.here hx rfl (hb hby at_215) k) ?_
        show own_R p e below _ T62 (mkF m 216 #[.val (.long q0), .second, .val (.long q2), .second, .val (.int p4), .val (.int p5), .val (.ref b1), .val (.int qq), .val (.int xa), .val (.int ya), .val (.int mm), .val (.int tt), .val (.ref b17), .val (.ref b22), .val (.ref b62), .unset] [(.long (0 : Int64)), (.ref b22)])
        refine own_go (fun t k => XS.aconstNull X62.here hx rfl (hb hby at_216) k) ?_
        show own_R p e below _ T62 (mkF m 217 #[.val (.long q0), .second, .val (.long q2), .second, .val (.int p4), .val (.int p5), .val (.ref b1), .val (.int qq), .val (.int xa), .val (.int ya), .val (.int mm), .val (.int tt), .val (.ref b17), .val (.ref b22), .val (.ref b62), .unset] [.null, (.long (0 : Int64)), (.ref b22)])
        obtain ⟨cq63, kq63, q63a, q63b, q63c⟩ := isOf hZ e62 Ew58
        obtain ⟨_, _, ⟨T63, L63, k63, n63⟩, -, X63, ⟨Lc63, hQ63, l63, y63, z63⟩, st63⟩ := X62.virtualBack hx (y := (⟨"com/example/xtd/xtd/model/LineCounter", "position", "(JLjava/lang/String;)Lcom/example/xtd/xtd/model/Position;"⟩ : MethodName)) (z := (⟨"com/example/xtd/xtd/model/LineCounter", "position", "(JLjava/lang/String;)Lcom/example/xtd/xtd/model/Position;"⟩ : MethodName)) hown (mvT hZ (hw _ (List.mem_of_getElem? (i := 39) rfl))) (mvT hZ (hw _ (List.mem_of_getElem? (i := 40) rfl))) (notFace_of_selects (args := #[]) (mvT hZ (hw _ (List.mem_of_getElem? (i := 42) rfl)))) (mvT hZ (hw _ (List.mem_of_getElem? (i := 42) rfl))) (mvT hZ (hw _ (List.mem_of_getElem? (i := 41) rfl))) (by decide) (backOf (W := 0) (rmposn l Z a0 hw [] b22 (0 : Int64) lv58 cv58 rv58 h62 n0 (Nat.le_trans Z0 Kh.1) Fl58 Fc58 Fr58 Ew58) hZ (hw _ (List.mem_of_getElem? (i := 43) rfl)) (hw _ (List.mem_of_getElem? (i := 16) rfl)) (by decide) (by decide)) q63a q63c (g := (mkF m 217 #[.val (.long q0), .second, .val (.long q2), .second, .val (.int p4), .val (.int p5), .val (.ref b1), .val (.int qq), .val (.int xa), .val (.int ya), .val (.int mm), .val (.int tt), .val (.ref b17), .val (.ref b22), .val (.ref b62), .unset] [.null, (.long (0 : Int64)), (.ref b22)])) rfl (by rw [hml]; rfl) (Steps.refl _) (argsL := [(.long (0 : Int64)), .null]) (rest := []) (lenOf pd_5 rfl) rfl (by show 2 * 0 + _ ≤ _; exact Nat.le_of_eq rfl) (hb hby at_217) (fun _ _ => ⟨rfl, e62, (by decide : 4 + 1 ≤ _), (by decide : 14 + 4 ≤ _)⟩)
        dsimp only [Pt.U, Pt.locs, Pt.cells, Pt.slots] at X63 l63 y63 z63 st63 hQ63
        subst l63 y63 z63
        obtain ⟨b63, rfl, Nq63, K63, gz63_b, E63_b, F63_b_line, F63_b_column, F63_b_offset, F63_b_systemId⟩ := hQ63
        obtain ⟨Lh63, X63, N63⟩ := own_hide X63 (Fr.app N62 Nq63)
        obtain ⟨h63, e63⟩ : ∃ z, T63.heap = z := ⟨_, rfl⟩
        rw [e63] at K63 E63_b F63_b_line F63_b_column F63_b_offset F63_b_systemId
        have ne_b1_b63 : b1 ≠ b63 := Nat.ne_of_lt (Nat.lt_of_lt_of_le V_b1_13.lt gz63_b)
        have ne_b17_b63 : b17 ≠ b63 := Nat.ne_of_lt (Nat.lt_of_lt_of_le Ew21.lt gz63_b)
        have ne_b22_b63 : b22 ≠ b63 := Nat.ne_of_lt (Nat.lt_of_lt_of_le Ew58.lt gz63_b)
        have ne_b62_b63 : b62 ≠ b63 := Nat.ne_of_lt (Nat.lt_of_lt_of_le E62_b.lt gz63_b)
        have g_b63 : n0 ≤ b63 := Nat.le_trans (Nat.le_trans Z0 Kh.1) gz63_b
        have sz_b63 : h0.size ≤ b63 := Nat.le_trans Kh.1 gz63_b
        replace V_b1_13 := V_b1_13.keep K63 nin0
        replace Ew21 := Exa.keep Ew21 K63
        replace Fl21 := Fl21.keep K63 nin0
        replace Fc21 := Fc21.keep K63 nin0
        replace Fr21 := Fr21.keep K63 nin0
        replace Ew58 := Exa.keep Ew58 K63
        replace Fl58 := Fl58.keep K63 nin0
        replace Fc58 := Fc58.keep K63 nin0
        replace Fr58 := Fr58.keep K63 nin0
        replace E62_b := Exa.keep E62_b K63
        replace F62_b_line := F62_b_line.keep K63 nin0
        replace F62_b_column := F62_b_column.keep K63 nin0
        replace F62_b_offset := F62_b_offset.keep K63 nin0
        replace F62_b_systemId := F62_b_systemId.keep K63 nin0
        replace Kh := Kh.trans K63 all0
        refine own_go (fun t k => st63.trans k) ?_
        show own_R p e below _ T63 (mkF m 220 #[.val (.long q0), .second, .val (.long q2), .second, .val (.int p4), .val (.int p5), .val (.ref b1), .val (.int qq), .val (.int xa), .val (.int ya), .val (.int mm), .val (.int tt), .val (.ref b17), .val (.ref b22), .val (.ref b62), .unset] [(.ref b63)])
        refine own_go (fun t k => XS.astore X63.here hx rfl (hb hby at_220) rfl rfl (l' := #[.val (.long q0), .second, .val (.long q2), .second, .val (.int p4), .val (.int p5), .val (.ref b1), .val (.int qq), .val (.int xa), .val (.int ya), .val (.int mm), .val (.int tt), .val (.ref b17), .val (.ref b22), .val (.ref b62), .val (.ref b63)]) rfl k) ?_
        show own_R p e below _ T63 (mkF m 222 #[.val (.long q0), .second, .val (.long q2), .second, .val (.int p4), .val (.int p5), .val (.ref b1), .val (.int qq), .val (.int xa), .val (.int ya), .val (.int mm), .val (.int tt), .val (.ref b17), .val (.ref b22), .val (.ref b62), .val (.ref b63)] [])
        refine own_go (fun t k => XS.aload X63.here hx rfl (hb hby at_222) rfl rfl  k) ?_
        show own_R p e below _ T63 (mkF m 224 #[.val (.long q0), .second, .val (.long q2), .second, .val (.int p4), .val (.int p5), .val (.ref b1), .val (.int qq), .val (.int xa), .val (.int ya), .val (.int mm), .val (.int tt), .val (.ref b17), .val (.ref b22), .val (.ref b62), .val (.ref b63)] [(.ref b62)])
        obtain ⟨cq64, kq64, q64a, q64b, q64c⟩ := isOf hZ e63 E62_b
        obtain ⟨_, _, ⟨T64, L64, k64, n64⟩, -, X64, ⟨Lc64, hQ64, l64, y64, z64⟩, st64⟩ := X63.virtualBack hx (y := (⟨"com/example/xtd/xtd/model/Position", "line", "()I"⟩ : MethodName)) (z := (⟨"com/example/xtd/xtd/model/Position", "line", "()I"⟩ : MethodName)) hown (mvT hZ (hw _ (List.mem_of_getElem? (i := 64) rfl))) (mvT hZ (hw _ (List.mem_of_getElem? (i := 65) rfl))) (notFace_of_selects (args := #[]) (mvT hZ (hw _ (List.mem_of_getElem? (i := 67) rfl)))) (mvT hZ (hw _ (List.mem_of_getElem? (i := 67) rfl))) (mvT hZ (hw _ (List.mem_of_getElem? (i := 66) rfl))) (by decide) (backOf (W := 0) (rmgline l Z a0 hw [] b62 lv21 cv21 (0 : Int64) h63 n0 (Nat.le_trans Z0 Kh.1) F62_b_line F62_b_column F62_b_offset F62_b_systemId E62_b) hZ (hw _ (List.mem_of_getElem? (i := 68) rfl)) (hw _ (List.mem_of_getElem? (i := 46) rfl)) (by decide) (by decide)) q64a q64c (g := (mkF m 224 #[.val (.long q0), .second, .val (.long q2), .second, .val (.int p4), .val (.int p5), .val (.ref b1), .val (.int qq), .val (.int xa), .val (.int ya), .val (.int mm), .val (.int tt), .val (.ref b17), .val (.ref b22), .val (.ref b62), .val (.ref b63)] [(.ref b62)])) rfl (by rw [hml]; rfl) (Steps.refl _) (argsL := []) (rest := []) (lenOf pd_7 rfl) rfl (by show 2 * 0 + _ ≤ _; exact Nat.le_of_eq rfl) (hb hby at_224) (fun _ _ => ⟨rfl, e63, (by decide : 5 + 0 ≤ _), (by decide : 18 + 0 ≤ _)⟩)
        dsimp only [Pt.U, Pt.locs, Pt.cells, Pt.slots] at X64 l64 y64 z64 st64 hQ64
        subst l64 y64 z64
        obtain ⟨rfl, Nq64, e64⟩ := hQ64
        obtain ⟨Lh64, X64, N64⟩ := own_hide X64 (Fr.app N63 Nq64)
        refine own_go (fun t k => st64.trans k) ?_
        show own_R p e below _ T64 (mkF m 227 #[.val (.long q0), .second, .val (.long q2), .second, .val (.int p4), .val (.int p5), .val (.ref b1), .val (.int qq), .val (.int xa), .val (.int ya), .val (.int mm), .val (.int tt), .val (.ref b17), .val (.ref b22), .val (.ref b62), .val (.ref b63)] [(.int lv21)])
        refine own_go (fun t k => XS.aload X64.here hx rfl (hb hby at_227) rfl rfl  k) ?_
        show own_R p e below _ T64 (mkF m 229 #[.val (.long q0), .second, .val (.long q2), .second, .val (.int p4), .val (.int p5), .val (.ref b1), .val (.int qq), .val (.int xa), .val (.int ya), .val (.int mm), .val (.int tt), .val (.ref b17), .val (.ref b22), .val (.ref b62), .val (.ref b63)] [(.ref b63), (.int lv21)])
        obtain ⟨cq65, kq65, q65a, q65b, q65c⟩ := isOf hZ e64 E63_b
        obtain ⟨_, _, ⟨T65, L65, k65, n65⟩, -, X65, ⟨Lc65, hQ65, l65, y65, z65⟩, st65⟩ := X64.virtualBack hx (y := (⟨"com/example/xtd/xtd/model/Position", "line", "()I"⟩ : MethodName)) (z := (⟨"com/example/xtd/xtd/model/Position", "line", "()I"⟩ : MethodName)) hown (mvT hZ (hw _ (List.mem_of_getElem? (i := 64) rfl))) (mvT hZ (hw _ (List.mem_of_getElem? (i := 65) rfl))) (notFace_of_selects (args := #[]) (mvT hZ (hw _ (List.mem_of_getElem? (i := 67) rfl)))) (mvT hZ (hw _ (List.mem_of_getElem? (i := 67) rfl))) (mvT hZ (hw _ (List.mem_of_getElem? (i := 66) rfl))) (by decide) (backOf (W := 1) (rmgline l Z a0 hw [] b63 lv58 cv58 (0 : Int64) h63 n0 (Nat.le_trans Z0 Kh.1) F63_b_line F63_b_column F63_b_offset F63_b_systemId E63_b) hZ (hw _ (List.mem_of_getElem? (i := 68) rfl)) (hw _ (List.mem_of_getElem? (i := 46) rfl)) (by decide) (by decide)) q65a q65c (g := (mkF m 229 #[.val (.long q0), .second, .val (.long q2), .second, .val (.int p4), .val (.int p5), .val (.ref b1), .val (.int qq), .val (.int xa), .val (.int ya), .val (.int mm), .val (.int tt), .val (.ref b17), .val (.ref b22), .val (.ref b62), .val (.ref b63)] [(.ref b63), (.int lv21)])) rfl (by rw [hml]; rfl) (Steps.refl _) (argsL := []) (rest := [(.int lv21)]) (lenOf pd_7 rfl) rfl (by show 2 * 0 + _ ≤ _; exact Nat.le_of_eq rfl) (hb hby at_229) (fun _ _ => ⟨rfl, e64, (by decide : 5 + 0 ≤ _), (by decide : 18 + 0 ≤ _)⟩)
        dsimp only [Pt.U, Pt.locs, Pt.cells, Pt.slots] at X65 l65 y65 z65 st65 hQ65
        subst l65 y65 z65
        obtain ⟨rfl, Nq65, e65⟩ := hQ65
        obtain ⟨Lh65, X65, N65⟩ := own_hide X65 (Fr.app N64 Nq65)
        refine own_go (fun t k => st65.trans k) ?_
        show own_R p e below _ T65 (mkF m 232 #[.val (.long q0), .second, .val (.long q2), .second, .val (.int p4), .val (.int p5), .val (.ref b1), .val (.int qq), .val (.int xa), .val (.int ya), .val (.int mm), .val (.int tt), .val (.ref b17), .val (.ref b22), .val (.ref b62), .val (.ref b63)] [(.int lv58), (.int lv21)])
        refine own_go (fun t k => XS.icmpNo X65.here hx rfl (hb hby at_232) rfl (teq (Prod.mk.inj hE).1).2 k) ?_
        show own_R p e below _ T65 (mkF m 235 #[.val (.long q0), .second, .val (.long q2), .second, .val (.int p4), .val (.int p5), .val (.ref b1), .val (.int qq), .val (.int xa), .val (.int ya), .val (.int mm), .val (.int tt), .val (.ref b17), .val (.ref b22), .val (.ref b62), .val (.ref b63)] [])
        refine own_go (fun t k => XS.aload X65.here hx rfl (hb hby at_235) rfl rfl  k) ?_
        show own_R p e below _ T65 (mkF m 237 #[.val (.long q0), .second, .val (.long q2), .second, .val (.int p4), .val (.int p5), .val (.ref b1), .val (.int qq), .val (.int xa), .val (.int ya), .val (.int mm), .val (.int tt), .val (.ref b17), .val (.ref b22), .val (.ref b62), .val (.ref b63)] [(.ref b62)])
        obtain ⟨cq66, kq66, q66a, q66b, q66c⟩ := isOf hZ e65 E62_b
        obtain ⟨_, _, ⟨T66, L66, k66, n66⟩, -, X66, ⟨Lc66, hQ66, l66, y66, z66⟩, st66⟩ := X65.virtualBack hx (y := (⟨"com/example/xtd/xtd/model/Position", "column", "()I"⟩ : MethodName)) (z := (⟨"com/example/xtd/xtd/model/Position", "column", "()I"⟩ : MethodName)) hown (mvT hZ (hw _ (List.mem_of_getElem? (i := 69) rfl))) (mvT hZ (hw _ (List.mem_of_getElem? (i := 70) rfl))) (notFace_of_selects (args := #[]) (mvT hZ (hw _ (List.mem_of_getElem? (i := 72) rfl)))) (mvT hZ (hw _ (List.mem_of_getElem? (i := 72) rfl))) (mvT hZ (hw _ (List.mem_of_getElem? (i := 71) rfl))) (by decide) (backOf (W := 0) (rmgcolumn l Z a0 hw [] b62 lv21 cv21 (0 : Int64) h63 n0 (Nat.le_trans Z0 Kh.1) F62_b_line F62_b_column F62_b_offset F62_b_systemId E62_b) hZ (hw _ (List.mem_of_getElem? (i := 73) rfl)) (hw _ (List.mem_of_getElem? (i := 46) rfl)) (by decide) (by decide)) q66a q66c (g := (mkF m 237 #[.val (.long q0), .second, .val (.long q2), .second, .val (.int p4), .val (.int p5), .val (.ref b1), .val (.int qq), .val (.int xa), .val (.int ya), .val (.int mm), .val (.int tt), .val (.ref b17), .val (.ref b22), .val (.ref b62), .val (.ref b63)] [(.ref b62)])) rfl (by rw [hml]; rfl) (Steps.refl _) (argsL := []) (rest := []) (lenOf pd_7 rfl) rfl (by show 2 * 0 + _ ≤ _; exact Nat.le_of_eq rfl) (hb hby at_237) (fun _ _ => ⟨rfl, e65, (by decide : 5 + 0 ≤ _), (by decide : 18 + 0 ≤ _)⟩)
        dsimp only [Pt.U, Pt.locs, Pt.cells, Pt.slots] at X66 l66 y66 z66 st66 hQ66
        subst l66 y66 z66
        obtain ⟨rfl, Nq66, e66⟩ := hQ66
        obtain ⟨Lh66, X66, N66⟩ := own_hide X66 (Fr.app N65 Nq66)
        refine own_go (fun t k => st66.trans k) ?_
        show own_R p e below _ T66 (mkF m 240 #[.val (.long q0), .second, .val (.long q2), .second, .val (.int p4), .val (.int p5), .val (.ref b1), .val (.int qq), .val (.int xa), .val (.int ya), .val (.int mm), .val (.int tt), .val (.ref b17), .val (.ref b22), .val (.ref b62), .val (.ref b63)] [(.int cv21)])
        refine own_go (fun t k => XS.aload X66.here hx rfl (hb hby at_240) rfl rfl  k) ?_
        show own_R p e below _ T66 (mkF m 242 #[.val (.long q0), .second, .val (.long q2), .second, .val (.int p4), .val (.int p5), .val (.ref b1), .val (.int qq), .val (.int xa), .val (.int ya), .val (.int mm), .val (.int tt), .val (.ref b17), .val (.ref b22), .val (.ref b62), .val (.ref b63)] [(.ref b63), (.int cv21)])
        obtain ⟨cq67, kq67, q67a, q67b, q67c⟩ := isOf hZ e66 E63_b
        obtain ⟨_, _, ⟨T67, L67, k67, n67⟩, -, X67, ⟨Lc67, hQ67, l67, y67, z67⟩, st67⟩ := X66.virtualBack hx (y := (⟨"com/example/xtd/xtd/model/Position", "column", "()I"⟩ : MethodName)) (z := (⟨"com/example/xtd/xtd/model/Position", "column", "()I"⟩ : MethodName)) hown (mvT hZ (hw _ (List.mem_of_getElem? (i := 69) rfl))) (mvT hZ (hw _ (List.mem_of_getElem? (i := 70) rfl))) (notFace_of_selects (args := #[]) (mvT hZ (hw _ (List.mem_of_getElem? (i := 72) rfl)))) (mvT hZ (hw _ (List.mem_of_getElem? (i := 72) rfl))) (mvT hZ (hw _ (List.mem_of_getElem? (i := 71) rfl))) (by decide) (backOf (W := 1) (rmgcolumn l Z a0 hw [] b63 lv58 cv58 (0 : Int64) h63 n0 (Nat.le_trans Z0 Kh.1) F63_b_line F63_b_column F63_b_offset F63_b_systemId E63_b) hZ (hw _ (List.mem_of_getElem? (i := 73) rfl)) (hw _ (List.mem_of_getElem? (i := 46) rfl)) (by decide) (by decide)) q67a q67c (g := (mkF m 242 #[.val (.long q0), .second, .val (.long q2), .second, .val (.int p4), .val (.int p5), .val (.ref b1), .val (.int qq), .val (.int xa), .val (.int ya), .val (.int mm), .val (.int tt), .val (.ref b17), .val (.ref b22), .val (.ref b62), .val (.ref b63)] [(.ref b63), (.int cv21)])) rfl (by rw [hml]; rfl) (Steps.refl _) (argsL := []) (rest := [(.int cv21)]) (lenOf pd_7 rfl) rfl (by show 2 * 0 + _ ≤ _; exact Nat.le_of_eq rfl) (hb hby at_242) (fun _ _ => ⟨rfl, e66, (by decide : 5 + 0 ≤ _), (by decide : 18 + 0 ≤ _)⟩)
        dsimp only [Pt.U, Pt.locs, Pt.cells, Pt.slots] at X67 l67 y67 z67 st67 hQ67
        subst l67 y67 z67
        obtain ⟨rfl, Nq67, e67⟩ := hQ67
        obtain ⟨Lh67, X67, N67⟩ := own_hide X67 (Fr.app N66 Nq67)
        refine own_go (fun t k => st67.trans k) ?_
        show own_R p e below _ T67 (mkF m 245 #[.val (.long q0), .second, .val (.long q2), .second, .val (.int p4), .val (.int p5), .val (.ref b1), .val (.int qq), .val (.int xa), .val (.int ya), .val (.int mm), .val (.int tt), .val (.ref b17), .val (.ref b22), .val (.ref b62), .val (.ref b63)] [(.int cv58), (.int cv21)])
        refine own_go (fun t k => XS.icmpNo X67.here hx rfl (hb hby at_245) rfl (teq (Prod.mk.inj (Prod.mk.inj hE).2).1).2 k) ?_
        show own_R p e below _ T67 (mkF m 248 #[.val (.long q0), .second, .val (.long q2), .second, .val (.int p4), .val (.int p5), .val (.ref b1), .val (.int qq), .val (.int xa), .val (.int ya), .val (.int mm), .val (.int tt), .val (.ref b17), .val (.ref b22), .val (.ref b62), .val (.ref b63)] [])
        refine own_go (fun t k => XS.iconst X67.here hx rfl (hb hby at_248) k) ?_
        show own_R p e below _ T67 (mkF m 249 #[.val (.long q0), .second, .val (.long q2), .second, .val (.int p4), .val (.int p5), .val (.ref b1), .val (.int qq), .val (.int xa), .val (.int ya), .val (.int mm), .val (.int tt), .val (.ref b17), .val (.ref b22), .val (.ref b62), .val (.ref b63)] [(.int (1 : Int32))])
        refine own_go (fun t k => XS.goto X67.here hx rfl (pc0 := 249) (pc' := 253) rfl (hb hby at_249) (by decide) (by decide) k) ?_
        show own_R p e below _ T67 (mkF m 253 #[.val (.long q0), .second, .val (.long q2), .second, .val (.int p4), .val (.int p5), .val (.ref b1), .val (.int qq), .val (.int xa), .val (.int ya), .val (.int mm), .val (.int tt), .val (.ref b17), .val (.ref b22), .val (.ref b62), .val (.ref b63)] [(.int (1 : Int32))])
        refine own_retN X67 hx Bd.returns (by simp) (BodyLoose.notSynchronized Bd) (hb hby at_253) (by decide) (by decide) ?_
        exact ⟨rfl, N67⟩
    · -- pc 155: no
      refine own_go (fun t k => XS.icmpYes X26.here hx rfl (pc0 := 155) (pc' := 167) rfl (hb hby at_155) rfl (flt hc155_27).2.2.2 (by decide) (by decide) k) ?_
      show own_R p e below _ T26 (mkF m 167 #[.val (.long q0), .second, .val (.long q2), .second, .val (.int p4), .val (.int p5), .val (.ref b1), .val (.int qq), .val (.int xa), .val (.int ya), .val (.int mm), .val (.int tt), .val (.ref b17), .val (.ref b22), .unset, .unset] [])
      refine own_go (fun t k => XS.iload X26.here hx rfl (hb hby at_167) rfl  k) ?_
      show own_R p e below _ T26 (mkF m 169 #[.val (.long q0), .second, .val (.long q2), .second, .val (.int p4), .val (.int p5), .val (.ref b1), .val (.int qq), .val (.int xa), .val (.int ya), .val (.int mm), .val (.int tt), .val (.ref b17), .val (.ref b22), .unset, .unset] [(.int tt)])
      refine own_go (fun t k => XS.iconst X26.here hx rfl (hb hby at_169) k) ?_
      show own_R p e below _ T26 (mkF m 170 #[.val (.long q0), .second, .val (.long q2), .second, .val (.int p4), .val (.int p5), .val (.ref b1), .val (.int qq), .val (.int xa), .val (.int ya), .val (.int mm), .val (.int tt), .val (.ref b17), .val (.ref b22), .unset, .unset] [(.int (2 : Int32)), (.int tt)])
      refine own_go (fun t k => XS.icmpYes X26.here hx rfl (pc0 := 170) (pc' := 182) rfl (hb hby at_170) rfl (flt (own_nlt hc155_27 (by decide))).2.2.2 (by decide) (by decide) k) ?_
      show own_R p e below _ T26 (mkF m 182 #[.val (.long q0), .second, .val (.long q2), .second, .val (.int p4), .val (.int p5), .val (.ref b1), .val (.int qq), .val (.int xa), .val (.int ya), .val (.int mm), .val (.int tt), .val (.ref b17), .val (.ref b22), .unset, .unset] [])
      refine own_go (fun t k => XS.iload X26.here hx rfl (hb hby at_182) rfl  k) ?_
      show own_R p e below _ T26 (mkF m 184 #[.val (.long q0), .second, .val (.long q2), .second, .val (.int p4), .val (.int p5), .val (.ref b1), .val (.int qq), .val (.int xa), .val (.int ya), .val (.int mm), .val (.int tt), .val (.ref b17), .val (.ref b22), .unset, .unset] [(.int tt)])
      refine own_go (fun t k => XS.iconst X26.here hx rfl (hb hby at_184) k) ?_
      show own_R p e below _ T26 (mkF m 185 #[.val (.long q0), .second, .val (.long q2), .second, .val (.int p4), .val (.int p5), .val (.ref b1), .val (.int qq), .val (.int xa), .val (.int ya), .val (.int mm), .val (.int tt), .val (.ref b17), .val (.ref b22), .unset, .unset] [(.int (3 : Int32)), (.int tt)])
      refine own_go (fun t k => XS.icmpYes X26.here hx rfl (pc0 := 185) (pc' := 197) rfl (hb hby at_185) rfl (flt (own_nlt hc155_27 (by decide))).2.2.2 (by decide) (by decide) k) ?_
      show own_R p e below _ T26 (mkF m 197 #[.val (.long q0), .second, .val (.long q2), .second, .val (.int p4), .val (.int p5), .val (.ref b1), .val (.int qq), .val (.int xa), .val (.int ya), .val (.int mm), .val (.int tt), .val (.ref b17), .val (.ref b22), .unset, .unset] [])
      refine own_go (fun t k => XS.aload X26.here hx rfl (hb hby at_197) rfl rfl  k) ?_
      show own_R p e below _ T26 (mkF m 199 #[.val (.long q0), .second, .val (.long q2), .second, .val (.int p4), .val (.int p5), .val (.ref b1), .val (.int qq), .val (.int xa), .val (.int ya), .val (.int mm), .val (.int tt), .val (.ref b17), .val (.ref b22), .unset, .unset] [(.ref b22)])
      refine own_go (fun t k => XS.iload X26.here hx rfl (hb hby at_199) rfl  k) ?_
      show own_R p e below _ T26 (mkF m 201 #[.val (.long q0), .second, .val (.long q2), .second, .val (.int p4), .val (.int p5), .val (.ref b1), .val (.int qq), .val (.int xa), .val (.int ya), .val (.int mm), .val (.int tt), .val (.ref b17), .val (.ref b22), .unset, .unset] [(.int qq), (.ref b22)])
      obtain ⟨cq68, kq68, q68a, q68b, q68c⟩ := isOf hZ e26 Ew26
      obtain ⟨_, _, ⟨T68, L68, k68, n68⟩, -, X68, ⟨Lc68, hQ68, l68, y68, z68⟩, st68⟩ := X26.virtualBack hx (y := (⟨"com/example/xtd/xtd/model/LineCounter", "count", "(C)V"⟩ : MethodName)) (z := (⟨"com/example/xtd/xtd/model/LineCounter", "count", "(C)V"⟩ : MethodName)) hown (mvT hZ (hw _ (List.mem_of_getElem? (i := 34) rfl))) (mvT hZ (hw _ (List.mem_of_getElem? (i := 35) rfl))) (notFace_of_selects (args := #[]) (mvT hZ (hw _ (List.mem_of_getElem? (i := 37) rfl)))) (mvT hZ (hw _ (List.mem_of_getElem? (i := 37) rfl))) (mvT hZ (hw _ (List.mem_of_getElem? (i := 36) rfl))) (by decide) (backOf (W := 0) (rmcch l Z a0 hw [] b22 qq lv26 cv26 rv26 h26 n0 (Nat.le_trans Z0 Kh.1) Fl26 Fc26 Fr26 Ew26 g_b22) hZ (hw _ (List.mem_of_getElem? (i := 38) rfl)) (hw _ (List.mem_of_getElem? (i := 16) rfl)) (by decide) (by decide)) q68a q68c (g := (mkF m 201 #[.val (.long q0), .second, .val (.long q2), .second, .val (.int p4), .val (.int p5), .val (.ref b1), .val (.int qq), .val (.int xa), .val (.int ya), .val (.int mm), .val (.int tt), .val (.ref b17), .val (.ref b22), .unset, .unset] [(.int qq), (.ref b22)])) rfl (by rw [hml]; rfl) (Steps.refl _) (argsL := [(.int qq)]) (rest := []) (lenOf pd_4 rfl) rfl (by show 2 * 0 + _ ≤ _; exact Nat.le_of_eq rfl) (hb hby at_201) (fun _ _ => ⟨rfl, e26, (by decide : 3 + 0 ≤ _), (by decide : 10 + 0 ≤ _)⟩)
      dsimp only [Pt.U, Pt.locs, Pt.cells, Pt.slots] at X68 l68 y68 z68 st68 hQ68
      subst l68 y68 z68
      obtain ⟨lv68, cv68, rv68, rfl, Nq68, hs68, K68, Ew68, Fl68, Fc68, Fr68⟩ := hQ68
      obtain ⟨Lh68, X68, N68⟩ := own_hide X68 (Fr.app N26 Nq68)
      obtain ⟨h68, e68⟩ : ∃ z, T68.heap = z := ⟨_, rfl⟩
      rw [e68] at K68 Ew68 Fl68 Fc68 Fr68
      replace V_b1_13 := V_b1_13.keep K68 (ninS ne_b1_b22 nin0)
      replace Ew21 := Exa.keep Ew21 K68
      replace Fl21 := Fl21.keep K68 (ninS ne_b17_b22 nin0)
      replace Fc21 := Fc21.keep K68 (ninS ne_b17_b22 nin0)
      replace Fr21 := Fr21.keep K68 (ninS ne_b17_b22 nin0)
      replace Kh := Kh.trans K68 (allS (Or.inr sz_b22) all0)
      refine own_go (fun t k => st68.trans k) ?_
      show own_R p e below _ T68 (mkF m 204 #[.val (.long q0), .second, .val (.long q2), .second, .val (.int p4), .val (.int p5), .val (.ref b1), .val (.int qq), .val (.int xa), .val (.int ya), .val (.int mm), .val (.int tt), .val (.ref b17), .val (.ref b22), .unset, .unset] [])
      have hn : tt.toInt = 1 := by
        have z69 : 0 < tt.toInt := own_lti hc140_24 rfl rfl
        have z70 : tt.toInt ≤ 1 := own_nlti hc155_27 rfl rfl
        omega
      have k0 : (0 : Int32).toInt = 0 := rfl
      have hA : (lv20, cv20, rv20) = own_run ([(nar .char u0), (nar .char u1), (nar .char u2), (nar .char u3)] : List Int32) 1 0 ((1 : Int32), (1 : Int32), (0 : Int32)) := by
        have q := own_run_add ([(nar .char u0), (nar .char u1), (nar .char u2), (nar .char u3)] : List Int32) (mm.toInt - (0 : Int32).toInt).toNat (tt.toInt - mm.toInt).toNat (0 : Int32).toInt.toNat ((1 : Int32), (1 : Int32), (0 : Int32))
        rw [← hs19] at q
        rw [hs20, show mm.toInt.toNat = (0 : Int32).toInt.toNat + (mm.toInt - (0 : Int32).toInt).toNat by omega, ← q, show (mm.toInt - (0 : Int32).toInt).toNat + (tt.toInt - mm.toInt).toNat = 1 by omega]
        rfl
      have hB : (lv26, cv26, rv26) = own_run ([(nar .char u0), (nar .char u1), (nar .char u2), (nar .char u3)] : List Int32) 1 0 ((1 : Int32), (1 : Int32), (0 : Int32)) := by
        rw [hs26]
        rfl
      have hE : (lv21, cv21, rv21) = (lv68, cv68, rv68) := by rw [hs21, hs68, hA, ← hB]
      refine own_go (fun t k => XS.aload X68.here hx rfl (hb hby at_204) rfl rfl  k) ?_
      show own_R p e below _ T68 (mkF m 206 #[.val (.long q0), .second, .val (.long q2), .second, .val (.int p4), .val (.int p5), .val (.ref b1), .val (.int qq), .val (.int xa), .val (.int ya), .val (.int mm), .val (.int tt), .val (.ref b17), .val (.ref b22), .unset, .unset] [(.ref b17)])
      refine own_go (fun t k => XS.lconst X68.here hx rfl (hb hby at_206) k) ?_
      show own_R p e below _ T68 (mkF m 207 #[.val (.long q0), .second, .val (.long q2), .second, .val (.int p4), .val (.int p5), .val (.ref b1), .val (.int qq), .val (.int xa), .val (.int ya), .val (.int mm), .val (.int tt), .val (.ref b17), .val (.ref b22), .unset, .unset] [(.long (0 : Int64)), (.ref b17)])
      refine own_go (fun t k => XS.aconstNull X68.here hx rfl (hb hby at_207) k) ?_
      show own_R p e below _ T68 (mkF m 208 #[.val (.long q0), .second, .val (.long q2), .second, .val (.int p4), .val (.int p5), .val (.ref b1), .val (.int qq), .val (.int xa), .val (.int ya), .val (.int mm), .val (.int tt), .val (.ref b17), .val (.ref b22), .unset, .unset] [.null, (.long (0 : Int64)), (.ref b17)])
      obtain ⟨cq71, kq71, q71a, q71b, q71c⟩ := isOf hZ e68 Ew21
      obtain ⟨_, _, ⟨T71, L71, k71, n71⟩, -, X71, ⟨Lc71, hQ71, l71, y71, z71⟩, st71⟩ := X68.virtualBack hx (y := (⟨"com/example/xtd/xtd/model/LineCounter", "position", "(JLjava/lang/String;)Lcom/example/xtd/xtd/model/Position;"⟩ : MethodName)) (z := (⟨"com/example/xtd/xtd/model/LineCounter", "position", "(JLjava/lang/String;)Lcom/example/xtd/xtd/model/Position;"⟩ : MethodName)) hown (mvT hZ (hw _ (List.mem_of_getElem? (i := 39) rfl))) (mvT hZ (hw _ (List.mem_of_getElem? (i := 40) rfl))) (notFace_of_selects (args := #[]) (mvT hZ (hw _ (List.mem_of_getElem? (i := 42) rfl)))) (mvT hZ (hw _ (List.mem_of_getElem? (i := 42) rfl))) (mvT hZ (hw _ (List.mem_of_getElem? (i := 41) rfl))) (by decide) (backOf (W := 0) (rmposn l Z a0 hw [] b17 (0 : Int64) lv21 cv21 rv21 h68 n0 (Nat.le_trans Z0 Kh.1) Fl21 Fc21 Fr21 Ew21) hZ (hw _ (List.mem_of_getElem? (i := 43) rfl)) (hw _ (List.mem_of_getElem? (i := 16) rfl)) (by decide) (by decide)) q71a q71c (g := (mkF m 208 #[.val (.long q0), .second, .val (.long q2), .second, .val (.int p4), .val (.int p5), .val (.ref b1), .val (.int qq), .val (.int xa), .val (.int ya), .val (.int mm), .val (.int tt), .val (.ref b17), .val (.ref b22), .unset, .unset] [.null, (.long (0 : Int64)), (.ref b17)])) rfl (by rw [hml]; rfl) (Steps.refl _) (argsL := [(.long (0 : Int64)), .null]) (rest := []) (lenOf pd_5 rfl) rfl (by show 2 * 0 + _ ≤ _; exact Nat.le_of_eq rfl) (hb hby at_208) (fun _ _ => ⟨rfl, e68, (by decide : 3 + 1 ≤ _), (by decide : 10 + 4 ≤ _)⟩)
      dsimp only [Pt.U, Pt.locs, Pt.cells, Pt.slots] at X71 l71 y71 z71 st71 hQ71
      subst l71 y71 z71
      obtain ⟨b71, rfl, Nq71, K71, gz71_b, E71_b, F71_b_line, F71_b_column, F71_b_offset, F71_b_systemId⟩ := hQ71
      obtain ⟨Lh71, X71, N71⟩ := own_hide X71 (Fr.app N68 Nq71)
      obtain ⟨h71, e71⟩ : ∃ z, T71.heap = z := ⟨_, rfl⟩
      rw [e71] at K71 E71_b F71_b_line F71_b_column F71_b_offset F71_b_systemId
      have ne_b1_b71 : b1 ≠ b71 := Nat.ne_of_lt (Nat.lt_of_lt_of_le V_b1_13.lt gz71_b)
      have ne_b17_b71 : b17 ≠ b71 := Nat.ne_of_lt (Nat.lt_of_lt_of_le Ew21.lt gz71_b)
      have ne_b22_b71 : b22 ≠ b71 := Nat.ne_of_lt (Nat.lt_of_lt_of_le Ew68.lt gz71_b)
      have g_b71 : n0 ≤ b71 := Nat.le_trans (Nat.le_trans Z0 Kh.1) gz71_b
      have sz_b71 : h0.size ≤ b71 := Nat.le_trans Kh.1 gz71_b
      replace V_b1_13 := V_b1_13.keep K71 nin0
      replace Ew21 := Exa.keep Ew21 K71
      replace Fl21 := Fl21.keep K71 nin0
      replace Fc21 := Fc21.keep K71 nin0
      replace Fr21 := Fr21.keep K71 nin0
      replace Ew68 := Exa.keep Ew68 K71
      replace Fl68 := Fl68.keep K71 nin0
      replace Fc68 := Fc68.keep K71 nin0
      replace Fr68 := Fr68.keep K71 nin0
      replace Kh := Kh.trans K71 all0
      refine own_go (fun t k => st71.trans k) ?_
      show own_R p e below _ T71 (mkF m 211 #[.val (.long q0), .second, .val (.long q2), .second, .val (.int p4), .val (.int p5), .val (.ref b1), .val (.int qq), .val (.int xa), .val (.int ya), .val (.int mm), .val (.int tt), .val (.ref b17), .val (.ref b22), .unset, .unset] [(.ref b71)])
      refine own_go (fun t k => XS.astore X71.here hx rfl (hb hby at_211) rfl rfl (l' := #[.val (.long q0), .second, .val (.long q2), .second, .val (.int p4), .val (.int p5), .val (.ref b1), .val (.int qq), .val (.int xa), .val (.int ya), .val (.int mm), .val (.int tt), .val (.ref b17), .val (.ref b22), .val (.ref b71), .unset]) rfl k) ?_
      show own_R p e below _ T71 (mkF m 213 #[.val (.long q0), .second, .val (.long q2), .second, .val (.int p4), .val (.int p5), .val (.ref b1), .val (.int qq), .val (.int xa), .val (.int ya), .val (.int mm), .val (.int tt), .val (.ref b17), .val (.ref b22), .val (.ref b71), .unset] [])
      refine own_go (fun t k => XS.aload X71.here hx rfl (hb hby at_213) rfl rfl  k) ?_
      show own_R p e below _ T71 (mkF m 215 #[.val (.long q0), .second, .val (.long q2), .second, .val (.int p4), .val (.int p5), .val (.ref b1), .val (.int qq), .val (.int xa), .val (.int ya), .val (.int mm), .val (.int tt), .val (.ref b17), .val (.ref b22), .val (.ref b71), .unset] [(.ref b22)])
      refine own_go (fun t k => XS.lconst X71.here hx rfl (hb hby at_215) k) ?_
      show own_R p e below _ T71 (mkF m 216 #[.val (.long q0), .second, .val (.long q2), .second, .val (.int p4), .val (.int p5), .val (.ref b1), .val (.int qq), .val (.int xa), .val (.int ya), .val (.int mm), .val (.int tt), .val (.ref b17), .val (.ref b22), .val (.ref b71), .unset] [(.long (0 : Int64)), (.ref b22)])
      refine own_go (fun t k => XS.aconstNull X71.here hx rfl (hb hby at_216) k) ?_
      show own_R p e below _ T71 (mkF m 217 #[.val (.long q0), .second, .val (.long q2), .second, .val (.int p4), .val (.int p5), .val (.ref b1), .val (.int qq), .val (.int xa), .val (.int ya), .val (.int mm), .val (.int tt), .val (.ref b17), .val (.ref b22), .val (.ref b71), .unset] [.null, (.long (0 : Int64)), (.ref b22)])
      obtain ⟨cq72, kq72, q72a, q72b, q72c⟩ := isOf hZ e71 Ew68
      obtain ⟨_, _, ⟨T72, L72, k72, n72⟩, -, X72, ⟨Lc72, hQ72, l72, y72, z72⟩, st72⟩ := X71.virtualBack hx (y := (⟨"com/example/xtd/xtd/model/LineCounter", "position", "(JLjava/lang/String;)Lcom/example/xtd/xtd/model/Position;"⟩ : MethodName)) (z := (⟨"com/example/xtd/xtd/model/LineCounter", "position", "(JLjava/lang/String;)Lcom/example/xtd/xtd/model/Position;"⟩ : MethodName)) hown (mvT hZ (hw _ (List.mem_of_getElem? (i := 39) rfl))) (mvT hZ (hw _ (List.mem_of_getElem? (i := 40) rfl))) (notFace_of_selects (args := #[]) (mvT hZ (hw _ (List.mem_of_getElem? (i := 42) rfl)))) (mvT hZ (hw _ (List.mem_of_getElem? (i := 42) rfl))) (mvT hZ (hw _ (List.mem_of_getElem? (i := 41) rfl))) (by decide) (backOf (W := 0) (rmposn l Z a0 hw [] b22 (0 : Int64) lv68 cv68 rv68 h71 n0 (Nat.le_trans Z0 Kh.1) Fl68 Fc68 Fr68 Ew68) hZ (hw _ (List.mem_of_getElem? (i := 43) rfl)) (hw _ (List.mem_of_getElem? (i := 16) rfl)) (by decide) (by decide)) q72a q72c (g := (mkF m 217 #[.val (.long q0), .second, .val (.long q2), .second, .val (.int p4), .val (.int p5), .val (.ref b1), .val (.int qq), .val (.int xa), .val (.int ya), .val (.int mm), .val (.int tt), .val (.ref b17), .val (.ref b22), .val (.ref b71), .unset] [.null, (.long (0 : Int64)), (.ref b22)])) rfl (by rw [hml]; rfl) (Steps.refl _) (argsL := [(.long (0 : Int64)), .null]) (rest := []) (lenOf pd_5 rfl) rfl (by show 2 * 0 + _ ≤ _; exact Nat.le_of_eq rfl) (hb hby at_217) (fun _ _ => ⟨rfl, e71, (by decide : 4 + 1 ≤ _), (by decide : 14 + 4 ≤ _)⟩)
      dsimp only [Pt.U, Pt.locs, Pt.cells, Pt.slots] at X72 l72 y72 z72 st72 hQ72
      subst l72 y72 z72
      obtain ⟨b72, rfl, Nq72, K72, gz72_b, E72_b, F72_b_line, F72_b_column, F72_b_offset, F72_b_systemId⟩ := hQ72
      obtain ⟨Lh72, X72, N72⟩ := own_hide X72 (Fr.app N71 Nq72)
      obtain ⟨h72, e72⟩ : ∃ z, T72.heap = z := ⟨_, rfl⟩
      rw [e72] at K72 E72_b F72_b_line F72_b_column F72_b_offset F72_b_systemId
      have ne_b1_b72 : b1 ≠ b72 := Nat.ne_of_lt (Nat.lt_of_lt_of_le V_b1_13.lt gz72_b)
      have ne_b17_b72 : b17 ≠ b72 := Nat.ne_of_lt (Nat.lt_of_lt_of_le Ew21.lt gz72_b)
      have ne_b22_b72 : b22 ≠ b72 := Nat.ne_of_lt (Nat.lt_of_lt_of_le Ew68.lt gz72_b)
      have ne_b71_b72 : b71 ≠ b72 := Nat.ne_of_lt (Nat.lt_of_lt_of_le E71_b.lt gz72_b)
      have g_b72 : n0 ≤ b72 := Nat.le_trans (Nat.le_trans Z0 Kh.1) gz72_b
      have sz_b72 : h0.size ≤ b72 := Nat.le_trans Kh.1 gz72_b
      replace V_b1_13 := V_b1_13.keep K72 nin0
      replace Ew21 := Exa.keep Ew21 K72
      replace Fl21 := Fl21.keep K72 nin0
      replace Fc21 := Fc21.keep K72 nin0
      replace Fr21 := Fr21.keep K72 nin0
      replace Ew68 := Exa.keep Ew68 K72
      replace Fl68 := Fl68.keep K72 nin0
      replace Fc68 := Fc68.keep K72 nin0
      replace Fr68 := Fr68.keep K72 nin0
      replace E71_b := Exa.keep E71_b K72
      replace F71_b_line := F71_b_line.keep K72 nin0
      replace F71_b_column := F71_b_column.keep K72 nin0
      replace F71_b_offset := F71_b_offset.keep K72 nin0
      replace F71_b_systemId := F71_b_systemId.keep K72 nin0
      replace Kh := Kh.trans K72 all0
      refine own_go (fun t k => st72.trans k) ?_
      show own_R p e below _ T72 (mkF m 220 #[.val (.long q0), .second, .val (.long q2), .second, .val (.int p4), .val (.int p5), .val (.ref b1), .val (.int qq), .val (.int xa), .val (.int ya), .val (.int mm), .val (.int tt), .val (.ref b17), .val (.ref b22), .val (.ref b71), .unset] [(.ref b72)])
      refine own_go (fun t k => XS.astore X72.here hx rfl (hb hby at_220) rfl rfl (l' := #[.val (.long q0), .second, .val (.long q2), .second, .val (.int p4), .val (.int p5), .val (.ref b1), .val (.int qq), .val (.int xa), .val (.int ya), .val (.int mm), .val (.int tt), .val (.ref b17), .val (.ref b22), .val (.ref b71), .val (.ref b72)]) rfl k) ?_
      show own_R p e below _ T72 (mkF m 222 #[.val (.long q0), .second, .val (.long q2), .second, .val (.int p4), .val (.int p5), .val (.ref b1), .val (.int qq), .val (.int xa), .val (.int ya), .val (.int mm), .val (.int tt), .val (.ref b17), .val (.ref b22), .val (.ref b71), .val (.ref b72)] [])
      refine own_go (fun t k => XS.aload X72.here hx rfl (hb hby at_222) rfl rfl  k) ?_
      show own_R p e below _ T72 (mkF m 224 #[.val (.long q0), .second, .val (.long q2), .second, .val (.int p4), .val (.int p5), .val (.ref b1), .val (.int qq), .val (.int xa), .val (.int ya), .val (.int mm), .val (.int tt), .val (.ref b17), .val (.ref b22), .val (.ref b71), .val (.ref b72)] [(.ref b71)])
      obtain ⟨cq73, kq73, q73a, q73b, q73c⟩ := isOf hZ e72 E71_b
      obtain ⟨_, _, ⟨T73, L73, k73, n73⟩, -, X73, ⟨Lc73, hQ73, l73, y73, z73⟩, st73⟩ := X72.virtualBack hx (y := (⟨"com/example/xtd/xtd/model/Position", "line", "()I"⟩ : MethodName)) (z := (⟨"com/example/xtd/xtd/model/Position", "line", "()I"⟩ : MethodName)) hown (mvT hZ (hw _ (List.mem_of_getElem? (i := 64) rfl))) (mvT hZ (hw _ (List.mem_of_getElem? (i := 65) rfl))) (notFace_of_selects (args := #[]) (mvT hZ (hw _ (List.mem_of_getElem? (i := 67) rfl)))) (mvT hZ (hw _ (List.mem_of_getElem? (i := 67) rfl))) (mvT hZ (hw _ (List.mem_of_getElem? (i := 66) rfl))) (by decide) (backOf (W := 0) (rmgline l Z a0 hw [] b71 lv21 cv21 (0 : Int64) h72 n0 (Nat.le_trans Z0 Kh.1) F71_b_line F71_b_column F71_b_offset F71_b_systemId E71_b) hZ (hw _ (List.mem_of_getElem? (i := 68) rfl)) (hw _ (List.mem_of_getElem? (i := 46) rfl)) (by decide) (by decide)) q73a q73c (g := (mkF m 224 #[.val (.long q0), .second, .val (.long q2), .second, .val (.int p4), .val (.int p5), .val (.ref b1), .val (.int qq), .val (.int xa), .val (.int ya), .val (.int mm), .val (.int tt), .val (.ref b17), .val (.ref b22), .val (.ref b71), .val (.ref b72)] [(.ref b71)])) rfl (by rw [hml]; rfl) (Steps.refl _) (argsL := []) (rest := []) (lenOf pd_7 rfl) rfl (by show 2 * 0 + _ ≤ _; exact Nat.le_of_eq rfl) (hb hby at_224) (fun _ _ => ⟨rfl, e72, (by decide : 5 + 0 ≤ _), (by decide : 18 + 0 ≤ _)⟩)
      dsimp only [Pt.U, Pt.locs, Pt.cells, Pt.slots] at X73 l73 y73 z73 st73 hQ73
      subst l73 y73 z73
      obtain ⟨rfl, Nq73, e73⟩ := hQ73
      obtain ⟨Lh73, X73, N73⟩ := own_hide X73 (Fr.app N72 Nq73)
      refine own_go (fun t k => st73.trans k) ?_
      show own_R p e below _ T73 (mkF m 227 #[.val (.long q0), .second, .val (.long q2), .second, .val (.int p4), .val (.int p5), .val (.ref b1), .val (.int qq), .val (.int xa), .val (.int ya), .val (.int mm), .val (.int tt), .val (.ref b17), .val (.ref b22), .val (.ref b71), .val (.ref b72)] [(.int lv21)])
      refine own_go (fun t k => XS.aload X73.here hx rfl (hb hby at_227) rfl rfl  k) ?_
      show own_R p e below _ T73 (mkF m 229 #[.val (.long q0), .second, .val (.long q2), .second, .val (.int p4), .val (.int p5), .val (.ref b1), .val (.int qq), .val (.int xa), .val (.int ya), .val (.int mm), .val (.int tt), .val (.ref b17), .val (.ref b22), .val (.ref b71), .val (.ref b72)] [(.ref b72), (.int lv21)])
      obtain ⟨cq74, kq74, q74a, q74b, q74c⟩ := isOf hZ e73 E72_b
      obtain ⟨_, _, ⟨T74, L74, k74, n74⟩, -, X74, ⟨Lc74, hQ74, l74, y74, z74⟩, st74⟩ := X73.virtualBack hx (y := (⟨"com/example/xtd/xtd/model/Position", "line", "()I"⟩ : MethodName)) (z := (⟨"com/example/xtd/xtd/model/Position", "line", "()I"⟩ : MethodName)) hown (mvT hZ (hw _ (List.mem_of_getElem? (i := 64) rfl))) (mvT hZ (hw _ (List.mem_of_getElem? (i := 65) rfl))) (notFace_of_selects (args := #[]) (mvT hZ (hw _ (List.mem_of_getElem? (i := 67) rfl)))) (mvT hZ (hw _ (List.mem_of_getElem? (i := 67) rfl))) (mvT hZ (hw _ (List.mem_of_getElem? (i := 66) rfl))) (by decide) (backOf (W := 1) (rmgline l Z a0 hw [] b72 lv68 cv68 (0 : Int64) h72 n0 (Nat.le_trans Z0 Kh.1) F72_b_line F72_b_column F72_b_offset F72_b_systemId E72_b) hZ (hw _ (List.mem_of_getElem? (i := 68) rfl)) (hw _ (List.mem_of_getElem? (i := 46) rfl)) (by decide) (by decide)) q74a q74c (g := (mkF m 229 #[.val (.long q0), .second, .val (.long q2), .second, .val (.int p4), .val (.int p5), .val (.ref b1), .val (.int qq), .val (.int xa), .val (.int ya), .val (.int mm), .val (.int tt), .val (.ref b17), .val (.ref b22), .val (.ref b71), .val (.ref b72)] [(.ref b72), (.int lv21)])) rfl (by rw [hml]; rfl) (Steps.refl _) (argsL := []) (rest := [(.int lv21)]) (lenOf pd_7 rfl) rfl (by show 2 * 0 + _ ≤ _; exact Nat.le_of_eq rfl) (hb hby at_229) (fun _ _ => ⟨rfl, e73, (by decide : 5 + 0 ≤ _), (by decide : 18 + 0 ≤ _)⟩)
      dsimp only [Pt.U, Pt.locs, Pt.cells, Pt.slots] at X74 l74 y74 z74 st74 hQ74
      subst l74 y74 z74
      obtain ⟨rfl, Nq74, e74⟩ := hQ74
      obtain ⟨Lh74, X74, N74⟩ := own_hide X74 (Fr.app N73 Nq74)
      refine own_go (fun t k => st74.trans k) ?_
      show own_R p e below _ T74 (mkF m 232 #[.val (.long q0), .second, .val (.long q2), .second, .val (.int p4), .val (.int p5), .val (.ref b1), .val (.int qq), .val (.int xa), .val (.int ya), .val (.int mm), .val (.int tt), .val (.ref b17), .val (.ref b22), .val (.ref b71), .val (.ref b72)] [(.int lv68), (.int lv21)])
      refine own_go (fun t k => XS.icmpNo X74.here hx rfl (hb hby at_232) rfl (teq (Prod.mk.inj hE).1).2 k) ?_
      show own_R p e below _ T74 (mkF m 235 #[.val (.long q0), .second, .val (.long q2), .second, .val (.int p4), .val (.int p5), .val (.ref b1), .val (.int qq), .val (.int xa), .val (.int ya), .val (.int mm), .val (.int tt), .val (.ref b17), .val (.ref b22), .val (.ref b71), .val (.ref b72)] [])
      refine own_go (fun t k => XS.aload X74.here hx rfl (hb hby at_235) rfl rfl  k) ?_
      show own_R p e below _ T74 (mkF m 237 #[.val (.long q0), .second, .val (.long q2), .second, .val (.int p4), .val (.int p5), .val (.ref b1), .val (.int qq), .val (.int xa), .val (.int ya), .val (.int mm), .val (.int tt), .val (.ref b17), .val (.ref b22), .val (.ref b71), .val (.ref b72)] [(.ref b71)])
      obtain ⟨cq75, kq75, q75a, q75b, q75c⟩ := isOf hZ e74 E71_b
      obtain ⟨_, _, ⟨T75, L75, k75, n75⟩, -, X75, ⟨Lc75, hQ75, l75, y75, z75⟩, st75⟩ := X74.virtualBack hx (y := (⟨"com/example/xtd/xtd/model/Position", "column", "()I"⟩ : MethodName)) (z := (⟨"com/example/xtd/xtd/model/Position", "column", "()I"⟩ : MethodName)) hown (mvT hZ (hw _ (List.mem_of_getElem? (i := 69) rfl))) (mvT hZ (hw _ (List.mem_of_getElem? (i := 70) rfl))) (notFace_of_selects (args := #[]) (mvT hZ (hw _ (List.mem_of_getElem? (i := 72) rfl)))) (mvT hZ (hw _ (List.mem_of_getElem? (i := 72) rfl))) (mvT hZ (hw _ (List.mem_of_getElem? (i := 71) rfl))) (by decide) (backOf (W := 0) (rmgcolumn l Z a0 hw [] b71 lv21 cv21 (0 : Int64) h72 n0 (Nat.le_trans Z0 Kh.1) F71_b_line F71_b_column F71_b_offset F71_b_systemId E71_b) hZ (hw _ (List.mem_of_getElem? (i := 73) rfl)) (hw _ (List.mem_of_getElem? (i := 46) rfl)) (by decide) (by decide)) q75a q75c (g := (mkF m 237 #[.val (.long q0), .second, .val (.long q2), .second, .val (.int p4), .val (.int p5), .val (.ref b1), .val (.int qq), .val (.int xa), .val (.int ya), .val (.int mm), .val (.int tt), .val (.ref b17), .val (.ref b22), .val (.ref b71), .val (.ref b72)] [(.ref b71)])) rfl (by rw [hml]; rfl) (Steps.refl _) (argsL := []) (rest := []) (lenOf pd_7 rfl) rfl (by show 2 * 0 + _ ≤ _; exact Nat.le_of_eq rfl) (hb hby at_237) (fun _ _ => ⟨rfl, e74, (by decide : 5 + 0 ≤ _), (by decide : 18 + 0 ≤ _)⟩)
      dsimp only [Pt.U, Pt.locs, Pt.cells, Pt.slots] at X75 l75 y75 z75 st75 hQ75
      subst l75 y75 z75
      obtain ⟨rfl, Nq75, e75⟩ := hQ75
      obtain ⟨Lh75, X75, N75⟩ := own_hide X75 (Fr.app N74 Nq75)
      refine own_go (fun t k => st75.trans k) ?_
      show own_R p e below _ T75 (mkF m 240 #[.val (.long q0), .second, .val (.long q2), .second, .val (.int p4), .val (.int p5), .val (.ref b1), .val (.int qq), .val (.int xa), .val (.int ya), .val (.int mm), .val (.int tt), .val (.ref b17), .val (.ref b22), .val (.ref b71), .val (.ref b72)] [(.int cv21)])
      refine own_go (fun t k => XS.aload X75.here hx rfl (hb hby at_240) rfl rfl  k) ?_
      show own_R p e below _ T75 (mkF m 242 #[.val (.long q0), .second, .val (.long q2), .second, .val (.int p4), .val (.int p5), .val (.ref b1), .val (.int qq), .val (.int xa), .val (.int ya), .val (.int mm), .val (.int tt), .val (.ref b17), .val (.ref b22), .val (.ref b71), .val (.ref b72)] [(.ref b72), (.int cv21)])
      obtain ⟨cq76, kq76, q76a, q76b, q76c⟩ := isOf hZ e75 E72_b
      obtain ⟨_, _, ⟨T76, L76, k76, n76⟩, -, X76, ⟨Lc76, hQ76, l76, y76, z76⟩, st76⟩ := X75.virtualBack hx (y := (⟨"com/example/xtd/xtd/model/Position", "column", "()I"⟩ : MethodName)) (z := (⟨"com/example/xtd/xtd/model/Position", "column", "()I"⟩ : MethodName)) hown (mvT hZ (hw _ (List.mem_of_getElem? (i := 69) rfl))) (mvT hZ (hw _ (List.mem_of_getElem? (i := 70) rfl))) (notFace_of_selects (args := #[]) (mvT hZ (hw _ (List.mem_of_getElem? (i := 72) rfl)))) (mvT hZ (hw _ (List.mem_of_getElem? (i := 72) rfl))) (mvT hZ (hw _ (List.mem_of_getElem? (i := 71) rfl))) (by decide) (backOf (W := 1) (rmgcolumn l Z a0 hw [] b72 lv68 cv68 (0 : Int64) h72 n0 (Nat.le_trans Z0 Kh.1) F72_b_line F72_b_column F72_b_offset F72_b_systemId E72_b) hZ (hw _ (List.mem_of_getElem? (i := 73) rfl)) (hw _ (List.mem_of_getElem? (i := 46) rfl)) (by decide) (by decide)) q76a q76c (g := (mkF m 242 #[.val (.long q0), .second, .val (.long q2), .second, .val (.int p4), .val (.int p5), .val (.ref b1), .val (.int qq), .val (.int xa), .val (.int ya), .val (.int mm), .val (.int tt), .val (.ref b17), .val (.ref b22), .val (.ref b71), .val (.ref b72)] [(.ref b72), (.int cv21)])) rfl (by rw [hml]; rfl) (Steps.refl _) (argsL := []) (rest := [(.int cv21)]) (lenOf pd_7 rfl) rfl (by show 2 * 0 + _ ≤ _; exact Nat.le_of_eq rfl) (hb hby at_242) (fun _ _ => ⟨rfl, e75, (by decide : 5 + 0 ≤ _), (by decide : 18 + 0 ≤ _)⟩)
      dsimp only [Pt.U, Pt.locs, Pt.cells, Pt.slots] at X76 l76 y76 z76 st76 hQ76
      subst l76 y76 z76
      obtain ⟨rfl, Nq76, e76⟩ := hQ76
      obtain ⟨Lh76, X76, N76⟩ := own_hide X76 (Fr.app N75 Nq76)
      refine own_go (fun t k => st76.trans k) ?_
      show own_R p e below _ T76 (mkF m 245 #[.val (.long q0), .second, .val (.long q2), .second, .val (.int p4), .val (.int p5), .val (.ref b1), .val (.int qq), .val (.int xa), .val (.int ya), .val (.int mm), .val (.int tt), .val (.ref b17), .val (.ref b22), .val (.ref b71), .val (.ref b72)] [(.int cv68), (.int cv21)])
      refine own_go (fun t k => XS.icmpNo X76.here hx rfl (hb hby at_245) rfl (teq (Prod.mk.inj (Prod.mk.inj hE).2).1).2 k) ?_
      show own_R p e below _ T76 (mkF m 248 #[.val (.long q0), .second, .val (.long q2), .second, .val (.int p4), .val (.int p5), .val (.ref b1), .val (.int qq), .val (.int xa), .val (.int ya), .val (.int mm), .val (.int tt), .val (.ref b17), .val (.ref b22), .val (.ref b71), .val (.ref b72)] [])
      refine own_go (fun t k => XS.iconst X76.here hx rfl (hb hby at_248) k) ?_
      show own_R p e below _ T76 (mkF m 249 #[.val (.long q0), .second, .val (.long q2), .second, .val (.int p4), .val (.int p5), .val (.ref b1), .val (.int qq), .val (.int xa), .val (.int ya), .val (.int mm), .val (.int tt), .val (.ref b17), .val (.ref b22), .val (.ref b71), .val (.ref b72)] [(.int (1 : Int32))])
      refine own_go (fun t k => XS.goto X76.here hx rfl (pc0 := 249) (pc' := 253) rfl (hb hby at_249) (by decide) (by decide) k) ?_
      show own_R p e below _ T76 (mkF m 253 #[.val (.long q0), .second, .val (.long q2), .second, .val (.int p4), .val (.int p5), .val (.ref b1), .val (.int qq), .val (.int xa), .val (.int ya), .val (.int mm), .val (.int tt), .val (.ref b17), .val (.ref b22), .val (.ref b71), .val (.ref b72)] [(.int (1 : Int32))])
      refine own_retN X76 hx Bd.returns (by simp) (BodyLoose.notSynchronized Bd) (hb hby at_253) (by decide) (by decide) ?_
      exact ⟨rfl, N76⟩
  · -- pc 140: no
    refine own_go (fun t k => XS.ifYes X23.here hx rfl (pc0 := 140) (pc' := 152) rfl (hb hby at_140) rfl ((if0 _ _).trans (flt hc140_24).2.2.2) (by decide) (by decide) k) ?_
    show own_R p e below _ T23 (mkF m 152 #[.val (.long q0), .second, .val (.long q2), .second, .val (.int p4), .val (.int p5), .val (.ref b1), .val (.int qq), .val (.int xa), .val (.int ya), .val (.int mm), .val (.int tt), .val (.ref b17), .val (.ref b22), .unset, .unset] [])
    refine own_go (fun t k => XS.iload X23.here hx rfl (hb hby at_152) rfl  k) ?_
    show own_R p e below _ T23 (mkF m 154 #[.val (.long q0), .second, .val (.long q2), .second, .val (.int p4), .val (.int p5), .val (.ref b1), .val (.int qq), .val (.int xa), .val (.int ya), .val (.int mm), .val (.int tt), .val (.ref b17), .val (.ref b22), .unset, .unset] [(.int tt)])
    refine own_go (fun t k => XS.iconst X23.here hx rfl (hb hby at_154) k) ?_
    show own_R p e below _ T23 (mkF m 155 #[.val (.long q0), .second, .val (.long q2), .second, .val (.int p4), .val (.int p5), .val (.ref b1), .val (.int qq), .val (.int xa), .val (.int ya), .val (.int mm), .val (.int tt), .val (.ref b17), .val (.ref b22), .unset, .unset] [(.int (1 : Int32)), (.int tt)])
    refine own_go (fun t k => XS.icmpYes X23.here hx rfl (pc0 := 155) (pc' := 167) rfl (hb hby at_155) rfl (flt (own_nlt hc140_24 (by decide))).2.2.2 (by decide) (by decide) k) ?_
    show own_R p e below _ T23 (mkF m 167 #[.val (.long q0), .second, .val (.long q2), .second, .val (.int p4), .val (.int p5), .val (.ref b1), .val (.int qq), .val (.int xa), .val (.int ya), .val (.int mm), .val (.int tt), .val (.ref b17), .val (.ref b22), .unset, .unset] [])
    refine own_go (fun t k => XS.iload X23.here hx rfl (hb hby at_167) rfl  k) ?_
    show own_R p e below _ T23 (mkF m 169 #[.val (.long q0), .second, .val (.long q2), .second, .val (.int p4), .val (.int p5), .val (.ref b1), .val (.int qq), .val (.int xa), .val (.int ya), .val (.int mm), .val (.int tt), .val (.ref b17), .val (.ref b22), .unset, .unset] [(.int tt)])
    refine own_go (fun t k => XS.iconst X23.here hx rfl (hb hby at_169) k) ?_
    show own_R p e below _ T23 (mkF m 170 #[.val (.long q0), .second, .val (.long q2), .second, .val (.int p4), .val (.int p5), .val (.ref b1), .val (.int qq), .val (.int xa), .val (.int ya), .val (.int mm), .val (.int tt), .val (.ref b17), .val (.ref b22), .unset, .unset] [(.int (2 : Int32)), (.int tt)])
    refine own_go (fun t k => XS.icmpYes X23.here hx rfl (pc0 := 170) (pc' := 182) rfl (hb hby at_170) rfl (flt (own_nlt hc140_24 (by decide))).2.2.2 (by decide) (by decide) k) ?_
    show own_R p e below _ T23 (mkF m 182 #[.val (.long q0), .second, .val (.long q2), .second, .val (.int p4), .val (.int p5), .val (.ref b1), .val (.int qq), .val (.int xa), .val (.int ya), .val (.int mm), .val (.int tt), .val (.ref b17), .val (.ref b22), .unset, .unset] [])
    refine own_go (fun t k => XS.iload X23.here hx rfl (hb hby at_182) rfl  k) ?_
    show own_R p e below _ T23 (mkF m 184 #[.val (.long q0), .second, .val (.long q2), .second, .val (.int p4), .val (.int p5), .val (.ref b1), .val (.int qq), .val (.int xa), .val (.int ya), .val (.int mm), .val (.int tt), .val (.ref b17), .val (.ref b22), .unset, .unset] [(.int tt)])
    refine own_go (fun t k => XS.iconst X23.here hx rfl (hb hby at_184) k) ?_
    show own_R p e below _ T23 (mkF m 185 #[.val (.long q0), .second, .val (.long q2), .second, .val (.int p4), .val (.int p5), .val (.ref b1), .val (.int qq), .val (.int xa), .val (.int ya), .val (.int mm), .val (.int tt), .val (.ref b17), .val (.ref b22), .unset, .unset] [(.int (3 : Int32)), (.int tt)])
    refine own_go (fun t k => XS.icmpYes X23.here hx rfl (pc0 := 185) (pc' := 197) rfl (hb hby at_185) rfl (flt (own_nlt hc140_24 (by decide))).2.2.2 (by decide) (by decide) k) ?_
    show own_R p e below _ T23 (mkF m 197 #[.val (.long q0), .second, .val (.long q2), .second, .val (.int p4), .val (.int p5), .val (.ref b1), .val (.int qq), .val (.int xa), .val (.int ya), .val (.int mm), .val (.int tt), .val (.ref b17), .val (.ref b22), .unset, .unset] [])
    refine own_go (fun t k => XS.aload X23.here hx rfl (hb hby at_197) rfl rfl  k) ?_
    show own_R p e below _ T23 (mkF m 199 #[.val (.long q0), .second, .val (.long q2), .second, .val (.int p4), .val (.int p5), .val (.ref b1), .val (.int qq), .val (.int xa), .val (.int ya), .val (.int mm), .val (.int tt), .val (.ref b17), .val (.ref b22), .unset, .unset] [(.ref b22)])
    refine own_go (fun t k => XS.iload X23.here hx rfl (hb hby at_199) rfl  k) ?_
    show own_R p e below _ T23 (mkF m 201 #[.val (.long q0), .second, .val (.long q2), .second, .val (.int p4), .val (.int p5), .val (.ref b1), .val (.int qq), .val (.int xa), .val (.int ya), .val (.int mm), .val (.int tt), .val (.ref b17), .val (.ref b22), .unset, .unset] [(.int qq), (.ref b22)])
    obtain ⟨cq77, kq77, q77a, q77b, q77c⟩ := isOf hZ e23 E23_a
    obtain ⟨_, _, ⟨T77, L77, k77, n77⟩, -, X77, ⟨Lc77, hQ77, l77, y77, z77⟩, st77⟩ := X23.virtualBack hx (y := (⟨"com/example/xtd/xtd/model/LineCounter", "count", "(C)V"⟩ : MethodName)) (z := (⟨"com/example/xtd/xtd/model/LineCounter", "count", "(C)V"⟩ : MethodName)) hown (mvT hZ (hw _ (List.mem_of_getElem? (i := 34) rfl))) (mvT hZ (hw _ (List.mem_of_getElem? (i := 35) rfl))) (notFace_of_selects (args := #[]) (mvT hZ (hw _ (List.mem_of_getElem? (i := 37) rfl)))) (mvT hZ (hw _ (List.mem_of_getElem? (i := 37) rfl))) (mvT hZ (hw _ (List.mem_of_getElem? (i := 36) rfl))) (by decide) (backOf (W := 0) (rmcch l Z a0 hw [] b22 qq (1 : Int32) (1 : Int32) (0 : Int32) h23 n0 (Nat.le_trans Z0 Kh.1) F23_a_line F23_a_column F23_a_afterCarriageReturn E23_a g_b22) hZ (hw _ (List.mem_of_getElem? (i := 38) rfl)) (hw _ (List.mem_of_getElem? (i := 16) rfl)) (by decide) (by decide)) q77a q77c (g := (mkF m 201 #[.val (.long q0), .second, .val (.long q2), .second, .val (.int p4), .val (.int p5), .val (.ref b1), .val (.int qq), .val (.int xa), .val (.int ya), .val (.int mm), .val (.int tt), .val (.ref b17), .val (.ref b22), .unset, .unset] [(.int qq), (.ref b22)])) rfl (by rw [hml]; rfl) (Steps.refl _) (argsL := [(.int qq)]) (rest := []) (lenOf pd_4 rfl) rfl (by show 2 * 0 + _ ≤ _; exact Nat.le_of_eq rfl) (hb hby at_201) (fun _ _ => ⟨rfl, e23, (by decide : 3 + 0 ≤ _), (by decide : 10 + 0 ≤ _)⟩)
    dsimp only [Pt.U, Pt.locs, Pt.cells, Pt.slots] at X77 l77 y77 z77 st77 hQ77
    subst l77 y77 z77
    obtain ⟨lv77, cv77, rv77, rfl, Nq77, hs77, K77, Ew77, Fl77, Fc77, Fr77⟩ := hQ77
    obtain ⟨Lh77, X77, N77⟩ := own_hide X77 (Fr.app N23 Nq77)
    obtain ⟨h77, e77⟩ : ∃ z, T77.heap = z := ⟨_, rfl⟩
    rw [e77] at K77 Ew77 Fl77 Fc77 Fr77
    replace V_b1_13 := V_b1_13.keep K77 (ninS ne_b1_b22 nin0)
    replace Ew21 := Exa.keep Ew21 K77
    replace Fl21 := Fl21.keep K77 (ninS ne_b17_b22 nin0)
    replace Fc21 := Fc21.keep K77 (ninS ne_b17_b22 nin0)
    replace Fr21 := Fr21.keep K77 (ninS ne_b17_b22 nin0)
    replace Kh := Kh.trans K77 (allS (Or.inr sz_b22) all0)
    refine own_go (fun t k => st77.trans k) ?_
    show own_R p e below _ T77 (mkF m 204 #[.val (.long q0), .second, .val (.long q2), .second, .val (.int p4), .val (.int p5), .val (.ref b1), .val (.int qq), .val (.int xa), .val (.int ya), .val (.int mm), .val (.int tt), .val (.ref b17), .val (.ref b22), .unset, .unset] [])
    have hn : tt.toInt = 0 := by
      have z78 : tt.toInt ≤ 0 := own_nlti hc140_24 rfl rfl
      omega
    have k0 : (0 : Int32).toInt = 0 := rfl
    have hA : (lv20, cv20, rv20) = own_run ([(nar .char u0), (nar .char u1), (nar .char u2), (nar .char u3)] : List Int32) 0 0 ((1 : Int32), (1 : Int32), (0 : Int32)) := by
      have q := own_run_add ([(nar .char u0), (nar .char u1), (nar .char u2), (nar .char u3)] : List Int32) (mm.toInt - (0 : Int32).toInt).toNat (tt.toInt - mm.toInt).toNat (0 : Int32).toInt.toNat ((1 : Int32), (1 : Int32), (0 : Int32))
      rw [← hs19] at q
      rw [hs20, show mm.toInt.toNat = (0 : Int32).toInt.toNat + (mm.toInt - (0 : Int32).toInt).toNat by omega, ← q, show (mm.toInt - (0 : Int32).toInt).toNat + (tt.toInt - mm.toInt).toNat = 0 by omega]
      rfl
    have hB : ((1 : Int32), (1 : Int32), (0 : Int32)) = own_run ([(nar .char u0), (nar .char u1), (nar .char u2), (nar .char u3)] : List Int32) 0 0 ((1 : Int32), (1 : Int32), (0 : Int32)) := by
      rfl
    have hE : (lv21, cv21, rv21) = (lv77, cv77, rv77) := by rw [hs21, hs77, hA, ← hB]
    refine own_go (fun t k => XS.aload X77.here hx rfl (hb hby at_204) rfl rfl  k) ?_
    show own_R p e below _ T77 (mkF m 206 #[.val (.long q0), .second, .val (.long q2), .second, .val (.int p4), .val (.int p5), .val (.ref b1), .val (.int qq), .val (.int xa), .val (.int ya), .val (.int mm), .val (.int tt), .val (.ref b17), .val (.ref b22), .unset, .unset] [(.ref b17)])
    refine own_go (fun t k => XS.lconst X77.here hx rfl (hb hby at_206) k) ?_
    show own_R p e below _ T77 (mkF m 207 #[.val (.long q0), .second, .val (.long q2), .second, .val (.int p4), .val (.int p5), .val (.ref b1), .val (.int qq), .val (.int xa), .val (.int ya), .val (.int mm), .val (.int tt), .val (.ref b17), .val (.ref b22), .unset, .unset] [(.long (0 : Int64)), (.ref b17)])
    refine own_go (fun t k => XS.aconstNull X77.here hx rfl (hb hby at_207) k) ?_
    show own_R p e below _ T77 (mkF m 208 #[.val (.long q0), .second, .val (.long q2), .second, .val (.int p4), .val (.int p5), .val (.ref b1), .val (.int qq), .val (.int xa), .val (.int ya), .val (.int mm), .val (.int tt), .val (.ref b17), .val (.ref b22), .unset, .unset] [.null, (.long (0 : Int64)), (.ref b17)])
    obtain ⟨cq79, kq79, q79a, q79b, q79c⟩ := isOf hZ e77 Ew21
    obtain ⟨_, _, ⟨T79, L79, k79, n79⟩, -, X79, ⟨Lc79, hQ79, l79, y79, z79⟩, st79⟩ := X77.virtualBack hx (y := (⟨"com/example/xtd/xtd/model/LineCounter", "position", "(JLjava/lang/String;)Lcom/example/xtd/xtd/model/Position;"⟩ : MethodName)) (z := (⟨"com/example/xtd/xtd/model/LineCounter", "position", "(JLjava/lang/String;)Lcom/example/xtd/xtd/model/Position;"⟩ : MethodName)) hown (mvT hZ (hw _ (List.mem_of_getElem? (i := 39) rfl))) (mvT hZ (hw _ (List.mem_of_getElem? (i := 40) rfl))) (notFace_of_selects (args := #[]) (mvT hZ (hw _ (List.mem_of_getElem? (i := 42) rfl)))) (mvT hZ (hw _ (List.mem_of_getElem? (i := 42) rfl))) (mvT hZ (hw _ (List.mem_of_getElem? (i := 41) rfl))) (by decide) (backOf (W := 0) (rmposn l Z a0 hw [] b17 (0 : Int64) lv21 cv21 rv21 h77 n0 (Nat.le_trans Z0 Kh.1) Fl21 Fc21 Fr21 Ew21) hZ (hw _ (List.mem_of_getElem? (i := 43) rfl)) (hw _ (List.mem_of_getElem? (i := 16) rfl)) (by decide) (by decide)) q79a q79c (g := (mkF m 208 #[.val (.long q0), .second, .val (.long q2), .second, .val (.int p4), .val (.int p5), .val (.ref b1), .val (.int qq), .val (.int xa), .val (.int ya), .val (.int mm), .val (.int tt), .val (.ref b17), .val (.ref b22), .unset, .unset] [.null, (.long (0 : Int64)), (.ref b17)])) rfl (by rw [hml]; rfl) (Steps.refl _) (argsL := [(.long (0 : Int64)), .null]) (rest := []) (lenOf pd_5 rfl) rfl (by show 2 * 0 + _ ≤ _; exact Nat.le_of_eq rfl) (hb hby at_208) (fun _ _ => ⟨rfl, e77, (by decide : 3 + 1 ≤ _), (by decide : 10 + 4 ≤ _)⟩)
    dsimp only [Pt.U, Pt.locs, Pt.cells, Pt.slots] at X79 l79 y79 z79 st79 hQ79
    subst l79 y79 z79
    obtain ⟨b79, rfl, Nq79, K79, gz79_b, E79_b, F79_b_line, F79_b_column, F79_b_offset, F79_b_systemId⟩ := hQ79
    obtain ⟨Lh79, X79, N79⟩ := own_hide X79 (Fr.app N77 Nq79)
    obtain ⟨h79, e79⟩ : ∃ z, T79.heap = z := ⟨_, rfl⟩
    rw [e79] at K79 E79_b F79_b_line F79_b_column F79_b_offset F79_b_systemId
    have ne_b1_b79 : b1 ≠ b79 := Nat.ne_of_lt (Nat.lt_of_lt_of_le V_b1_13.lt gz79_b)
    have ne_b17_b79 : b17 ≠ b79 := Nat.ne_of_lt (Nat.lt_of_lt_of_le Ew21.lt gz79_b)
    have ne_b22_b79 : b22 ≠ b79 := Nat.ne_of_lt (Nat.lt_of_lt_of_le Ew77.lt gz79_b)
    have g_b79 : n0 ≤ b79 := Nat.le_trans (Nat.le_trans Z0 Kh.1) gz79_b
    have sz_b79 : h0.size ≤ b79 := Nat.le_trans Kh.1 gz79_b
    replace V_b1_13 := V_b1_13.keep K79 nin0
    replace Ew21 := Exa.keep Ew21 K79
    replace Fl21 := Fl21.keep K79 nin0
    replace Fc21 := Fc21.keep K79 nin0
    replace Fr21 := Fr21.keep K79 nin0
    replace Ew77 := Exa.keep Ew77 K79
    replace Fl77 := Fl77.keep K79 nin0
    replace Fc77 := Fc77.keep K79 nin0
    replace Fr77 := Fr77.keep K79 nin0
    replace Kh := Kh.trans K79 all0
    refine own_go (fun t k => st79.trans k) ?_
    show own_R p e below _ T79 (mkF m 211 #[.val (.long q0), .second, .val (.long q2), .second, .val (.int p4), .val (.int p5), .val (.ref b1), .val (.int qq), .val (.int xa), .val (.int ya), .val (.int mm), .val (.int tt), .val (.ref b17), .val (.ref b22), .unset, .unset] [(.ref b79)])
    refine own_go (fun t k => XS.astore X79.here hx rfl (hb hby at_211) rfl rfl (l' := #[.val (.long q0), .second, .val (.long q2), .second, .val (.int p4), .val (.int p5), .val (.ref b1), .val (.int qq), .val (.int xa), .val (.int ya), .val (.int mm), .val (.int tt), .val (.ref b17), .val (.ref b22), .val (.ref b79), .unset]) rfl k) ?_
    show own_R p e below _ T79 (mkF m 213 #[.val (.long q0), .second, .val (.long q2), .second, .val (.int p4), .val (.int p5), .val (.ref b1), .val (.int qq), .val (.int xa), .val (.int ya), .val (.int mm), .val (.int tt), .val (.ref b17), .val (.ref b22), .val (.ref b79), .unset] [])
    refine own_go (fun t k => XS.aload X79.here hx rfl (hb hby at_213) rfl rfl  k) ?_
    show own_R p e below _ T79 (mkF m 215 #[.val (.long q0), .second, .val (.long q2), .second, .val (.int p4), .val (.int p5), .val (.ref b1), .val (.int qq), .val (.int xa), .val (.int ya), .val (.int mm), .val (.int tt), .val (.ref b17), .val (.ref b22), .val (.ref b79), .unset] [(.ref b22)])
    refine own_go (fun t k => XS.lconst X79.here hx rfl (hb hby at_215) k) ?_
    show own_R p e below _ T79 (mkF m 216 #[.val (.long q0), .second, .val (.long q2), .second, .val (.int p4), .val (.int p5), .val (.ref b1), .val (.int qq), .val (.int xa), .val (.int ya), .val (.int mm), .val (.int tt), .val (.ref b17), .val (.ref b22), .val (.ref b79), .unset] [(.long (0 : Int64)), (.ref b22)])
    refine own_go (fun t k => XS.aconstNull X79.here hx rfl (hb hby at_216) k) ?_
    show own_R p e below _ T79 (mkF m 217 #[.val (.long q0), .second, .val (.long q2), .second, .val (.int p4), .val (.int p5), .val (.ref b1), .val (.int qq), .val (.int xa), .val (.int ya), .val (.int mm), .val (.int tt), .val (.ref b17), .val (.ref b22), .val (.ref b79), .unset] [.null, (.long (0 : Int64)), (.ref b22)])
    obtain ⟨cq80, kq80, q80a, q80b, q80c⟩ := isOf hZ e79 Ew77
    obtain ⟨_, _, ⟨T80, L80, k80, n80⟩, -, X80, ⟨Lc80, hQ80, l80, y80, z80⟩, st80⟩ := X79.virtualBack hx (y := (⟨"com/example/xtd/xtd/model/LineCounter", "position", "(JLjava/lang/String;)Lcom/example/xtd/xtd/model/Position;"⟩ : MethodName)) (z := (⟨"com/example/xtd/xtd/model/LineCounter", "position", "(JLjava/lang/String;)Lcom/example/xtd/xtd/model/Position;"⟩ : MethodName)) hown (mvT hZ (hw _ (List.mem_of_getElem? (i := 39) rfl))) (mvT hZ (hw _ (List.mem_of_getElem? (i := 40) rfl))) (notFace_of_selects (args := #[]) (mvT hZ (hw _ (List.mem_of_getElem? (i := 42) rfl)))) (mvT hZ (hw _ (List.mem_of_getElem? (i := 42) rfl))) (mvT hZ (hw _ (List.mem_of_getElem? (i := 41) rfl))) (by decide) (backOf (W := 0) (rmposn l Z a0 hw [] b22 (0 : Int64) lv77 cv77 rv77 h79 n0 (Nat.le_trans Z0 Kh.1) Fl77 Fc77 Fr77 Ew77) hZ (hw _ (List.mem_of_getElem? (i := 43) rfl)) (hw _ (List.mem_of_getElem? (i := 16) rfl)) (by decide) (by decide)) q80a q80c (g := (mkF m 217 #[.val (.long q0), .second, .val (.long q2), .second, .val (.int p4), .val (.int p5), .val (.ref b1), .val (.int qq), .val (.int xa), .val (.int ya), .val (.int mm), .val (.int tt), .val (.ref b17), .val (.ref b22), .val (.ref b79), .unset] [.null, (.long (0 : Int64)), (.ref b22)])) rfl (by rw [hml]; rfl) (Steps.refl _) (argsL := [(.long (0 : Int64)), .null]) (rest := []) (lenOf pd_5 rfl) rfl (by show 2 * 0 + _ ≤ _; exact Nat.le_of_eq rfl) (hb hby at_217) (fun _ _ => ⟨rfl, e79, (by decide : 4 + 1 ≤ _), (by decide : 14 + 4 ≤ _)⟩)
    dsimp only [Pt.U, Pt.locs, Pt.cells, Pt.slots] at X80 l80 y80 z80 st80 hQ80
    subst l80 y80 z80
    obtain ⟨b80, rfl, Nq80, K80, gz80_b, E80_b, F80_b_line, F80_b_column, F80_b_offset, F80_b_systemId⟩ := hQ80
    obtain ⟨Lh80, X80, N80⟩ := own_hide X80 (Fr.app N79 Nq80)
    obtain ⟨h80, e80⟩ : ∃ z, T80.heap = z := ⟨_, rfl⟩
    rw [e80] at K80 E80_b F80_b_line F80_b_column F80_b_offset F80_b_systemId
    have ne_b1_b80 : b1 ≠ b80 := Nat.ne_of_lt (Nat.lt_of_lt_of_le V_b1_13.lt gz80_b)
    have ne_b17_b80 : b17 ≠ b80 := Nat.ne_of_lt (Nat.lt_of_lt_of_le Ew21.lt gz80_b)
    have ne_b22_b80 : b22 ≠ b80 := Nat.ne_of_lt (Nat.lt_of_lt_of_le Ew77.lt gz80_b)
    have ne_b79_b80 : b79 ≠ b80 := Nat.ne_of_lt (Nat.lt_of_lt_of_le E79_b.lt gz80_b)
    have g_b80 : n0 ≤ b80 := Nat.le_trans (Nat.le_trans Z0 Kh.1) gz80_b
    have sz_b80 : h0.size ≤ b80 := Nat.le_trans Kh.1 gz80_b
    replace V_b1_13 := V_b1_13.keep K80 nin0
    replace Ew21 := Exa.keep Ew21 K80
    replace Fl21 := Fl21.keep K80 nin0
    replace Fc21 := Fc21.keep K80 nin0
    replace Fr21 := Fr21.keep K80 nin0
    replace Ew77 := Exa.keep Ew77 K80
    replace Fl77 := Fl77.keep K80 nin0
    replace Fc77 := Fc77.keep K80 nin0
    replace Fr77 := Fr77.keep K80 nin0
    replace E79_b := Exa.keep E79_b K80
    replace F79_b_line := F79_b_line.keep K80 nin0
    replace F79_b_column := F79_b_column.keep K80 nin0
    replace F79_b_offset := F79_b_offset.keep K80 nin0
    replace F79_b_systemId := F79_b_systemId.keep K80 nin0
    replace Kh := Kh.trans K80 all0
    refine own_go (fun t k => st80.trans k) ?_
    show own_R p e below _ T80 (mkF m 220 #[.val (.long q0), .second, .val (.long q2), .second, .val (.int p4), .val (.int p5), .val (.ref b1), .val (.int qq), .val (.int xa), .val (.int ya), .val (.int mm), .val (.int tt), .val (.ref b17), .val (.ref b22), .val (.ref b79), .unset] [(.ref b80)])
    refine own_go (fun t k => XS.astore X80.here hx rfl (hb hby at_220) rfl rfl (l' := #[.val (.long q0), .second, .val (.long q2), .second, .val (.int p4), .val (.int p5), .val (.ref b1), .val (.int qq), .val (.int xa), .val (.int ya), .val (.int mm), .val (.int tt), .val (.ref b17), .val (.ref b22), .val (.ref b79), .val (.ref b80)]) rfl k) ?_
    show own_R p e below _ T80 (mkF m 222 #[.val (.long q0), .second, .val (.long q2), .second, .val (.int p4), .val (.int p5), .val (.ref b1), .val (.int qq), .val (.int xa), .val (.int ya), .val (.int mm), .val (.int tt), .val (.ref b17), .val (.ref b22), .val (.ref b79), .val (.ref b80)] [])
    refine own_go (fun t k => XS.aload X80.here hx rfl (hb hby at_222) rfl rfl  k) ?_
    show own_R p e below _ T80 (mkF m 224 #[.val (.long q0), .second, .val (.long q2), .second, .val (.int p4), .val (.int p5), .val (.ref b1), .val (.int qq), .val (.int xa), .val (.int ya), .val (.int mm), .val (.int tt), .val (.ref b17), .val (.ref b22), .val (.ref b79), .val (.ref b80)] [(.ref b79)])
    obtain ⟨cq81, kq81, q81a, q81b, q81c⟩ := isOf hZ e80 E79_b
    obtain ⟨_, _, ⟨T81, L81, k81, n81⟩, -, X81, ⟨Lc81, hQ81, l81, y81, z81⟩, st81⟩ := X80.virtualBack hx (y := (⟨"com/example/xtd/xtd/model/Position", "line", "()I"⟩ : MethodName)) (z := (⟨"com/example/xtd/xtd/model/Position", "line", "()I"⟩ : MethodName)) hown (mvT hZ (hw _ (List.mem_of_getElem? (i := 64) rfl))) (mvT hZ (hw _ (List.mem_of_getElem? (i := 65) rfl))) (notFace_of_selects (args := #[]) (mvT hZ (hw _ (List.mem_of_getElem? (i := 67) rfl)))) (mvT hZ (hw _ (List.mem_of_getElem? (i := 67) rfl))) (mvT hZ (hw _ (List.mem_of_getElem? (i := 66) rfl))) (by decide) (backOf (W := 0) (rmgline l Z a0 hw [] b79 lv21 cv21 (0 : Int64) h80 n0 (Nat.le_trans Z0 Kh.1) F79_b_line F79_b_column F79_b_offset F79_b_systemId E79_b) hZ (hw _ (List.mem_of_getElem? (i := 68) rfl)) (hw _ (List.mem_of_getElem? (i := 46) rfl)) (by decide) (by decide)) q81a q81c (g := (mkF m 224 #[.val (.long q0), .second, .val (.long q2), .second, .val (.int p4), .val (.int p5), .val (.ref b1), .val (.int qq), .val (.int xa), .val (.int ya), .val (.int mm), .val (.int tt), .val (.ref b17), .val (.ref b22), .val (.ref b79), .val (.ref b80)] [(.ref b79)])) rfl (by rw [hml]; rfl) (Steps.refl _) (argsL := []) (rest := []) (lenOf pd_7 rfl) rfl (by show 2 * 0 + _ ≤ _; exact Nat.le_of_eq rfl) (hb hby at_224) (fun _ _ => ⟨rfl, e80, (by decide : 5 + 0 ≤ _), (by decide : 18 + 0 ≤ _)⟩)
    dsimp only [Pt.U, Pt.locs, Pt.cells, Pt.slots] at X81 l81 y81 z81 st81 hQ81
    subst l81 y81 z81
    obtain ⟨rfl, Nq81, e81⟩ := hQ81
    obtain ⟨Lh81, X81, N81⟩ := own_hide X81 (Fr.app N80 Nq81)
    refine own_go (fun t k => st81.trans k) ?_
    show own_R p e below _ T81 (mkF m 227 #[.val (.long q0), .second, .val (.long q2), .second, .val (.int p4), .val (.int p5), .val (.ref b1), .val (.int qq), .val (.int xa), .val (.int ya), .val (.int mm), .val (.int tt), .val (.ref b17), .val (.ref b22), .val (.ref b79), .val (.ref b80)] [(.int lv21)])
    refine own_go (fun t k => XS.aload X81.here hx rfl (hb hby at_227) rfl rfl  k) ?_
    show own_R p e below _ T81 (mkF m 229 #[.val (.long q0), .second, .val (.long q2), .second, .val (.int p4), .val (.int p5), .val (.ref b1), .val (.int qq), .val (.int xa), .val (.int ya), .val (.int mm), .val (.int tt), .val (.ref b17), .val (.ref b22), .val (.ref b79), .val (.ref b80)] [(.ref b80), (.int lv21)])
    obtain ⟨cq82, kq82, q82a, q82b, q82c⟩ := isOf hZ e81 E80_b
    obtain ⟨_, _, ⟨T82, L82, k82, n82⟩, -, X82, ⟨Lc82, hQ82, l82, y82, z82⟩, st82⟩ := X81.virtualBack hx (y := (⟨"com/example/xtd/xtd/model/Position", "line", "()I"⟩ : MethodName)) (z := (⟨"com/example/xtd/xtd/model/Position", "line", "()I"⟩ : MethodName)) hown (mvT hZ (hw _ (List.mem_of_getElem? (i := 64) rfl))) (mvT hZ (hw _ (List.mem_of_getElem? (i := 65) rfl))) (notFace_of_selects (args := #[]) (mvT hZ (hw _ (List.mem_of_getElem? (i := 67) rfl)))) (mvT hZ (hw _ (List.mem_of_getElem? (i := 67) rfl))) (mvT hZ (hw _ (List.mem_of_getElem? (i := 66) rfl))) (by decide) (backOf (W := 1) (rmgline l Z a0 hw [] b80 lv77 cv77 (0 : Int64) h80 n0 (Nat.le_trans Z0 Kh.1) F80_b_line F80_b_column F80_b_offset F80_b_systemId E80_b) hZ (hw _ (List.mem_of_getElem? (i := 68) rfl)) (hw _ (List.mem_of_getElem? (i := 46) rfl)) (by decide) (by decide)) q82a q82c (g := (mkF m 229 #[.val (.long q0), .second, .val (.long q2), .second, .val (.int p4), .val (.int p5), .val (.ref b1), .val (.int qq), .val (.int xa), .val (.int ya), .val (.int mm), .val (.int tt), .val (.ref b17), .val (.ref b22), .val (.ref b79), .val (.ref b80)] [(.ref b80), (.int lv21)])) rfl (by rw [hml]; rfl) (Steps.refl _) (argsL := []) (rest := [(.int lv21)]) (lenOf pd_7 rfl) rfl (by show 2 * 0 + _ ≤ _; exact Nat.le_of_eq rfl) (hb hby at_229) (fun _ _ => ⟨rfl, e81, (by decide : 5 + 0 ≤ _), (by decide : 18 + 0 ≤ _)⟩)
    dsimp only [Pt.U, Pt.locs, Pt.cells, Pt.slots] at X82 l82 y82 z82 st82 hQ82
    subst l82 y82 z82
    obtain ⟨rfl, Nq82, e82⟩ := hQ82
    obtain ⟨Lh82, X82, N82⟩ := own_hide X82 (Fr.app N81 Nq82)
    refine own_go (fun t k => st82.trans k) ?_
    show own_R p e below _ T82 (mkF m 232 #[.val (.long q0), .second, .val (.long q2), .second, .val (.int p4), .val (.int p5), .val (.ref b1), .val (.int qq), .val (.int xa), .val (.int ya), .val (.int mm), .val (.int tt), .val (.ref b17), .val (.ref b22), .val (.ref b79), .val (.ref b80)] [(.int lv77), (.int lv21)])
    refine own_go (fun t k => XS.icmpNo X82.here hx rfl (hb hby at_232) rfl (teq (Prod.mk.inj hE).1).2 k) ?_
    show own_R p e below _ T82 (mkF m 235 #[.val (.long q0), .second, .val (.long q2), .second, .val (.int p4), .val (.int p5), .val (.ref b1), .val (.int qq), .val (.int xa), .val (.int ya), .val (.int mm), .val (.int tt), .val (.ref b17), .val (.ref b22), .val (.ref b79), .val (.ref b80)] [])
    refine own_go (fun t k => XS.aload X82.here hx rfl (hb hby at_235) rfl rfl  k) ?_
    show own_R p e below _ T82 (mkF m 237 #[.val (.long q0), .second, .val (.long q2), .second, .val (.int p4), .val (.int p5), .val (.ref b1), .val (.int qq), .val (.int xa), .val (.int ya), .val (.int mm), .val (.int tt), .val (.ref b17), .val (.ref b22), .val (.ref b79), .val (.ref b80)] [(.ref b79)])
    obtain ⟨cq83, kq83, q83a, q83b, q83c⟩ := isOf hZ e82 E79_b
    obtain ⟨_, _, ⟨T83, L83, k83, n83⟩, -, X83, ⟨Lc83, hQ83, l83, y83, z83⟩, st83⟩ := X82.virtualBack hx (y := (⟨"com/example/xtd/xtd/model/Position", "column", "()I"⟩ : MethodName)) (z := (⟨"com/example/xtd/xtd/model/Position", "column", "()I"⟩ : MethodName)) hown (mvT hZ (hw _ (List.mem_of_getElem? (i := 69) rfl))) (mvT hZ (hw _ (List.mem_of_getElem? (i := 70) rfl))) (notFace_of_selects (args := #[]) (mvT hZ (hw _ (List.mem_of_getElem? (i := 72) rfl)))) (mvT hZ (hw _ (List.mem_of_getElem? (i := 72) rfl))) (mvT hZ (hw _ (List.mem_of_getElem? (i := 71) rfl))) (by decide) (backOf (W := 0) (rmgcolumn l Z a0 hw [] b79 lv21 cv21 (0 : Int64) h80 n0 (Nat.le_trans Z0 Kh.1) F79_b_line F79_b_column F79_b_offset F79_b_systemId E79_b) hZ (hw _ (List.mem_of_getElem? (i := 73) rfl)) (hw _ (List.mem_of_getElem? (i := 46) rfl)) (by decide) (by decide)) q83a q83c (g := (mkF m 237 #[.val (.long q0), .second, .val (.long q2), .second, .val (.int p4), .val (.int p5), .val (.ref b1), .val (.int qq), .val (.int xa), .val (.int ya), .val (.int mm), .val (.int tt), .val (.ref b17), .val (.ref b22), .val (.ref b79), .val (.ref b80)] [(.ref b79)])) rfl (by rw [hml]; rfl) (Steps.refl _) (argsL := []) (rest := []) (lenOf pd_7 rfl) rfl (by show 2 * 0 + _ ≤ _; exact Nat.le_of_eq rfl) (hb hby at_237) (fun _ _ => ⟨rfl, e82, (by decide : 5 + 0 ≤ _), (by decide : 18 + 0 ≤ _)⟩)
    dsimp only [Pt.U, Pt.locs, Pt.cells, Pt.slots] at X83 l83 y83 z83 st83 hQ83
    subst l83 y83 z83
    obtain ⟨rfl, Nq83, e83⟩ := hQ83
    obtain ⟨Lh83, X83, N83⟩ := own_hide X83 (Fr.app N82 Nq83)
    refine own_go (fun t k => st83.trans k) ?_
    show own_R p e below _ T83 (mkF m 240 #[.val (.long q0), .second, .val (.long q2), .second, .val (.int p4), .val (.int p5), .val (.ref b1), .val (.int qq), .val (.int xa), .val (.int ya), .val (.int mm), .val (.int tt), .val (.ref b17), .val (.ref b22), .val (.ref b79), .val (.ref b80)] [(.int cv21)])
    refine own_go (fun t k => XS.aload X83.here hx rfl (hb hby at_240) rfl rfl  k) ?_
    show own_R p e below _ T83 (mkF m 242 #[.val (.long q0), .second, .val (.long q2), .second, .val (.int p4), .val (.int p5), .val (.ref b1), .val (.int qq), .val (.int xa), .val (.int ya), .val (.int mm), .val (.int tt), .val (.ref b17), .val (.ref b22), .val (.ref b79), .val (.ref b80)] [(.ref b80), (.int cv21)])
    obtain ⟨cq84, kq84, q84a, q84b, q84c⟩ := isOf hZ e83 E80_b
    obtain ⟨_, _, ⟨T84, L84, k84, n84⟩, -, X84, ⟨Lc84, hQ84, l84, y84, z84⟩, st84⟩ := X83.virtualBack hx (y := (⟨"com/example/xtd/xtd/model/Position", "column", "()I"⟩ : MethodName)) (z := (⟨"com/example/xtd/xtd/model/Position", "column", "()I"⟩ : MethodName)) hown (mvT hZ (hw _ (List.mem_of_getElem? (i := 69) rfl))) (mvT hZ (hw _ (List.mem_of_getElem? (i := 70) rfl))) (notFace_of_selects (args := #[]) (mvT hZ (hw _ (List.mem_of_getElem? (i := 72) rfl)))) (mvT hZ (hw _ (List.mem_of_getElem? (i := 72) rfl))) (mvT hZ (hw _ (List.mem_of_getElem? (i := 71) rfl))) (by decide) (backOf (W := 1) (rmgcolumn l Z a0 hw [] b80 lv77 cv77 (0 : Int64) h80 n0 (Nat.le_trans Z0 Kh.1) F80_b_line F80_b_column F80_b_offset F80_b_systemId E80_b) hZ (hw _ (List.mem_of_getElem? (i := 73) rfl)) (hw _ (List.mem_of_getElem? (i := 46) rfl)) (by decide) (by decide)) q84a q84c (g := (mkF m 242 #[.val (.long q0), .second, .val (.long q2), .second, .val (.int p4), .val (.int p5), .val (.ref b1), .val (.int qq), .val (.int xa), .val (.int ya), .val (.int mm), .val (.int tt), .val (.ref b17), .val (.ref b22), .val (.ref b79), .val (.ref b80)] [(.ref b80), (.int cv21)])) rfl (by rw [hml]; rfl) (Steps.refl _) (argsL := []) (rest := [(.int cv21)]) (lenOf pd_7 rfl) rfl (by show 2 * 0 + _ ≤ _; exact Nat.le_of_eq rfl) (hb hby at_242) (fun _ _ => ⟨rfl, e83, (by decide : 5 + 0 ≤ _), (by decide : 18 + 0 ≤ _)⟩)
    dsimp only [Pt.U, Pt.locs, Pt.cells, Pt.slots] at X84 l84 y84 z84 st84 hQ84
    subst l84 y84 z84
    obtain ⟨rfl, Nq84, e84⟩ := hQ84
    obtain ⟨Lh84, X84, N84⟩ := own_hide X84 (Fr.app N83 Nq84)
    refine own_go (fun t k => st84.trans k) ?_
    show own_R p e below _ T84 (mkF m 245 #[.val (.long q0), .second, .val (.long q2), .second, .val (.int p4), .val (.int p5), .val (.ref b1), .val (.int qq), .val (.int xa), .val (.int ya), .val (.int mm), .val (.int tt), .val (.ref b17), .val (.ref b22), .val (.ref b79), .val (.ref b80)] [(.int cv77), (.int cv21)])
    refine own_go (fun t k => XS.icmpNo X84.here hx rfl (hb hby at_245) rfl (teq (Prod.mk.inj (Prod.mk.inj hE).2).1).2 k) ?_
    show own_R p e below _ T84 (mkF m 248 #[.val (.long q0), .second, .val (.long q2), .second, .val (.int p4), .val (.int p5), .val (.ref b1), .val (.int qq), .val (.int xa), .val (.int ya), .val (.int mm), .val (.int tt), .val (.ref b17), .val (.ref b22), .val (.ref b79), .val (.ref b80)] [])
    refine own_go (fun t k => XS.iconst X84.here hx rfl (hb hby at_248) k) ?_
    show own_R p e below _ T84 (mkF m 249 #[.val (.long q0), .second, .val (.long q2), .second, .val (.int p4), .val (.int p5), .val (.ref b1), .val (.int qq), .val (.int xa), .val (.int ya), .val (.int mm), .val (.int tt), .val (.ref b17), .val (.ref b22), .val (.ref b79), .val (.ref b80)] [(.int (1 : Int32))])
    refine own_go (fun t k => XS.goto X84.here hx rfl (pc0 := 249) (pc' := 253) rfl (hb hby at_249) (by decide) (by decide) k) ?_
    show own_R p e below _ T84 (mkF m 253 #[.val (.long q0), .second, .val (.long q2), .second, .val (.int p4), .val (.int p5), .val (.ref b1), .val (.int qq), .val (.int xa), .val (.int ya), .val (.int mm), .val (.int tt), .val (.ref b17), .val (.ref b22), .val (.ref b79), .val (.ref b80)] [(.int (1 : Int32))])
    refine own_retN X84 hx Bd.returns (by simp) (BodyLoose.notSynchronized Bd) (hb hby at_253) (by decide) (by decide) ?_
    exact ⟨rfl, N84⟩
set_option maxRecDepth 65536 in
set_option maxHeartbeats 40000000 in
theorem comes_1 {Post : Tables → Env → Array Value → State → Outcome → State → Prop} (hpost : ∀ tb e args s v u, (limb_1_1.after args s (.returned v) u = true ∧ limb_1_2.after args s (.returned v) u = true ∧ True) → FrameEnd s (.returned v) u (Jvm.fieldLocs frame_1_writes args s ++ Jvm.arrayLocs frame_1_arrays args s ++ Jvm.staticLocs frame_1_statics s) 24 128 → Post tb e args s (.returned v) u) :
    ArmFor flags0 classFile x code maxLocals ret World_1 tables_1 room_1 Calls_1 rest_1 Pre_1 Post := by
  intro l hfl _ _ p e ha hc hk s m args below hf hA hF happ hP
  obtain ⟨hcalls, hrest, hpre⟩ := hP
  obtain ⟨-, -, -, hnamed, -, -, -, hat⟩ := (Spec.applies_iff hf).mp happ
  obtain ⟨hg, hn⟩ := and_e (Cond.before_iff.mp (show (Jvm.Cond.and given_1 narrow_1).before args s = true from hpre))
  obtain ⟨g0, gr0⟩ := and_e hg
  obtain ⟨ga0, gr1⟩ := and_e gr0
  obtain ⟨ga1, gr2⟩ := and_e gr1
  obtain ⟨ga2, gr3⟩ := and_e gr2
  have ga3 := gr3
  obtain ⟨w0, w1, w2, w3, rfl⟩ : ∃ w0 w1 w2 w3 : Value, args = #[w0, w1, w2, w3] := by
    have hs : args.size = 4 := by simpa [Cond.value, given_1] using g0
    obtain ⟨L⟩ := args
    match L, hs with
    | [w0, w1, w2, w3], _ => exact ⟨w0, w1, w2, w3, rfl⟩
  have hw := fun d (hd : d ∈ tables_1) => atoms_spec (ws := Jvm.Cond.code x code maxLocals ret :: tables_1) hat d (List.mem_cons_of_mem _ hd)
  have hfit : Fit s := fun {y c} hc i hi => by
    obtain ⟨ha, rfl⟩ := Array.getElem?_eq_some_iff.mp hc
    have q := List.all_eq_true.mp ((Array.all_eq_true_iff_forall_mem.mp hF) _ (Array.getElem_mem ha)) i (List.mem_range.mpr hi)
    simpa [Array.getElem?_eq_getElem hi] using q
  obtain ⟨i0, ei0⟩ := isL_v ga0
  obtain rfl : w0 = (.long i0) := Option.some.inj ei0
  obtain ⟨i1, ei1⟩ := isL_v ga1
  obtain rfl : w1 = (.long i1) := Option.some.inj ei1
  obtain ⟨i2, ei2⟩ := is_v ga2
  obtain rfl : w2 = (.int i2) := Option.some.inj ei2
  obtain ⟨i3, ei3⟩ := is_v ga3
  obtain rfl : w3 = (.int i3) := Option.some.inj ei3
  obtain ⟨n, o, h1, h2, h3, _, L, rfl, ⟨rfl, N⟩, hq⟩ := rm0 l s _ hw tables_1 i0 i1 i2 i3  s.heap s.heap.size (Nat.le_refl _) p e ha hc hk s m _ below hf ((Spec.applies_iff_loose hf).mp happ).1 ⟨rfl, State.Warmed39.refl s, rfl⟩ trivial
  refine ⟨n, _, h1, h2, h3, hpost _ _ _ _ _ _ ⟨Cond.after_iff.mpr rfl, Cond.after_iff.mpr (eq_i res_at (Term.int_eval (1)) rfl), trivial⟩ ⟨hq.1, hq.2.1, (hq.2.2.sift fun y hy => Or.inr (N y hy)).mono (by decide) (by decide)⟩⟩
theorem main_1_1 : Claimed_1_1 := comes_1 fun _ _ _ _ _ _ h hF => ⟨h.1, hF⟩
theorem main_1_2 : Claimed_1_2 := comes_1 fun _ _ _ _ _ _ h hF => ⟨h.2.1, hF⟩
end Jvm.Pilot.@@N@@
namespace Jvm.Pilot.@@N@@
open Jvm Jvm.ClassFile Sem Op Lib Jvm.Free Jvm.Stand Jvm.Pilot.@@N@@.Jvm.D
/-! MADE BY PROGRAM (witnessworld.py) out of the Statement's table words and the real class files: 15 classes; the members and pool entries that the words name. The judged class is class 1, her method 2. -/
namespace start1
open Jvm.ClassFile
def u (s : String) : CpInfo := .utf8 (stringToUtf16 s)
/-- a pool by its gaps: so many unusable entries, then the entry; so many at the end -/
def gap : Nat → List CpInfo → List CpInfo
  | 0, r => r
  | n + 1, r => .unusable :: gap n r
def poolList (es : List (Nat × CpInfo)) (last : Nat) : List CpInfo := es.foldr (fun e r => gap e.1 (e.2 :: r)) (gap last [])
def pool (es : List (Nat × CpInfo)) (last : Nat) : Array CpInfo := ⟨poolList es last⟩
def fileOf (pool : Array CpInfo) (this : Nat) (attrs : Array Attribute := #[]) (ms : Array MethodInfo := #[]) (fl : Nat := 33) (sup : Nat := 0) (ifs : Array Nat := #[]) (fds : Array FieldInfo := #[]) : ClassFile where
  minorVersion := 0
  majorVersion := 65
  constantPool := pool
  accessFlags := fl
  thisClass := this
  superClass := sup
  interfaces := ifs
  fields := fds
  methods := ms
  attributes := attrs
def plain (name : String) (sup : Option ClassId) : Class where
  name := name
  kind := .ordinary
  loader := none
  accessFlags := 33
  super := sup
  interfaces := #[]
  cf := none
  fields := #[]
  methods := #[]
  instanceTypes := #[]
  staticTypes := #[]
  resolved := #[]
  callSites := []
  init := .initialized
  statics := none
  mirror := none

def pool0 : Array CpInfo := pool [(5, u "<init>"), (0, u "()V"), (1, .class_ 10), (1, u "java/lang/Object")] 113

def k0c0 : Code := { maxStack := 0, maxLocals := 1, code := object_method_1_code, exceptionTable := #[], attributes := #[] }
def k0m0 : Method := { name := "<init>", desc := "()V", sig := { parameters := [], returnType := none }, accessFlags := 1, code := some k0c0 }
/-- java/lang/Object -/
def k0 : Class := { plain "java/lang/Object" none with
  accessFlags := 33
  interfaces := #[]
  cf := some (fileOf pool0 8 #[] #[{ accessFlags := 1, nameIndex := 5, descriptorIndex := 6, attributes := #[] }] 33 0 #[] #[])
  fields := #[]
  methods := #[k0m0]
  instanceTypes := #[]
  staticTypes := #[]
  resolved := Array.replicate 124 none
  statics := none }

def pool1 : Array CpInfo := pool [(2, .class_ 4), (0, .nameAndType 5 6), (0, u "java/lang/Object"), (0, u "<init>"), (0, u "()V"), (0, .long 3), (1, .long 65535), (1, .methodref 12 13), (0, .class_ 14), (0, .nameAndType 15 16), (0, u "com/example/xtd/xtd/model/LineCounterCountPinLaw"), (0, u "pick"), (0, u "(J)C"), (0, .methodref 18 19), (0, .class_ 20), (0, .nameAndType 21 22), (0, u "java/lang/Math"), (0, u "min"), (0, u "(II)I"), (0, .methodref 18 24), (0, .nameAndType 25 22), (0, u "max"), (0, .class_ 27), (0, u "com/example/xtd/xtd/model/LineCounter"), (0, .methodref 26 3), (0, .methodref 26 30), (0, .nameAndType 31 32), (0, u "count"), (0, u "([CII)V"), (0, .methodref 26 34), (0, .nameAndType 31 35), (0, u "(C)V"), (0, .methodref 26 37), (0, .nameAndType 38 39), (0, u "position"), (0, u "(JLjava/lang/String;)Lcom/example/xtd/xtd/model/Position;"), (0, .methodref 41 42), (0, .class_ 43), (0, .nameAndType 44 45), (0, u "com/example/xtd/xtd/model/Position"), (0, u "line"), (0, u "()I"), (0, .methodref 41 47), (0, .nameAndType 48 45), (0, u "column"), (3, u "law"), (0, u "(JJII)Z")] 4

def k1m0 : Method := { name := "<init>", desc := "()V", sig := { parameters := [], returnType := none }, accessFlags := 1, code := none }
def k1c1 : Code := { maxStack := 4, maxLocals := 3, code := method_2_code, exceptionTable := #[], attributes := #[] }
def k1m1 : Method := { name := "pick", desc := "(J)C", sig := { parameters := [.long], returnType := some .char }, accessFlags := 10, code := some k1c1 }
def k1c2 : Code := { maxStack := 5, maxLocals := 16, code := code, exceptionTable := #[], attributes := #[] }
def k1m2 : Method := { name := "law", desc := "(JJII)Z", sig := { parameters := [.long, .long, .int, .int], returnType := some .boolean }, accessFlags := 9, code := some k1c2 }
/-- com/example/xtd/xtd/model/LineCounterCountPinLaw -/
def k1 : Class := { plain "com/example/xtd/xtd/model/LineCounterCountPinLaw" (some 0) with
  accessFlags := 49
  interfaces := #[]
  cf := some (fileOf pool1 12 #[] #[{ accessFlags := 1, nameIndex := 5, descriptorIndex := 6, attributes := #[] }, { accessFlags := 10, nameIndex := 15, descriptorIndex := 16, attributes := #[] }, { accessFlags := 9, nameIndex := 52, descriptorIndex := 53, attributes := #[] }] 49 2 #[] #[])
  fields := #[]
  methods := #[k1m0, k1m1, k1m2]
  instanceTypes := #[]
  staticTypes := #[]
  resolved := Array.replicate 58 none
  statics := none }

def pool2 : Array CpInfo := pool [(1, .class_ 2), (0, u "java/lang/Math"), (1, .class_ 6), (1, u "java/lang/Object"), (0, u "<init>"), (0, u "()V"), (89, .class_ 100), (1, u "java/lang/Math$RandomNumberGeneratorHolder"), (71, u "negativeZeroFloatBits"), (0, u "J"), (2, u "negativeZeroDoubleBits"), (21, u "max"), (2, u "min"), (43, u "$assertionsDisabled"), (0, u "Z"), (88, u "(II)I"), (2, u "twoToTheDoubleScaleDown"), (0, u "D"), (4, u "twoToTheDoubleScaleUp"), (9, u "E"), (3, u "PI"), (2, u "TAU"), (2, u "DEGREES_TO_RADIANS"), (0, u "RADIANS_TO_DEGREES")] 94

def k2m0 : Method := { name := "<init>", desc := "()V", sig := { parameters := [], returnType := none }, accessFlags := 2, code := none }
def k2c1 : Code := { maxStack := 2, maxLocals := 2, code := jdk_29_method_65_code, exceptionTable := #[], attributes := #[] }
def k2m1 : Method := { name := "max", desc := "(II)I", sig := { parameters := [.int, .int], returnType := some .int }, accessFlags := 9, code := some k2c1 }
def k2c2 : Code := { maxStack := 2, maxLocals := 2, code := jdk_29_method_69_code, exceptionTable := #[], attributes := #[] }
def k2m2 : Method := { name := "min", desc := "(II)I", sig := { parameters := [.int, .int], returnType := some .int }, accessFlags := 9, code := some k2c2 }
/-- java/lang/Math -/
def k2 : Class := { plain "java/lang/Math" (some 0) with
  accessFlags := 49
  interfaces := #[]
  cf := some (fileOf pool2 1 #[.nestMembers #[98]] #[{ accessFlags := 2, nameIndex := 7, descriptorIndex := 8, attributes := #[] }, { accessFlags := 9, nameIndex := 198, descriptorIndex := 335, attributes := #[] }, { accessFlags := 9, nameIndex := 201, descriptorIndex := 335, attributes := #[] }] 49 4 #[] #[{ accessFlags := 25, nameIndex := 354, descriptorIndex := 339, attributes := #[] }, { accessFlags := 25, nameIndex := 358, descriptorIndex := 339, attributes := #[] }, { accessFlags := 25, nameIndex := 361, descriptorIndex := 339, attributes := #[] }, { accessFlags := 26, nameIndex := 364, descriptorIndex := 339, attributes := #[] }, { accessFlags := 26, nameIndex := 365, descriptorIndex := 339, attributes := #[] }, { accessFlags := 26, nameIndex := 172, descriptorIndex := 173, attributes := #[] }, { accessFlags := 26, nameIndex := 176, descriptorIndex := 173, attributes := #[] }, { accessFlags := 8, nameIndex := 344, descriptorIndex := 339, attributes := #[] }, { accessFlags := 8, nameIndex := 338, descriptorIndex := 339, attributes := #[] }, { accessFlags := 4120, nameIndex := 245, descriptorIndex := 246, attributes := #[] }])
  fields := #[{ name := "E", type := .double, accessFlags := 25, slot := 0, constantValue := 0 }, { name := "PI", type := .double, accessFlags := 25, slot := 1, constantValue := 0 }, { name := "TAU", type := .double, accessFlags := 25, slot := 2, constantValue := 0 }, { name := "DEGREES_TO_RADIANS", type := .double, accessFlags := 26, slot := 3, constantValue := 0 }, { name := "RADIANS_TO_DEGREES", type := .double, accessFlags := 26, slot := 4, constantValue := 0 }, { name := "negativeZeroFloatBits", type := .long, accessFlags := 26, slot := 5, constantValue := 0 }, { name := "negativeZeroDoubleBits", type := .long, accessFlags := 26, slot := 6, constantValue := 0 }, { name := "twoToTheDoubleScaleUp", type := .double, accessFlags := 8, slot := 7, constantValue := 0 }, { name := "twoToTheDoubleScaleDown", type := .double, accessFlags := 8, slot := 8, constantValue := 0 }, { name := "$assertionsDisabled", type := .boolean, accessFlags := 4120, slot := 9, constantValue := 0 }]
  methods := #[k2m0, k2m1, k2m2]
  instanceTypes := #[]
  staticTypes := #[.double, .double, .double, .double, .double, .long, .long, .double, .double, .boolean]
  resolved := Array.replicate 460 none
  statics := none }

def pool3 : Array CpInfo := pool [(1, .methodref 2 3), (0, .class_ 4), (0, .nameAndType 5 6), (0, u "java/lang/Object"), (0, u "<init>"), (0, u "()V"), (0, .fieldref 8 9), (0, .class_ 10), (0, .nameAndType 11 12), (0, u "com/example/xtd/xtd/model/LineCounter"), (0, u "line"), (0, u "I"), (0, .fieldref 8 14), (0, .nameAndType 15 12), (0, u "column"), (0, .fieldref 8 17), (0, .nameAndType 18 19), (0, u "afterCarriageReturn"), (0, u "Z"), (0, .class_ 21), (0, u "com/example/xtd/xtd/model/Position"), (0, .methodref 20 23), (0, .nameAndType 5 24), (0, u "(IIJLjava/lang/String;)V"), (2, u "count"), (0, u "(C)V"), (1, u "([CII)V"), (2, u "position"), (0, u "(JLjava/lang/String;)Lcom/example/xtd/xtd/model/Position;")] 2

def k3c0 : Code := { maxStack := 2, maxLocals := 1, code := prog_93_method_1_code, exceptionTable := #[], attributes := #[] }
def k3m0 : Method := { name := "<init>", desc := "()V", sig := { parameters := [], returnType := none }, accessFlags := 0, code := some k3c0 }
def k3c1 : Code := { maxStack := 3, maxLocals := 2, code := prog_93_method_2_code, exceptionTable := #[], attributes := #[] }
def k3m1 : Method := { name := "count", desc := "(C)V", sig := { parameters := [.char], returnType := none }, accessFlags := 0, code := some k3c1 }
def k3c2 : Code := { maxStack := 4, maxLocals := 8, code := prog_93_method_3_code, exceptionTable := #[], attributes := #[] }
def k3m2 : Method := { name := "count", desc := "([CII)V", sig := { parameters := [(.array .char), .int, .int], returnType := none }, accessFlags := 0, code := some k3c2 }
def k3c3 : Code := { maxStack := 7, maxLocals := 4, code := prog_93_method_4_code, exceptionTable := #[], attributes := #[] }
def k3m3 : Method := { name := "position", desc := "(JLjava/lang/String;)Lcom/example/xtd/xtd/model/Position;", sig := { parameters := [.long, (.object "java/lang/String")], returnType := some (.object "com/example/xtd/xtd/model/Position") }, accessFlags := 0, code := some k3c3 }
/-- com/example/xtd/xtd/model/LineCounter -/
def k3 : Class := { plain "com/example/xtd/xtd/model/LineCounter" (some 0) with
  accessFlags := 48
  interfaces := #[]
  cf := some (fileOf pool3 8 #[] #[{ accessFlags := 0, nameIndex := 5, descriptorIndex := 6, attributes := #[] }, { accessFlags := 0, nameIndex := 27, descriptorIndex := 28, attributes := #[] }, { accessFlags := 0, nameIndex := 27, descriptorIndex := 30, attributes := #[] }, { accessFlags := 0, nameIndex := 33, descriptorIndex := 34, attributes := #[] }] 48 2 #[] #[{ accessFlags := 2, nameIndex := 11, descriptorIndex := 12, attributes := #[] }, { accessFlags := 2, nameIndex := 15, descriptorIndex := 12, attributes := #[] }, { accessFlags := 2, nameIndex := 18, descriptorIndex := 19, attributes := #[] }])
  fields := #[{ name := "line", type := .int, accessFlags := 2, slot := 0, constantValue := 0 }, { name := "column", type := .int, accessFlags := 2, slot := 1, constantValue := 0 }, { name := "afterCarriageReturn", type := .boolean, accessFlags := 2, slot := 2, constantValue := 0 }]
  methods := #[k3m0, k3m1, k3m2, k3m3]
  instanceTypes := #[.int, .int, .boolean]
  staticTypes := #[]
  resolved := Array.replicate 37 none
  statics := none }

def pool4 : Array CpInfo := pool [(1, .methodref 2 3), (0, .class_ 4), (0, .nameAndType 5 6), (0, u "java/lang/Object"), (0, u "<init>"), (0, u "()V"), (0, .class_ 8), (0, u "java/lang/Record")] 13

def k4c0 : Code := { maxStack := 1, maxLocals := 1, code := jdk_30_method_1_code, exceptionTable := #[], attributes := #[] }
def k4m0 : Method := { name := "<init>", desc := "()V", sig := { parameters := [], returnType := none }, accessFlags := 4, code := some k4c0 }
/-- java/lang/Record -/
def k4 : Class := { plain "java/lang/Record" (some 0) with
  accessFlags := 1057
  interfaces := #[]
  cf := some (fileOf pool4 7 #[] #[{ accessFlags := 4, nameIndex := 5, descriptorIndex := 6, attributes := #[] }] 1057 2 #[] #[])
  fields := #[]
  methods := #[k4m0]
  instanceTypes := #[]
  staticTypes := #[]
  resolved := Array.replicate 22 none
  statics := none }

def pool5 : Array CpInfo := pool [(1, u "javax/xml/stream/Location"), (0, .class_ 1), (0, u "java/lang/Object"), (0, .class_ 3)] 3

/-- javax/xml/stream/Location -/
def k5 : Class := { plain "javax/xml/stream/Location" (some 0) with
  accessFlags := 1537
  interfaces := #[]
  cf := some (fileOf pool5 2 #[] #[] 1537 4 #[] #[])
  fields := #[]
  methods := #[]
  instanceTypes := #[]
  staticTypes := #[]
  resolved := Array.replicate 8 none
  statics := none }

def pool6 : Array CpInfo := pool [(1, .class_ 2), (0, u "java/io/Serializable"), (0, .class_ 4), (0, u "java/lang/Object")] 2

/-- java/io/Serializable -/
def k6 : Class := { plain "java/io/Serializable" (some 0) with
  accessFlags := 1537
  interfaces := #[]
  cf := some (fileOf pool6 1 #[] #[] 1537 3 #[] #[])
  fields := #[]
  methods := #[]
  instanceTypes := #[]
  staticTypes := #[]
  resolved := Array.replicate 7 none
  statics := none }

def pool7 : Array CpInfo := pool [(1, .methodref 2 3), (0, .class_ 4), (0, .nameAndType 5 6), (0, u "java/lang/Record"), (0, u "<init>"), (0, u "()V"), (0, .fieldref 8 9), (0, .class_ 10), (0, .nameAndType 11 12), (0, u "com/example/xtd/xtd/model/Position"), (0, u "line"), (0, u "I"), (0, .fieldref 8 14), (0, .nameAndType 15 12), (0, u "column"), (0, .fieldref 8 17), (0, .nameAndType 18 19), (0, u "offset"), (0, u "J"), (0, .fieldref 8 21), (0, .nameAndType 22 23), (0, u "systemId"), (0, u "Ljava/lang/String;"), (22, .class_ 47), (0, u "javax/xml/stream/Location"), (0, .class_ 49), (0, u "java/io/Serializable"), (0, u "(IIJLjava/lang/String;)V"), (4, u "()I")] 30

def k7c0 : Code := { maxStack := 3, maxLocals := 6, code := prog_107_method_1_code, exceptionTable := #[], attributes := #[] }
def k7m0 : Method := { name := "<init>", desc := "(IIJLjava/lang/String;)V", sig := { parameters := [.int, .int, .long, (.object "java/lang/String")], returnType := none }, accessFlags := 0, code := some k7c0 }
def k7c1 : Code := { maxStack := 1, maxLocals := 1, code := prog_107_method_10_code, exceptionTable := #[], attributes := #[] }
def k7m1 : Method := { name := "line", desc := "()I", sig := { parameters := [], returnType := some .int }, accessFlags := 1, code := some k7c1 }
def k7c2 : Code := { maxStack := 1, maxLocals := 1, code := prog_107_method_11_code, exceptionTable := #[], attributes := #[] }
def k7m2 : Method := { name := "column", desc := "()I", sig := { parameters := [], returnType := some .int }, accessFlags := 1, code := some k7c2 }
/-- com/example/xtd/xtd/model/Position -/
def k7 : Class := { plain "com/example/xtd/xtd/model/Position" (some 4) with
  accessFlags := 48
  interfaces := #[5, 6]
  cf := some (fileOf pool7 8 #[] #[{ accessFlags := 0, nameIndex := 5, descriptorIndex := 50, attributes := #[] }, { accessFlags := 1, nameIndex := 11, descriptorIndex := 55, attributes := #[] }, { accessFlags := 1, nameIndex := 15, descriptorIndex := 55, attributes := #[] }] 48 2 #[46, 48] #[{ accessFlags := 18, nameIndex := 11, descriptorIndex := 12, attributes := #[] }, { accessFlags := 18, nameIndex := 15, descriptorIndex := 12, attributes := #[] }, { accessFlags := 18, nameIndex := 18, descriptorIndex := 19, attributes := #[] }, { accessFlags := 18, nameIndex := 22, descriptorIndex := 23, attributes := #[] }])
  fields := #[{ name := "line", type := .int, accessFlags := 18, slot := 0, constantValue := 0 }, { name := "column", type := .int, accessFlags := 18, slot := 1, constantValue := 0 }, { name := "offset", type := .long, accessFlags := 18, slot := 2, constantValue := 0 }, { name := "systemId", type := (.object "java/lang/String"), accessFlags := 18, slot := 3, constantValue := 0 }]
  methods := #[k7m0, k7m1, k7m2]
  instanceTypes := #[.int, .int, .long, (.object "java/lang/String")]
  staticTypes := #[]
  resolved := Array.replicate 86 none
  statics := none }

def pool8 : Array CpInfo := pool [(1, u "java/lang/Cloneable"), (0, .class_ 1), (0, u "java/lang/Object"), (0, .class_ 3)] 3

/-- java/lang/Cloneable -/
def k8 : Class := { plain "java/lang/Cloneable" (some 0) with
  accessFlags := 1537
  interfaces := #[]
  cf := some (fileOf pool8 2 #[] #[] 1537 4 #[] #[])
  fields := #[]
  methods := #[]
  instanceTypes := #[]
  staticTypes := #[]
  resolved := Array.replicate 8 none
  statics := none }

/-- the primitive byte -/
def k9 : Class := { plain "byte" none with kind := .primitive 'B', accessFlags := 0x411 }
/-- [B -/
def k10 : Class := { plain "[B" (some 0) with kind := .array 9 .byte, interfaces := #[8, 6], accessFlags := 1041 }

/-- the primitive char -/
def k11 : Class := { plain "char" none with kind := .primitive 'C', accessFlags := 0x411 }
/-- [C -/
def k12 : Class := { plain "[C" (some 0) with kind := .array 11 .char, interfaces := #[8, 6], accessFlags := 1041 }

/-- the primitive int -/
def k13 : Class := { plain "int" none with kind := .primitive 'I', accessFlags := 0x411 }
/-- [I -/
def k14 : Class := { plain "[I" (some 0) with kind := .array 13 .int, interfaces := #[8, 6], accessFlags := 1041 }

def heap : Heap := #[]
def classes : Array Class := #[k0, k1, k2, k3, k4, k5, k6, k7, k8, k9, k10, k11, k12, k13, k14]
def interned : List (Array UInt16 × Addr) := []
def slotsUsed : Nat := 0
def theMethod : MethodId := ⟨1, 2⟩
def args0 : Array Value := #[.long 1000, .long 77, .int 5, .int 7]
def aboutOver (below : List Frame) : State where
  vm := { classes := classes, interned := interned.toArray }
  heap := heap
  slotsUsed := slotsUsed
  threads := #[{ frames := .invoking theMethod args0 :: below }]
def below0 : List Frame := [.native { method := ⟨0, 0⟩, args := #[] }]
def about1 : State := aboutOver below0
def p0 : Program := .bare "" "" ""
def e0 : Env := launch0.env 0 0 0
theorem w_frames : about1.frames = Frame.invoking theMethod args0 :: below0 := rfl
set_option maxRecDepth 65536 in
theorem w_args : argsFit about1.vm theMethod args0 = true := by decide +kernel
set_option maxRecDepth 65536 in
theorem w_heap : heapFits about1 = true := by decide +kernel
set_option maxRecDepth 65536 in
theorem w_runnable : about1.curStatus? = some .runnable := by decide +kernel
set_option maxRecDepth 65536 in
theorem w_alone : about1.alone = true := by decide +kernel
set_option maxRecDepth 65536 in
theorem w_named : about1.methodNamed? x = some theMethod := by decide +kernel
set_option maxRecDepth 65536 in
theorem w_hears : about1.hears theMethod below0 = true := by decide +kernel
set_option maxRecDepth 65536 in
theorem w_ripe : about1.ripe theMethod args0 below0 = true := by decide +kernel
theorem w_running : about1.status = .running := rfl
set_option maxRecDepth 65536 in
theorem w_room : about1.hasRoom e0.platform room_1 = true :=
  launch0.hasRoom_least _ room_1 (by decide +kernel) (by decide +kernel) (by decide +kernel) (by decide +kernel) (by decide +kernel) (by decide +kernel)
theorem allAtoms_all (ts : List Jvm.Cond) (a : Array Jvm.Value) (st : Jvm.State) : (allAtoms ts).before a st = ts.all (fun c => c.before a st) := by
  induction ts with
  | nil => rfl
  | cons c t ih =>
    show (Jvm.Cond.and c (allAtoms t)).before a st = _
    rw [Jvm.Cond.before_and, ih, List.all_cons]
def words1 : List Jvm.Cond := Jvm.Cond.code x code maxLocals ret :: tables_1
/-- a 'code' word, met by the world's own term for the bytes: nothing is compared byte by byte -/
theorem code_word {y : MethodName} {bytes : ByteArray} {mx : Nat} {rt : Option FieldType} {a : Array Value} {s : State} {m : MethodId} {meth : Method} {c : Code} (h1 : s.methodNamed? y = some m) (h2 : s.vm.method? m = some meth) (h3 : meth.code = some c) (h4 : c.code = bytes)
    (h5 : (c.maxLocals == mx && c.exceptionTable.isEmpty && decide (c.maxStack ≤ mostOperands) && decide (meth.sig.returnType = rt) && !meth.locks && decide (parseMethodDescriptor y.desc = some meth.sig)) = true) : (Jvm.Cond.code y bytes mx rt).before a s = true := by
  simp only [Bool.and_eq_true, beq_iff_eq, Bool.not_eq_true', decide_eq_true_eq] at h5
  obtain ⟨⟨⟨⟨⟨g1, g2⟩, g3⟩, g4⟩, g5⟩, g6⟩ := h5
  simp [Cond.before, Cond.holds, Cond.value, h1, h2, h3, h4, g1, g2, g3, g4, g5, g6]
def isCode : Jvm.Cond → Bool
  | .code _ _ _ _ => true
  | _ => false
theorem all_split {L : List Jvm.Cond} {P : Jvm.Cond → Bool} (h1 : L.all (fun c => isCode c || P c) = true) (h2 : ∀ c ∈ L.filter isCode, P c = true) : L.all P = true := by
  refine List.all_eq_true.mpr fun c hc => ?_
  have h := List.all_eq_true.mp h1 c hc
  rcases Bool.eq_false_or_eq_true (isCode c) with hi | hi
  · exact h2 c (List.mem_filter.mpr ⟨hc, hi⟩)
  · simpa [hi] using h
set_option maxRecDepth 65536 in
theorem w_c0 : (Jvm.Cond.code x code maxLocals ret).before args0 about1 = true := code_word (m := ⟨1, 2⟩) (meth := k1m2) (c := k1c2) (by decide +kernel) rfl rfl rfl (by decide +kernel)
set_option maxRecDepth 65536 in
theorem w_c1 : (Jvm.Cond.code ({ cls := "com/example/xtd/xtd/model/LineCounterCountPinLaw", name := "pick", desc := "(J)C" } : Jvm.MethodName) method_2_code (3 : Nat) (Option.some Jvm.ClassFile.FieldType.char)).before args0 about1 = true := code_word (m := ⟨1, 1⟩) (meth := k1m1) (c := k1c1) (by decide +kernel) rfl rfl rfl (by decide +kernel)
set_option maxRecDepth 65536 in
theorem w_c2 : (Jvm.Cond.code ({ cls := "java/lang/Math", name := "min", desc := "(II)I" } : Jvm.MethodName) jdk_29_method_69_code (2 : Nat) (Option.some Jvm.ClassFile.FieldType.int)).before args0 about1 = true := code_word (m := ⟨2, 2⟩) (meth := k2m2) (c := k2c2) (by decide +kernel) rfl rfl rfl (by decide +kernel)
set_option maxRecDepth 65536 in
theorem w_c3 : (Jvm.Cond.code ({ cls := "java/lang/Math", name := "max", desc := "(II)I" } : Jvm.MethodName) jdk_29_method_65_code (2 : Nat) (Option.some Jvm.ClassFile.FieldType.int)).before args0 about1 = true := code_word (m := ⟨2, 1⟩) (meth := k2m1) (c := k2c1) (by decide +kernel) rfl rfl rfl (by decide +kernel)
set_option maxRecDepth 65536 in
theorem w_c4 : (Jvm.Cond.code ({ cls := "com/example/xtd/xtd/model/LineCounter", name := "<init>", desc := "()V" } : Jvm.MethodName) prog_93_method_1_code (1 : Nat) (Option.none : Option Jvm.ClassFile.FieldType)).before args0 about1 = true := code_word (m := ⟨3, 0⟩) (meth := k3m0) (c := k3c0) (by decide +kernel) rfl rfl rfl (by decide +kernel)
set_option maxRecDepth 65536 in
theorem w_c5 : (Jvm.Cond.code ({ cls := "java/lang/Object", name := "<init>", desc := "()V" } : Jvm.MethodName) object_method_1_code (1 : Nat) (Option.none : Option Jvm.ClassFile.FieldType)).before args0 about1 = true := code_word (m := ⟨0, 0⟩) (meth := k0m0) (c := k0c0) (by decide +kernel) rfl rfl rfl (by decide +kernel)
set_option maxRecDepth 65536 in
theorem w_c6 : (Jvm.Cond.code ({ cls := "com/example/xtd/xtd/model/LineCounter", name := "count", desc := "([CII)V" } : Jvm.MethodName) prog_93_method_3_code (8 : Nat) (Option.none : Option Jvm.ClassFile.FieldType)).before args0 about1 = true := code_word (m := ⟨3, 2⟩) (meth := k3m2) (c := k3c2) (by decide +kernel) rfl rfl rfl (by decide +kernel)
set_option maxRecDepth 65536 in
theorem w_c7 : (Jvm.Cond.code ({ cls := "com/example/xtd/xtd/model/LineCounter", name := "count", desc := "(C)V" } : Jvm.MethodName) prog_93_method_2_code (2 : Nat) (Option.none : Option Jvm.ClassFile.FieldType)).before args0 about1 = true := code_word (m := ⟨3, 1⟩) (meth := k3m1) (c := k3c1) (by decide +kernel) rfl rfl rfl (by decide +kernel)
set_option maxRecDepth 65536 in
theorem w_c8 : (Jvm.Cond.code ({ cls := "com/example/xtd/xtd/model/LineCounter", name := "position", desc := "(JLjava/lang/String;)Lcom/example/xtd/xtd/model/Position;" } : Jvm.MethodName) prog_93_method_4_code (4 : Nat) (Option.some (Jvm.ClassFile.FieldType.object "com/example/xtd/xtd/model/Position"))).before args0 about1 = true := code_word (m := ⟨3, 3⟩) (meth := k3m3) (c := k3c3) (by decide +kernel) rfl rfl rfl (by decide +kernel)
set_option maxRecDepth 65536 in
theorem w_c9 : (Jvm.Cond.code ({ cls := "com/example/xtd/xtd/model/Position", name := "<init>", desc := "(IIJLjava/lang/String;)V" } : Jvm.MethodName) prog_107_method_1_code (6 : Nat) (Option.none : Option Jvm.ClassFile.FieldType)).before args0 about1 = true := code_word (m := ⟨7, 0⟩) (meth := k7m0) (c := k7c0) (by decide +kernel) rfl rfl rfl (by decide +kernel)
set_option maxRecDepth 65536 in
theorem w_c10 : (Jvm.Cond.code ({ cls := "java/lang/Record", name := "<init>", desc := "()V" } : Jvm.MethodName) jdk_30_method_1_code (1 : Nat) (Option.none : Option Jvm.ClassFile.FieldType)).before args0 about1 = true := code_word (m := ⟨4, 0⟩) (meth := k4m0) (c := k4c0) (by decide +kernel) rfl rfl rfl (by decide +kernel)
set_option maxRecDepth 65536 in
theorem w_c11 : (Jvm.Cond.code ({ cls := "com/example/xtd/xtd/model/Position", name := "line", desc := "()I" } : Jvm.MethodName) prog_107_method_10_code (1 : Nat) (Option.some Jvm.ClassFile.FieldType.int)).before args0 about1 = true := code_word (m := ⟨7, 1⟩) (meth := k7m1) (c := k7c1) (by decide +kernel) rfl rfl rfl (by decide +kernel)
set_option maxRecDepth 65536 in
theorem w_c12 : (Jvm.Cond.code ({ cls := "com/example/xtd/xtd/model/Position", name := "column", desc := "()I" } : Jvm.MethodName) prog_107_method_11_code (1 : Nat) (Option.some Jvm.ClassFile.FieldType.int)).before args0 about1 = true := code_word (m := ⟨7, 2⟩) (meth := k7m2) (c := k7c2) (by decide +kernel) rfl rfl rfl (by decide +kernel)
def codes1 : List Jvm.Cond := [Jvm.Cond.code x code maxLocals ret, Jvm.Cond.code ({ cls := "com/example/xtd/xtd/model/LineCounterCountPinLaw", name := "pick", desc := "(J)C" } : Jvm.MethodName) method_2_code (3 : Nat) (Option.some Jvm.ClassFile.FieldType.char), Jvm.Cond.code ({ cls := "java/lang/Math", name := "min", desc := "(II)I" } : Jvm.MethodName) jdk_29_method_69_code (2 : Nat) (Option.some Jvm.ClassFile.FieldType.int), Jvm.Cond.code ({ cls := "java/lang/Math", name := "max", desc := "(II)I" } : Jvm.MethodName) jdk_29_method_65_code (2 : Nat) (Option.some Jvm.ClassFile.FieldType.int), Jvm.Cond.code ({ cls := "com/example/xtd/xtd/model/LineCounter", name := "<init>", desc := "()V" } : Jvm.MethodName) prog_93_method_1_code (1 : Nat) (Option.none : Option Jvm.ClassFile.FieldType), Jvm.Cond.code ({ cls := "java/lang/Object", name := "<init>", desc := "()V" } : Jvm.MethodName) object_method_1_code (1 : Nat) (Option.none : Option Jvm.ClassFile.FieldType), Jvm.Cond.code ({ cls := "com/example/xtd/xtd/model/LineCounter", name := "count", desc := "([CII)V" } : Jvm.MethodName) prog_93_method_3_code (8 : Nat) (Option.none : Option Jvm.ClassFile.FieldType), Jvm.Cond.code ({ cls := "com/example/xtd/xtd/model/LineCounter", name := "count", desc := "(C)V" } : Jvm.MethodName) prog_93_method_2_code (2 : Nat) (Option.none : Option Jvm.ClassFile.FieldType), Jvm.Cond.code ({ cls := "com/example/xtd/xtd/model/LineCounter", name := "position", desc := "(JLjava/lang/String;)Lcom/example/xtd/xtd/model/Position;" } : Jvm.MethodName) prog_93_method_4_code (4 : Nat) (Option.some (Jvm.ClassFile.FieldType.object "com/example/xtd/xtd/model/Position")), Jvm.Cond.code ({ cls := "com/example/xtd/xtd/model/Position", name := "<init>", desc := "(IIJLjava/lang/String;)V" } : Jvm.MethodName) prog_107_method_1_code (6 : Nat) (Option.none : Option Jvm.ClassFile.FieldType), Jvm.Cond.code ({ cls := "java/lang/Record", name := "<init>", desc := "()V" } : Jvm.MethodName) jdk_30_method_1_code (1 : Nat) (Option.none : Option Jvm.ClassFile.FieldType), Jvm.Cond.code ({ cls := "com/example/xtd/xtd/model/Position", name := "line", desc := "()I" } : Jvm.MethodName) prog_107_method_10_code (1 : Nat) (Option.some Jvm.ClassFile.FieldType.int), Jvm.Cond.code ({ cls := "com/example/xtd/xtd/model/Position", name := "column", desc := "()I" } : Jvm.MethodName) prog_107_method_11_code (1 : Nat) (Option.some Jvm.ClassFile.FieldType.int)]
set_option maxRecDepth 65536 in
theorem codes_eq : words1.filter isCode = codes1 := rfl
theorem w_codes : ∀ c ∈ words1.filter isCode, c.before args0 about1 = true := by
  rw [codes_eq]
  intro c hc
  simp only [codes1, List.mem_cons, List.not_mem_nil, or_false] at hc
  rcases hc with rfl | rfl | rfl | rfl | rfl | rfl | rfl | rfl | rfl | rfl | rfl | rfl | rfl
  · exact w_c0
  · exact w_c1
  · exact w_c2
  · exact w_c3
  · exact w_c4
  · exact w_c5
  · exact w_c6
  · exact w_c7
  · exact w_c8
  · exact w_c9
  · exact w_c10
  · exact w_c11
  · exact w_c12
set_option maxRecDepth 65536 in
theorem w_t1 : (words1.take 24).all (fun c => isCode c || c.before args0 about1) = true := by decide +kernel
set_option maxRecDepth 65536 in
theorem w_t2 : ((words1.drop 24).take 24).all (fun c => isCode c || c.before args0 about1) = true := by decide +kernel
set_option maxRecDepth 65536 in
theorem w_t3 : (((words1.drop 24).drop 24).take 24).all (fun c => isCode c || c.before args0 about1) = true := by decide +kernel
set_option maxRecDepth 65536 in
theorem w_t4 : (((words1.drop 24).drop 24).drop 24).all (fun c => isCode c || c.before args0 about1) = true := by decide +kernel
theorem w_tables : (allAtoms (Jvm.Cond.code x code maxLocals ret :: tables_1)).before args0 about1 = true := by
  rw [allAtoms_all]
  show words1.all (fun c => c.before args0 about1) = true
  refine all_split ?_ w_codes
  rw [← List.take_append_drop 24 words1, List.all_append, w_t1, ← List.take_append_drop 24 (words1.drop 24), List.all_append, w_t2, ← List.take_append_drop 24 ((words1.drop 24).drop 24), List.all_append, w_t3, w_t4]
  rfl
set_option maxRecDepth 65536 in
theorem w_case : (Jvm.Cond.and given_1 narrow_1).before args0 about1 = true := by decide +kernel
theorem w_applies : (headSpec (Jvm.Cond.code x code maxLocals ret :: tables_1) room_1).applies x e0.platform about1 = true :=
  (Spec.applies_iff w_frames).mpr ⟨w_running, w_runnable, w_alone, w_named, w_hears, w_ripe, w_room, w_tables⟩
theorem atStart : AtStart classFile x code maxLocals ret World_1 tables_1 room_1 Calls_1 rest_1 Pre_1 launch0 p0 e0 about1 theMethod args0 below0 :=
  ⟨lists_1, trivial, launch0.admits_env _ _ _, launch0.least_env, fairChoices_fair.cas, fairChoices_fair.clock, w_frames, w_args, w_heap, w_applies, trivial, trivial, w_case⟩
end start1
theorem witness_1 : WitnessClaimed_1 := ⟨start1.p0, start1.e0, start1.about1, start1.theMethod, start1.args0, start1.below0, start1.atStart⟩
end Jvm.Pilot.@@N@@
