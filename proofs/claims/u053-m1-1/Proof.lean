import JvmDerived
import JvmDerived.Pilot.@@N@@Statement
import JvmDerived.Pilot.@@N@@Code
set_option linter.unusedVariables false
set_option linter.unusedSimpArgs false
namespace Jvm.Pilot.@@N@@
open Jvm Jvm.ClassFile Sem Op Lib Jvm.Free Jvm.Stand Jvm.LawKit Jvm.RoadKit Bundle Jvm.Pilot.@@N@@.Jvm.D
abbrev jv (x : Int64) : Slot := .val (.long x)
theorem ow {Z : State} {a0 : Array Value} (hw : ∀ d ∈ tables_1, d.before a0 Z = true) (i : Nat) {d : Jvm.Cond} (h : tables_1[i]? = some d) : d.before a0 Z = true := hw _ (List.mem_of_getElem? h)
section OwnKit
variable {p : Program} {l : Launch} {e : Env} {R : Room} {s : State} {m : MethodId} {args : Array Value} {below : List Frame} {meth : Method} {c : Code} {T T' : State} {locs : List Loc} {cells slots kc ks : Nat} {Q : Option Value → Heap → List Loc → Prop} {g g' : JFrame}
/-- from this state and frame on the body ends, and Q holds of what it returns, of the heap and of the places written -/
def OwnG (p : Program) (e : Env) (below : List Frame) (s : State) (kc ks : Nat) (Q : Option Value → Heap → List Loc → Prop) (T : State) (g : JFrame) : Prop :=
  ∃ s₂ o, Steps p.tables e below (T.setTop g) s₂ ∧ s₂.status = .running ∧ Ended s₂ below o ∧ ∃ v L, o = .returned v ∧ Q v s₂.heap L ∧ FrameEnd s o s₂ L kc ks
theorem own_by (k : ∀ t, Steps p.tables e below (T'.setTop g') t → Steps p.tables e below (T.setTop g) t) (h : OwnG p e below s kc ks Q T' g') : OwnG p e below s kc ks Q T g := by
  obtain ⟨s₂, o, st, r⟩ := h
  exact ⟨s₂, o, k _ st, r⟩
theorem own_out (X : Stand p l e R s m args below meth c T locs cells slots) (hlk : meth.locks = false) {v : Option Value} (hv : meth.sig.returnType = none → v = none)
    (hst : ∀ fs, (∀ (f : JFrame) (acts : List Action), f.method = m → f.locked = none → f.entered = [] → (doReturn e (T.setTop f) acts v).1 = T.setFrames fs) → Steps p.tables e below (T.setTop g) (T.setFrames fs))
    (hq : Q v T.heap locs) (hc : cells ≤ kc) (hs : slots ≤ ks) : OwnG p e below s kc ks Q T g := by
  obtain ⟨fs, hr, hrun, hended, hW, hsame⟩ := X.leave (v := v) hv hlk
  exact ⟨_, _, hst fs hr, hrun, hended, v, locs, rfl, hq, ⟨_, rfl⟩, hW, hsame.mono hc hs⟩
def OwnGW (p : Program) (e : Env) (below : List Frame) (s : State) (kc ks : Nat) (Q : Option Value → Heap → List Loc → Prop) (T : State) (g : JFrame) : Prop :=
  ∃ s₂ o, Steps p.tables e below (T.setTop g) s₂ ∧ s₂.status = .running ∧ Ended s₂ below o ∧ ∃ v L, o = .returned v ∧ Q v s₂.heap L ∧ ReturnedEndW s o s₂ L kc ks
theorem own_byW (k : ∀ t, Steps p.tables e below (T'.setTop g') t → Steps p.tables e below (T.setTop g) t) (h : OwnGW p e below s kc ks Q T' g') : OwnGW p e below s kc ks Q T g := by
  obtain ⟨s₂, o, st, r⟩ := h
  exact ⟨s₂, o, k _ st, r⟩
theorem own_outW {vm : Vm} {k : Nat} (X : Stand p l e R (s.setVm vm) m args below meth c T locs cells slots) (hS : s.Since vm k) (hk : k ≤ T.heap.size) (hlk : meth.locks = false) {v : Option Value} (hv : meth.sig.returnType = none → v = none)
    (hst : ∀ fs, (∀ (f : JFrame) (acts : List Action), f.method = m → f.locked = none → f.entered = [] → (doReturn e (T.setTop f) acts v).1 = T.setFrames fs) → Steps p.tables e below (T.setTop g) (T.setFrames fs))
    (hq : Q v T.heap locs) (hc : cells ≤ kc) (hs : slots ≤ ks) : OwnGW p e below s kc ks Q T g := by
  obtain ⟨fs, hr, hrun, hended, h1, h2, h3, h4⟩ := X.leaveW hS hk (v := v) hv hlk
  exact ⟨_, _, hst fs hr, hrun, hended, v, locs, rfl, hq, h1, h2, h3, h4.mono hc hs⟩
def OwnGH (p : Program) (e : Env) (below : List Frame) (s Z : State) (EL : List (String × Nat)) (kc ks : Nat) (Q : Option Value → Heap → List Loc → Prop) (T : State) (g : JFrame) : Prop :=
  ∃ s₂ o, Steps p.tables e below (T.setTop g) s₂ ∧ s₂.status = .running ∧ Ended s₂ below o ∧ ∃ v L, o = .returned v ∧ Q v s₂.heap L ∧ CHr Z EL s.vm s.heap s₂.vm s₂.heap ∧ ReturnedEndW s o s₂ L kc ks
theorem own_byH {Z : State} {EL : List (String × Nat)} (k : ∀ t, Steps p.tables e below (T'.setTop g') t → Steps p.tables e below (T.setTop g) t) (h : OwnGH p e below s Z EL kc ks Q T' g') : OwnGH p e below s Z EL kc ks Q T g := by
  obtain ⟨s₂, o, st, r⟩ := h
  exact ⟨s₂, o, k _ st, r⟩
theorem own_outH {Z : State} {a0 : Array Value} {EL : List (String × Nat)} {h0 : Heap} {vm : Vm} {k : Nat} (X : Stand p l e R (s.setVm vm) m args below meth c T locs cells slots) (hh : s.heap = h0) (hEL : EW Z a0 EL) (hS : s.Since vm k) (hk : k ≤ T.heap.size) (HR : CHr Z EL s.vm h0 vm T.heap) (hZ : Z.Warmed39 vm) (hlk : meth.locks = false) {v : Option Value} (hv : meth.sig.returnType = none → v = none)
    (hst : ∀ fs, (∀ (f : JFrame) (acts : List Action), f.method = m → f.locked = none → f.entered = [] → (doReturn e (T.setTop f) acts v).1 = T.setFrames fs) → Steps p.tables e below (T.setTop g) (T.setFrames fs))
    (hq : Q v T.heap locs) (hc : cells ≤ kc) (hs : slots ≤ ks) : OwnGH p e below s Z EL kc ks Q T g := by
  obtain ⟨fs, hr, hrun, hended, h1, h2, h3, h4⟩ := X.leaveW hS hk (v := v) hv hlk
  have C := HR.trans (CHv.at X hZ hEL HR.1)
  exact ⟨_, _, hst fs hr, hrun, hended, v, locs, rfl, hq, (by rw [hh]; exact C), h1, h2, h3, h4.mono hc hs⟩
theorem own_lt (x y : Int64) : lcmpW x y < 0 ↔ x < y := by rw [lcW]; exact lc_lt x y
theorem own_gt (x y : Int64) : 0 < lcmpW x y ↔ y < x := by rw [lcW]; exact lc_gt x y
theorem own_eq (x y : Int64) : lcmpW x y = 0 ↔ x = y := by rw [lcW]; exact lc_eq x y
theorem own_fldI {Z : State} {a : Addr} {t : Jvm.Term} {C n d : String} {k : Int32} (ev : t.eval args Z none [] Z = some (.ref a)) (h : (Jvm.Cond.eq (Jvm.Term.field t C n d) (Jvm.Term.int k)).value args Z none Z [] = some true) : Fld Z Z.heap a C n d (.int k) := by
  obtain ⟨x, y, h1, h2, h3, h4⟩ := cmp_v (Or.inl h)
  cases (Term.int_eval k).symm.trans h2
  obtain ⟨z, rfl⟩ := h4
  rw [fld_at ev] at h1
  have h5 : (Jvm.Cond.eq (Jvm.Term.field t C n d) (Jvm.Term.int k)).value args Z none Z [] = some (decide (z = k)) := by simp [Jvm.Cond.value, fld_at ev, h1, Term.int_eval]
  cases gotT h5 h
  exact Fld.start h1
theorem own_fldJ {Z : State} {a : Addr} {t : Jvm.Term} {C n d : String} {k : Int64} (ev : t.eval args Z none [] Z = some (.ref a)) (h : (Jvm.Cond.eq (Jvm.Term.field t C n d) (Jvm.Term.long k)).value args Z none Z [] = some true) : Fld Z Z.heap a C n d (.long k) := by
  obtain ⟨x, y, h1, h2, h3, h4⟩ := cmp_v (Or.inl h)
  cases (long_at k).symm.trans h2
  obtain ⟨z, rfl⟩ := h4
  have h5 := gotT (eq_L h1 (long_at k)) h
  rw [fld_at ev] at h1
  cases h5
  exact Fld.start h1
theorem own_fldN {Z : State} {a : Addr} {t : Jvm.Term} {C n d : String} (ev : t.eval args Z none [] Z = some (.ref a)) (h : (Jvm.Cond.eq (Jvm.Term.field t C n d) Jvm.Term.null).value args Z none Z [] = some true) : Fld Z Z.heap a C n d .null := by
  have h1 := null_v h
  rw [fld_at ev] at h1
  exact Fld.start h1
theorem own_e0 {P : Prop} [Decidable P] (h : (if P then (1 : Int32) else (0 : Int32)) = 0) : ¬ P := fun q => by rw [if_pos q] at h; exact absurd h (by decide)
theorem own_e1 {P : Prop} [Decidable P] (h : ¬ (if P then (1 : Int32) else (0 : Int32)) = 0) : P := by
  by_cases q : P
  · exact q
  · exact absurd (if_neg q) h
theorem own_n2 {P Q : Prop} [Decidable P] [Decidable Q] {A : Int32} (h : ¬ (P ∧ Q)) : (if P then (if Q then A else (0 : Int32)) else (0 : Int32)) = 0 := by
  by_cases p : P
  · rw [if_pos p, if_neg (fun q => h ⟨p, q⟩)]
  · rw [if_neg p]
theorem own_narR {v : Value} {C : String} (h : v.isRef = true) : narrow (.object C) v = v := by rcases ref_cases h with rfl | ⟨_, rfl⟩ <;> rfl
theorem own_fitR {v : Value} {C : String} (h : v.isRef = true) : fits (.object C) v = true := by rcases ref_cases h with rfl | ⟨_, rfl⟩ <;> rfl
theorem own_len {Z : State} {t : Jvm.Term} {a : Addr} {cl : Cell} {ty : FieldType} {k : Int32} (et : t.eval args Z none [] Z = some (.ref a)) (A : Arr Z Z.heap a cl ty) (h : (Jvm.Term.length t).eval args Z none [] Z = some (.int k)) : cl.slots.size < 2 ^ 31 ∧ cl.slots.size.toInt32 = k := by
  have hA := A.fin (Vm.Alike.refl Z.vm)
  by_cases q : cl.slots.size < 2 ^ 31
  · rw [len_f et hA q] at h; exact ⟨q, by simpa using h⟩
  · simp [Jvm.Term.eval, et, hA] at h; exact absurd h.1 q
theorem own_mvM {Z : State} {a0 : Array Value} {own host : String} {index : Nat} {y : MethodName} (hZ : Z.Warmed39 s.vm) (w : (Jvm.Cond.methodLinkNest own index y host).before a0 Z = true) : (Jvm.Cond.methodLinkNest own index y host).before args s = true := (Cond.methodLinkNest_wide hZ w :)
end OwnKit
theorem d1_0 : decode method_3_code 0 = .ok (.lload_n 0, 1) := by decide +kernel
theorem d1_1 : decode method_3_code 1 = .ok (.ldc2_w 15, 3) := by decide +kernel
theorem d1_4 : decode method_3_code 4 = .ok (.land, 1) := by decide +kernel
theorem d1_5 : decode method_3_code 5 = .ok (.lstore_n 2, 1) := by decide +kernel
theorem d1_6 : decode method_3_code 6 = .ok (.lload_n 2, 1) := by decide +kernel
theorem d1_7 : decode method_3_code 7 = .ok (.lconst 0, 1) := by decide +kernel
theorem d1_8 : decode method_3_code 8 = .ok (.lcmp, 1) := by decide +kernel
theorem d1_9 : decode method_3_code 9 = .ok (.ifCond .ne 9, 3) := by decide +kernel
theorem d1_12 : decode method_3_code 12 = .ok (.ldc2_w 15, 3) := by decide +kernel
theorem d1_15 : decode method_3_code 15 = .ok (.goto 4, 3) := by decide +kernel
theorem d1_18 : decode method_3_code 18 = .ok (.lload_n 2, 1) := by decide +kernel
theorem d1_19 : decode method_3_code 19 = .ok (.lreturn, 1) := by decide +kernel
theorem d2_0 : decode prog_15_method_1_code 0 = .ok (.aload_n 0, 1) := by decide +kernel
theorem d2_1 : decode prog_15_method_1_code 1 = .ok (.invokespecial 1, 3) := by decide +kernel
theorem d2_4 : decode prog_15_method_1_code 4 = .ok (.lload_n 1, 1) := by decide +kernel
theorem d2_5 : decode prog_15_method_1_code 5 = .ok (.lconst 0, 1) := by decide +kernel
theorem d2_6 : decode prog_15_method_1_code 6 = .ok (.lcmp, 1) := by decide +kernel
theorem d2_7 : decode prog_15_method_1_code 7 = .ok (.ifCond .le 9, 3) := by decide +kernel
theorem d2_10 : decode prog_15_method_1_code 10 = .ok (.lload_n 3, 1) := by decide +kernel
theorem d2_11 : decode prog_15_method_1_code 11 = .ok (.lconst 0, 1) := by decide +kernel
theorem d2_12 : decode prog_15_method_1_code 12 = .ok (.lcmp, 1) := by decide +kernel
theorem d2_13 : decode prog_15_method_1_code 13 = .ok (.ifCond .gt 18, 3) := by decide +kernel
theorem d2_31 : decode prog_15_method_1_code 31 = .ok (.aload_n 0, 1) := by decide +kernel
theorem d2_32 : decode prog_15_method_1_code 32 = .ok (.lload_n 1, 1) := by decide +kernel
theorem d2_33 : decode prog_15_method_1_code 33 = .ok (.putfield 16, 3) := by decide +kernel
theorem d2_36 : decode prog_15_method_1_code 36 = .ok (.aload_n 0, 1) := by decide +kernel
theorem d2_37 : decode prog_15_method_1_code 37 = .ok (.lload_n 3, 1) := by decide +kernel
theorem d2_38 : decode prog_15_method_1_code 38 = .ok (.putfield 22, 3) := by decide +kernel
theorem d2_41 : decode prog_15_method_1_code 41 = .ok (.return_, 1) := by decide +kernel
theorem d3_0 : decode jdk_30_method_1_code 0 = .ok (.aload_n 0, 1) := by decide +kernel
theorem d3_1 : decode jdk_30_method_1_code 1 = .ok (.invokespecial 1, 3) := by decide +kernel
theorem d3_4 : decode jdk_30_method_1_code 4 = .ok (.return_, 1) := by decide +kernel
theorem d5_0 : decode prog_15_method_2_code 0 = .ok (.aload_n 0, 1) := by decide +kernel
theorem d5_1 : decode prog_15_method_2_code 1 = .ok (.getfield 16, 3) := by decide +kernel
theorem d5_4 : decode prog_15_method_2_code 4 = .ok (.aload_n 0, 1) := by decide +kernel
theorem d5_5 : decode prog_15_method_2_code 5 = .ok (.getfield 22, 3) := by decide +kernel
theorem d5_8 : decode prog_15_method_2_code 8 = .ok (.lcmp, 1) := by decide +kernel
theorem d5_9 : decode prog_15_method_2_code 9 = .ok (.ifCond .ne 7, 3) := by decide +kernel
theorem d5_12 : decode prog_15_method_2_code 12 = .ok (.iconst 1, 1) := by decide +kernel
theorem d5_13 : decode prog_15_method_2_code 13 = .ok (.goto 4, 3) := by decide +kernel
theorem d5_16 : decode prog_15_method_2_code 16 = .ok (.iconst 0, 1) := by decide +kernel
theorem d5_17 : decode prog_15_method_2_code 17 = .ok (.ireturn, 1) := by decide +kernel
theorem pn_0 : plainName "com/example/ratchetbook/ratchetbook/bill/ProrationFactorIsOnePinLaw" = true := by first | (simp [plainName, overriddenIn]; done) | decide +kernel
theorem pn_1 : plainName "java/lang/Record" = true := by first | (simp [plainName, overriddenIn]; done) | decide +kernel
theorem pn_2 : plainName "com/example/ratchetbook/ratchetbook/bill/ProrationFactor" = true := by first | (simp [plainName, overriddenIn]; done) | decide +kernel
theorem pd_0 : parseMethodDescriptor "()V" = some ⟨[], none⟩ := by decide +kernel
theorem pd_1 : parseMethodDescriptor "(J)J" = some ⟨[.long], some .long⟩ := by decide +kernel
theorem pd_2 : parseMethodDescriptor "(JJ)V" = some ⟨[.long, .long], none⟩ := by decide +kernel
theorem pd_3 : parseMethodDescriptor "()Z" = some ⟨[], some .boolean⟩ := by decide +kernel
theorem ef_rm1 (m : MethodId) (x0 : Int64) : entryFrame m #[(.long x0)] 4 = mkF m 0 #[.val (.long x0), .second, .unset, .unset] [] := by first | (simp [entryFrame, mkF, argsToLocals, Value.category]; done) | rfl
theorem ef_rm3 (m : MethodId) (x0 : Addr) : entryFrame m #[(.ref x0)] 1 = mkF m 0 #[.val (.ref x0)] [] := by first | (simp [entryFrame, mkF, argsToLocals, Value.category]; done) | rfl
theorem ef_rm2 (m : MethodId) (x0 : Addr) (x1 : Int64) (x2 : Int64) : entryFrame m #[(.ref x0), (.long x1), (.long x2)] 5 = mkF m 0 #[.val (.ref x0), .val (.long x1), .second, .val (.long x2), .second] [] := by first | (simp [entryFrame, mkF, argsToLocals, Value.category]; done) | rfl
theorem ef_rm5 (m : MethodId) (x0 : Addr) : entryFrame m #[(.ref x0)] 1 = mkF m 0 #[.val (.ref x0)] [] := by first | (simp [entryFrame, mkF, argsToLocals, Value.category]; done) | rfl
theorem ef_rm0 (m : MethodId) (x0 : Int64) (x1 : Int64) (x2 : Int32) : entryFrame m #[(.long x0), (.long x1), (.int x2)] maxLocals = mkF m 0 #[.val (.long x0), .second, .val (.long x1), .second, .val (.int x2), .unset, .unset, .unset, .unset, .unset, .unset, .unset] [] := by first | (simp [entryFrame, mkF, argsToLocals, Value.category, maxLocals]; done) | rfl
def own_pos (x : Int64) : Int64 := if (x &&& (9223372036854775807 : Int64)) = (0 : Int64) then (9223372036854775807 : Int64) else (x &&& (9223372036854775807 : Int64))
theorem own_pos_pos (x : Int64) : (0 : Int64) < own_pos x := by
  have h := (c_andSL x (9223372036854775807 : Int64)).2.2 (by decide)
  unfold own_pos
  split
  · decide
  · rename_i q
    rw [Int64.lt_iff_toInt_lt]
    have h2 : (0 : Int64).toInt = 0 := rfl
    have h3 : (x &&& (9223372036854775807 : Int64)).toInt ≠ 0 := fun e => q (Int64.toInt_inj.mp (by rw [e, h2]))
    omega
theorem own_succ {x : Int64} (h : (0 : Int64) < x) (q : ¬ x = (9223372036854775807 : Int64)) : (0 : Int64) < x + (1 : Int64) := by
  rw [Int64.lt_iff_toInt_lt] at h ⊢
  have h2 : (0 : Int64).toInt = 0 := rfl
  have h4 : (1 : Int64).toInt = 1 := rfl
  have h5 : ((9223372036854775807 : Int64)).toInt = 9223372036854775807 := rfl
  have h3 : x.toInt ≠ 9223372036854775807 := fun e => q (Int64.toInt_inj.mp (by rw [e, h5]))
  have h6 := Int64.toInt_lt x
  have h7 : (x + 1).toInt = x.toInt + 1 := by
    rw [Int64.toInt_add, h4]
    exact Int.bmod_eq_of_le (by omega) (by omega)
  rw [h7]; omega
theorem own_neL {x y : Int64} (h : x < y) : ¬ x = y := by
  rintro rfl; rw [Int64.lt_iff_toInt_lt] at h; omega
theorem own_eqL {x y : Int64} (h : ¬ x < y) (h' : ¬ y < x) : x = y := by
  rw [Int64.lt_iff_toInt_lt] at h h'; exact Int64.toInt_inj.mp (by omega)
def Q_rm1 (Z : State) (q1 : Int64) (h0 : Heap) (n0 : Nat) : Option Value → Heap → List Loc → Prop := fun v h L => v = some (.long (own_pos q1)) ∧ L = [] ∧ h = h0
set_option maxRecDepth 65536 in
set_option maxHeartbeats 40000000 in
theorem rm1 (l : Launch) (Z : State) (a0 : Array Value) (hw : ∀ d ∈ tables_1, d.before a0 Z = true) (ws : List Jvm.Cond) (q1 : Int64) (h0 : Heap) (n0 : Nat) (O : Old Z n0 h0) :
    MetFree l (⟨"com/example/ratchetbook/ratchetbook/bill/ProrationFactorIsOnePinLaw", "positive", "(J)J"⟩ : MethodName) (head1 (Jvm.Cond.code (⟨"com/example/ratchetbook/ratchetbook/bill/ProrationFactorIsOnePinLaw", "positive", "(J)J"⟩ : MethodName) method_3_code 4 (some .long) :: ws) ({ frames := 0, cells := 0, slots := 0, locals := 0 } : Room)) (fun a U => a = #[(.long q1)] ∧ Z.Warmed39 U.vm ∧ U.heap = h0) (fun _ _ _ _ _ => True) (fun _ U o U' => ∃ v L, o = .returned v ∧ (Q_rm1 Z q1 h0 n0) v U'.heap L ∧ FrameEnd U o U' L ({ frames := 0, cells := 0, slots := 0, locals := 0 } : Room).cells ({ frames := 0, cells := 0, slots := 0, locals := 0 } : Room).slots) := by
  refine MetFree.of_bodySF (plainFor_of_name pn_0) hisR ?_
  intro p e s m args below meth c s₁ Bd hml0 hP hK
  obtain ⟨rfl, hZ, hh⟩ := hP
  have hx := Bd.exec
  have hby := Bd.bytes
  have hml : c.maxLocals = 4 := hml0
  have hown : s.vm.findClass "com/example/ratchetbook/ratchetbook/bill/ProrationFactorIsOnePinLaw" = some m.cls := findClass_of_methodNamed Bd.named
  have hnm := (name_of_methodNamed Bd.named Bd.method).1
  have hlk := BodyLoose.notSynchronized Bd
  have X0 : Stand p l e ({ frames := 0, cells := 0, slots := 0, locals := 0 } : Room) s m #[(.long q1)] below meth c s₁ [] 0 0 := Stand.of_body Bd
  have e0 : s₁.heap = h0 := by rw [← hh, Bd.state]; rfl
  have N := Fr.nil n0
  obtain ⟨G, hG⟩ : ∃ G : State → JFrame → Prop, G = OwnG p e below s ({ frames := 0, cells := 0, slots := 0, locals := 0 } : Room).cells ({ frames := 0, cells := 0, slots := 0, locals := 0 } : Room).slots (Q_rm1 Z q1 h0 n0) := ⟨_, rfl⟩
  have gb : ∀ {T T' : State} {g g' : JFrame}, (∀ t, Steps p.tables e below (T'.setTop g') t → Steps p.tables e below (T.setTop g) t) → G T' g' → G T g := by subst hG; exact fun k h => own_by k h
  have go : ∀ {T : State} {locs : List Loc} {cells slots : Nat} {g : JFrame} {v : Option Value}, Stand p l e ({ frames := 0, cells := 0, slots := 0, locals := 0 } : Room) s m #[(.long q1)] below meth c T locs cells slots → (meth.sig.returnType = none → v = none) → (∀ fs, (∀ (f : JFrame) (acts : List Action), f.method = m → f.locked = none → f.entered = [] → (doReturn e (T.setTop f) acts v).1 = T.setFrames fs) → Steps p.tables e below (T.setTop g) (T.setFrames fs)) → (Q_rm1 Z q1 h0 n0) v T.heap locs → cells ≤ ({ frames := 0, cells := 0, slots := 0, locals := 0 } : Room).cells → slots ≤ ({ frames := 0, cells := 0, slots := 0, locals := 0 } : Room).slots → G T g := by subst hG; exact fun X h1 h2 h3 h4 h5 => own_out X hlk h1 h2 h3 h4 h5
  show OwnG p e below s ({ frames := 0, cells := 0, slots := 0, locals := 0 } : Room).cells ({ frames := 0, cells := 0, slots := 0, locals := 0 } : Room).slots (Q_rm1 Z q1 h0 n0) s₁ (entryFrame m #[(.long q1)] 4)
  rw [← hG, ef_rm1 m q1]
  clear hG
  show G s₁ (mkF m 0 #[.val (.long q1), .second, .unset, .unset] [])
  refine gb (fun _ k => XS.lloadN X0.here hx rfl (hb hby d1_0) rfl k) ?_
  show G s₁ (mkF m 1 #[jv q1, .second, .unset, .unset] [.long q1])
  refine gb (X0.ldc2Long hx hown (mvT hZ (ow hw 4 rfl)) (g := (mkF m 1 #[jv q1, .second, .unset, .unset] [.long q1])) rfl (hb hby d1_1)) ?_
  show G s₁ (mkF m 4 #[jv q1, .second, .unset, .unset] [.long 9223372036854775807, .long q1])
  refine gb (fun _ k => XS.land X0.here hx rfl (hb hby d1_4) rfl (XS.lstoreN X0.here hx rfl (hb hby d1_5) rfl (l' := #[jv q1, .second, jv (q1 &&& (9223372036854775807 : Int64)), .second]) rfl (XS.lloadN X0.here hx rfl (hb hby d1_6) rfl (XS.lconst X0.here hx rfl (hb hby d1_7) (XS.lcmp X0.here hx rfl (hb hby d1_8) rfl k))))) ?_
  show G s₁ (mkF m 9 #[jv q1, .second, jv (q1 &&& (9223372036854775807 : Int64)), .second] [.int (lcmpW (q1 &&& (9223372036854775807 : Int64)) (0 : Int64))])
  by_cases hc9 : (q1 &&& (9223372036854775807 : Int64)) = (0 : Int64)
  · skip
    refine gb (fun _ k => XS.ifNo X0.here hx rfl (hb hby d1_9) rfl ((if0 _ _).trans (teq ((own_eq _ _).mpr hc9)).2) k) ?_
    show G s₁ (mkF m 12 #[jv q1, .second, jv (q1 &&& (9223372036854775807 : Int64)), .second] [])
    refine gb (X0.ldc2Long hx hown (mvT hZ (ow hw 4 rfl)) (g := (mkF m 12 #[jv q1, .second, jv (q1 &&& (9223372036854775807 : Int64)), .second] [])) rfl (hb hby d1_12)) ?_
    show G s₁ (mkF m 15 #[jv q1, .second, jv (q1 &&& (9223372036854775807 : Int64)), .second] [.long 9223372036854775807])
    refine gb (fun _ k => XS.goto X0.here hx rfl (pc0 := 15) (pc' := 19) rfl (hb hby d1_15) (by decide) (by decide) k) ?_
    show G s₁ (mkF m 19 #[jv q1, .second, jv (q1 &&& (9223372036854775807 : Int64)), .second] [.long 9223372036854775807])
    exact go X0 (v := (some (.long (9223372036854775807 : Int64)))) (fun h => by rw [Bd.returns] at h; cases h) (fun fs hr => retOut X0 hx Bd.returns rfl (Or.inr (Or.inl ⟨rfl, rfl, _, rfl⟩)) (hb hby d1_19) hr) (⟨by simp [own_pos, hc9], rfl, e0⟩) (by decide) (by decide)
  · skip
    refine gb (fun _ k => XS.ifYes X0.here hx rfl (pc0 := 9) (pc' := 18) rfl (hb hby d1_9) rfl ((if0 _ _).trans (feq (fun q => hc9 ((own_eq _ _).mp q))).2) (by decide) (by decide) (XS.lloadN X0.here hx rfl (hb hby d1_18) rfl k)) ?_
    show G s₁ (mkF m 19 #[jv q1, .second, jv (q1 &&& (9223372036854775807 : Int64)), .second] [.long (q1 &&& (9223372036854775807 : Int64))])
    exact go X0 (v := (some (.long (q1 &&& (9223372036854775807 : Int64))))) (fun h => by rw [Bd.returns] at h; cases h) (fun fs hr => retOut X0 hx Bd.returns rfl (Or.inr (Or.inl ⟨rfl, rfl, _, rfl⟩)) (hb hby d1_19) hr) (⟨by simp [own_pos, hc9], rfl, e0⟩) (by decide) (by decide)
def Q_rm3 (Z : State) (a1 : Addr) (h0 : Heap) (n0 : Nat) : Option Value → Heap → List Loc → Prop := fun v h L => v = none ∧ L = [] ∧ h = h0
set_option maxRecDepth 65536 in
set_option maxHeartbeats 40000000 in
theorem rm3 (l : Launch) (Z : State) (a0 : Array Value) (hw : ∀ d ∈ tables_1, d.before a0 Z = true) (ws : List Jvm.Cond) (a1 : Addr) (h0 : Heap) (n0 : Nat) (O : Old Z n0 h0) :
    MetFree l (⟨"java/lang/Record", "<init>", "()V"⟩ : MethodName) (head1 (Jvm.Cond.code (⟨"java/lang/Record", "<init>", "()V"⟩ : MethodName) jdk_30_method_1_code 1 none :: ws) ({ frames := 1, cells := 0, slots := 0, locals := 12 } : Room)) (fun a U => a = #[(.ref a1)] ∧ Z.Warmed39 U.vm ∧ U.heap = h0) (fun _ _ _ _ _ => True) (fun _ U o U' => ∃ v L, o = .returned v ∧ (Q_rm3 Z a1 h0 n0) v U'.heap L ∧ FrameEnd U o U' L ({ frames := 1, cells := 0, slots := 0, locals := 12 } : Room).cells ({ frames := 1, cells := 0, slots := 0, locals := 12 } : Room).slots) := by
  refine MetFree.of_bodySF (plainFor_of_name pn_1) hisR ?_
  intro p e s m args below meth c s₁ Bd hml0 hP hK
  obtain ⟨rfl, hZ, hh⟩ := hP
  have hx := Bd.exec
  have hby := Bd.bytes
  have hml : c.maxLocals = 1 := hml0
  have hown : s.vm.findClass "java/lang/Record" = some m.cls := findClass_of_methodNamed Bd.named
  have hnm := (name_of_methodNamed Bd.named Bd.method).1
  have hlk := BodyLoose.notSynchronized Bd
  have X0 : Stand p l e ({ frames := 1, cells := 0, slots := 0, locals := 12 } : Room) s m #[(.ref a1)] below meth c s₁ [] 0 0 := Stand.of_body Bd
  have e0 : s₁.heap = h0 := by rw [← hh, Bd.state]; rfl
  have N := Fr.nil n0
  obtain ⟨G, hG⟩ : ∃ G : State → JFrame → Prop, G = OwnG p e below s ({ frames := 1, cells := 0, slots := 0, locals := 12 } : Room).cells ({ frames := 1, cells := 0, slots := 0, locals := 12 } : Room).slots (Q_rm3 Z a1 h0 n0) := ⟨_, rfl⟩
  have gb : ∀ {T T' : State} {g g' : JFrame}, (∀ t, Steps p.tables e below (T'.setTop g') t → Steps p.tables e below (T.setTop g) t) → G T' g' → G T g := by subst hG; exact fun k h => own_by k h
  have go : ∀ {T : State} {locs : List Loc} {cells slots : Nat} {g : JFrame} {v : Option Value}, Stand p l e ({ frames := 1, cells := 0, slots := 0, locals := 12 } : Room) s m #[(.ref a1)] below meth c T locs cells slots → (meth.sig.returnType = none → v = none) → (∀ fs, (∀ (f : JFrame) (acts : List Action), f.method = m → f.locked = none → f.entered = [] → (doReturn e (T.setTop f) acts v).1 = T.setFrames fs) → Steps p.tables e below (T.setTop g) (T.setFrames fs)) → (Q_rm3 Z a1 h0 n0) v T.heap locs → cells ≤ ({ frames := 1, cells := 0, slots := 0, locals := 12 } : Room).cells → slots ≤ ({ frames := 1, cells := 0, slots := 0, locals := 12 } : Room).slots → G T g := by subst hG; exact fun X h1 h2 h3 h4 h5 => own_out X hlk h1 h2 h3 h4 h5
  show OwnG p e below s ({ frames := 1, cells := 0, slots := 0, locals := 12 } : Room).cells ({ frames := 1, cells := 0, slots := 0, locals := 12 } : Room).slots (Q_rm3 Z a1 h0 n0) s₁ (entryFrame m #[(.ref a1)] 1)
  rw [← hG, ef_rm3 m a1]
  clear hG
  show G s₁ (mkF m 0 #[.val (.ref a1)] [])
  refine gb (fun _ k => XS.aloadN X0.here hx rfl (hb hby d3_0) rfl rfl k) ?_
  show G s₁ (mkF m 1 #[rv a1] [.ref a1])
  obtain ⟨T1, X1, e1, st1⟩ := initO X0 hx hZ hown (ow hw 16 rfl) (ow hw 17 rfl) (ow hw 18 rfl) e0 (g := (mkF m 1 #[rv a1] [.ref a1])) rfl (by rw [hml]; rfl) rfl (hb hby d3_1) (by decide) (W := 0) (by show 2 * 0 + _ ≤ _; exact Nat.le_of_eq rfl) (by decide)
  refine gb st1 ?_
  show G T1 (mkF m 4 #[rv a1] [])
  exact go X1 (v := none) (fun _ => rfl) (fun fs hr => X1.returnOut hx Bd.returns (hb hby d3_4) hr) (⟨rfl, rfl, e1⟩) (by decide) (by decide)
def Q_rm2 (Z : State) (a1 : Addr) (q1 q2 : Int64) (h0 : Heap) (n0 : Nat) : Option Value → Heap → List Loc → Prop := fun v h L => v = none ∧ Fr n0 L ∧ Keep h0 h [a1] ∧ Exa Z h a1 "com/example/ratchetbook/ratchetbook/bill/ProrationFactor" ∧ Fld Z h a1 "com/example/ratchetbook/ratchetbook/bill/ProrationFactor" "days" "J" (.long q1) ∧ Fld Z h a1 "com/example/ratchetbook/ratchetbook/bill/ProrationFactor" "standardDays" "J" (.long q2)
set_option maxRecDepth 65536 in
set_option maxHeartbeats 40000000 in
theorem rm2 (l : Launch) (Z : State) (a0 : Array Value) (hw : ∀ d ∈ tables_1, d.before a0 Z = true) (ws : List Jvm.Cond) (a1 : Addr) (q1 q2 : Int64) (h0 : Heap) (n0 : Nat) (O : Old Z n0 h0) (E_a1 : Exa Z h0 a1 "com/example/ratchetbook/ratchetbook/bill/ProrationFactor") (F_days : Fld Z h0 a1 "com/example/ratchetbook/ratchetbook/bill/ProrationFactor" "days" "J" (.long (0 : Int64))) (F_sd : Fld Z h0 a1 "com/example/ratchetbook/ratchetbook/bill/ProrationFactor" "standardDays" "J" (.long (0 : Int64))) (g_a1 : n0 ≤ a1) (h1 : (0 : Int64) < q1) (h2 : (0 : Int64) < q2) :
    MetFree l (⟨"com/example/ratchetbook/ratchetbook/bill/ProrationFactor", "<init>", "(JJ)V"⟩ : MethodName) (head1 (Jvm.Cond.code (⟨"com/example/ratchetbook/ratchetbook/bill/ProrationFactor", "<init>", "(JJ)V"⟩ : MethodName) prog_15_method_1_code 5 none :: ws) ({ frames := 2, cells := 0, slots := 0, locals := 24 } : Room)) (fun a U => a = #[(.ref a1), (.long q1), (.long q2)] ∧ Z.Warmed39 U.vm ∧ U.heap = h0) (fun _ _ _ _ _ => True) (fun _ U o U' => ∃ v L, o = .returned v ∧ (Q_rm2 Z a1 q1 q2 h0 n0) v U'.heap L ∧ FrameEnd U o U' L ({ frames := 2, cells := 0, slots := 0, locals := 24 } : Room).cells ({ frames := 2, cells := 0, slots := 0, locals := 24 } : Room).slots) := by
  refine MetFree.of_bodySF (plainFor_of_name pn_2) hisR ?_
  intro p e s m args below meth c s₁ Bd hml0 hP hK
  obtain ⟨rfl, hZ, hh⟩ := hP
  have hx := Bd.exec
  have hby := Bd.bytes
  have hml : c.maxLocals = 5 := hml0
  have hown : s.vm.findClass "com/example/ratchetbook/ratchetbook/bill/ProrationFactor" = some m.cls := findClass_of_methodNamed Bd.named
  have hnm := (name_of_methodNamed Bd.named Bd.method).1
  have hlk := BodyLoose.notSynchronized Bd
  have X0 : Stand p l e ({ frames := 2, cells := 0, slots := 0, locals := 24 } : Room) s m #[(.ref a1), (.long q1), (.long q2)] below meth c s₁ [] 0 0 := Stand.of_body Bd
  have e0 : s₁.heap = h0 := by rw [← hh, Bd.state]; rfl
  have N := Fr.nil n0
  have K := Keep.refl h0 [a1]
  obtain ⟨G, hG⟩ : ∃ G : State → JFrame → Prop, G = OwnG p e below s ({ frames := 2, cells := 0, slots := 0, locals := 24 } : Room).cells ({ frames := 2, cells := 0, slots := 0, locals := 24 } : Room).slots (Q_rm2 Z a1 q1 q2 h0 n0) := ⟨_, rfl⟩
  have gb : ∀ {T T' : State} {g g' : JFrame}, (∀ t, Steps p.tables e below (T'.setTop g') t → Steps p.tables e below (T.setTop g) t) → G T' g' → G T g := by subst hG; exact fun k h => own_by k h
  have go : ∀ {T : State} {locs : List Loc} {cells slots : Nat} {g : JFrame} {v : Option Value}, Stand p l e ({ frames := 2, cells := 0, slots := 0, locals := 24 } : Room) s m #[(.ref a1), (.long q1), (.long q2)] below meth c T locs cells slots → (meth.sig.returnType = none → v = none) → (∀ fs, (∀ (f : JFrame) (acts : List Action), f.method = m → f.locked = none → f.entered = [] → (doReturn e (T.setTop f) acts v).1 = T.setFrames fs) → Steps p.tables e below (T.setTop g) (T.setFrames fs)) → (Q_rm2 Z a1 q1 q2 h0 n0) v T.heap locs → cells ≤ ({ frames := 2, cells := 0, slots := 0, locals := 24 } : Room).cells → slots ≤ ({ frames := 2, cells := 0, slots := 0, locals := 24 } : Room).slots → G T g := by subst hG; exact fun X h1 h2 h3 h4 h5 => own_out X hlk h1 h2 h3 h4 h5
  show OwnG p e below s ({ frames := 2, cells := 0, slots := 0, locals := 24 } : Room).cells ({ frames := 2, cells := 0, slots := 0, locals := 24 } : Room).slots (Q_rm2 Z a1 q1 q2 h0 n0) s₁ (entryFrame m #[(.ref a1), (.long q1), (.long q2)] 5)
  rw [← hG, ef_rm2 m a1 q1 q2]
  clear hG
  show G s₁ (mkF m 0 #[.val (.ref a1), .val (.long q1), .second, .val (.long q2), .second] [])
  refine gb (fun _ k => XS.aloadN X0.here hx rfl (hb hby d2_0) rfl rfl k) ?_
  show G s₁ (mkF m 1 #[rv a1, jv q1, .second, jv q2, .second] [.ref a1])
  obtain ⟨_, _, ⟨T1, Lz1, kz1, nz1⟩, -, X1, ⟨Lc1, hQ1, lq1, yq1, zq1⟩, st1⟩ := X0.specialBack hx (y := (⟨"java/lang/Record", "<init>", "()V"⟩ : MethodName)) rfl hown (mvT hZ (ow hw 11 rfl)) (mvT hZ (ow hw 12 rfl)) (mvT hZ (ow hw 15 rfl)) (by decide) (backOf (W := 0) (rm3 l Z a0 hw [] a1 h0 n0 O) hZ (ow hw 15 rfl) (ow hw 14 rfl) (by decide) (by decide)) (g := (mkF m 1 #[rv a1, jv q1, .second, jv q2, .second] [.ref a1])) rfl (by rw [hml]; rfl) (Steps.refl _) (a := a1) (argsL := []) (rest := []) (lenOf pd_0 rfl) rfl (by show 2 * 0 + _ ≤ _; exact Nat.le_of_eq rfl) (hb hby d2_1) (fun _ _ => ⟨rfl, e0, (by decide : 0 + 0 ≤ _), (by decide : 0 + 0 ≤ _)⟩)
  dsimp only [Pt.U, Pt.locs, Pt.cells, Pt.slots] at X1 lq1 yq1 zq1 st1 hQ1
  subst lq1 yq1 zq1
  obtain ⟨rfl, rfl, e1⟩ := hQ1
  try rw [List.append_nil] at X1
  refine gb (fun _ k => st1.trans k) ?_
  show G T1 (mkF m 4 #[rv a1, jv q1, .second, jv q2, .second] [])
  refine gb (fun _ k => XS.lloadN X1.here hx rfl (hb hby d2_4) rfl (XS.lconst X1.here hx rfl (hb hby d2_5) (XS.lcmp X1.here hx rfl (hb hby d2_6) rfl (XS.ifNo X1.here hx rfl (hb hby d2_7) rfl ((if0 _ _).trans (tlt ((own_gt _ _).mpr h1)).2.2.2) (XS.lloadN X1.here hx rfl (hb hby d2_10) rfl (XS.lconst X1.here hx rfl (hb hby d2_11) k)))))) ?_
  show G T1 (mkF m 12 #[rv a1, jv q1, .second, jv q2, .second] [.long 0, .long q2])
  refine gb (fun _ k => XS.lcmp X1.here hx rfl (hb hby d2_12) rfl (XS.ifYes X1.here hx rfl (pc0 := 13) (pc' := 31) rfl (hb hby d2_13) rfl ((if0 _ _).trans (tlt ((own_gt _ _).mpr h2)).2.2.1) (by decide) (by decide) (XS.aloadN X1.here hx rfl (hb hby d2_31) rfl rfl (XS.lloadN X1.here hx rfl (hb hby d2_32) rfl k)))) ?_
  show G T1 (mkF m 33 #[rv a1, jv q1, .second, jv q2, .second] [.long q1, .ref a1])
  obtain ⟨T2, h2, X2, e2, W2, st2⟩ := putF X1 hx hZ hown (host := "") (Or.inl (ow hw 19 rfl)) Via.refl e1 F_days E_a1 (Or.inr ⟨(ow hw 20 rfl), rfl, hnm⟩) (ow hw 6 rfl) (ty := .long) (by decide) rfl rfl (g := (mkF m 33 #[rv a1, jv q1, .second, jv q2, .second] [.long q1, .ref a1])) rfl rfl (hb hby d2_33)
  refine gb st2 ?_
  have F_days := F_days.same W2
  have E_a1 := E_a1.wr W2
  have F_sd := F_sd.other W2 (Or.inr (slot_ne (Or.inr (ow hw 22 rfl)) (Or.inr (ow hw 20 rfl)) (by decide) (t := .long) (t' := .long) (by decide) (by decide)))
  have O := O.wr W2 g_a1
  have K := K.wr W2 (Or.inl (List.mem_of_getElem? (i := 0) rfl))
  have N := Fr.snoc X2 N g_a1
  show G T2 (mkF m 36 #[rv a1, jv q1, .second, jv q2, .second] [])
  refine gb (fun _ k => XS.aloadN X2.here hx rfl (hb hby d2_36) rfl rfl (XS.lloadN X2.here hx rfl (hb hby d2_37) rfl k)) ?_
  show G T2 (mkF m 38 #[rv a1, jv q1, .second, jv q2, .second] [.long q2, .ref a1])
  obtain ⟨T3, h3, X3, e3, W3, st3⟩ := putF X2 hx hZ hown (host := "") (Or.inl (ow hw 21 rfl)) Via.refl e2 F_sd E_a1 (Or.inr ⟨(ow hw 22 rfl), rfl, hnm⟩) (ow hw 6 rfl) (ty := .long) (by decide) rfl rfl (g := (mkF m 38 #[rv a1, jv q1, .second, jv q2, .second] [.long q2, .ref a1])) rfl rfl (hb hby d2_38)
  refine gb st3 ?_
  have F_sd := F_sd.same W3
  have E_a1 := E_a1.wr W3
  have F_days := F_days.other W3 (Or.inr (slot_ne (Or.inr (ow hw 20 rfl)) (Or.inr (ow hw 22 rfl)) (by decide) (t := .long) (t' := .long) (by decide) (by decide)))
  have O := O.wr W3 g_a1
  have K := K.wr W3 (Or.inl (List.mem_of_getElem? (i := 0) rfl))
  have N := Fr.snoc X3 N g_a1
  show G T3 (mkF m 41 #[rv a1, jv q1, .second, jv q2, .second] [])
  exact go X3 (v := none) (fun _ => rfl) (fun fs hr => X3.returnOut hx Bd.returns (hb hby d2_41) hr) (by rw [e3]; exact ⟨rfl, N, K, E_a1, F_days, F_sd⟩) (by decide) (by decide)
def Q_rm5 (Z : State) (a1 : Addr) (q1 q2 : Int64) (h0 : Heap) (n0 : Nat) : Option Value → Heap → List Loc → Prop := fun v h L => v = some (.int (if q1 = q2 then 1 else 0)) ∧ L = [] ∧ h = h0
set_option maxRecDepth 65536 in
set_option maxHeartbeats 40000000 in
theorem rm5 (l : Launch) (Z : State) (a0 : Array Value) (hw : ∀ d ∈ tables_1, d.before a0 Z = true) (ws : List Jvm.Cond) (a1 : Addr) (q1 q2 : Int64) (h0 : Heap) (n0 : Nat) (O : Old Z n0 h0) (F_days : Fld Z h0 a1 "com/example/ratchetbook/ratchetbook/bill/ProrationFactor" "days" "J" (.long q1)) (F_sd : Fld Z h0 a1 "com/example/ratchetbook/ratchetbook/bill/ProrationFactor" "standardDays" "J" (.long q2)) :
    MetFree l (⟨"com/example/ratchetbook/ratchetbook/bill/ProrationFactor", "isOne", "()Z"⟩ : MethodName) (head1 (Jvm.Cond.code (⟨"com/example/ratchetbook/ratchetbook/bill/ProrationFactor", "isOne", "()Z"⟩ : MethodName) prog_15_method_2_code 1 (some .boolean) :: ws) ({ frames := 0, cells := 0, slots := 0, locals := 0 } : Room)) (fun a U => a = #[(.ref a1)] ∧ Z.Warmed39 U.vm ∧ U.heap = h0) (fun _ _ _ _ _ => True) (fun _ U o U' => ∃ v L, o = .returned v ∧ (Q_rm5 Z a1 q1 q2 h0 n0) v U'.heap L ∧ FrameEnd U o U' L ({ frames := 0, cells := 0, slots := 0, locals := 0 } : Room).cells ({ frames := 0, cells := 0, slots := 0, locals := 0 } : Room).slots) := by
  refine MetFree.of_bodySF (plainFor_of_name pn_2) hisR ?_
  intro p e s m args below meth c s₁ Bd hml0 hP hK
  obtain ⟨rfl, hZ, hh⟩ := hP
  have hx := Bd.exec
  have hby := Bd.bytes
  have hml : c.maxLocals = 1 := hml0
  have hown : s.vm.findClass "com/example/ratchetbook/ratchetbook/bill/ProrationFactor" = some m.cls := findClass_of_methodNamed Bd.named
  have hnm := (name_of_methodNamed Bd.named Bd.method).1
  have hlk := BodyLoose.notSynchronized Bd
  have X0 : Stand p l e ({ frames := 0, cells := 0, slots := 0, locals := 0 } : Room) s m #[(.ref a1)] below meth c s₁ [] 0 0 := Stand.of_body Bd
  have e0 : s₁.heap = h0 := by rw [← hh, Bd.state]; rfl
  have N := Fr.nil n0
  obtain ⟨G, hG⟩ : ∃ G : State → JFrame → Prop, G = OwnG p e below s ({ frames := 0, cells := 0, slots := 0, locals := 0 } : Room).cells ({ frames := 0, cells := 0, slots := 0, locals := 0 } : Room).slots (Q_rm5 Z a1 q1 q2 h0 n0) := ⟨_, rfl⟩
  have gb : ∀ {T T' : State} {g g' : JFrame}, (∀ t, Steps p.tables e below (T'.setTop g') t → Steps p.tables e below (T.setTop g) t) → G T' g' → G T g := by subst hG; exact fun k h => own_by k h
  have go : ∀ {T : State} {locs : List Loc} {cells slots : Nat} {g : JFrame} {v : Option Value}, Stand p l e ({ frames := 0, cells := 0, slots := 0, locals := 0 } : Room) s m #[(.ref a1)] below meth c T locs cells slots → (meth.sig.returnType = none → v = none) → (∀ fs, (∀ (f : JFrame) (acts : List Action), f.method = m → f.locked = none → f.entered = [] → (doReturn e (T.setTop f) acts v).1 = T.setFrames fs) → Steps p.tables e below (T.setTop g) (T.setFrames fs)) → (Q_rm5 Z a1 q1 q2 h0 n0) v T.heap locs → cells ≤ ({ frames := 0, cells := 0, slots := 0, locals := 0 } : Room).cells → slots ≤ ({ frames := 0, cells := 0, slots := 0, locals := 0 } : Room).slots → G T g := by subst hG; exact fun X h1 h2 h3 h4 h5 => own_out X hlk h1 h2 h3 h4 h5
  show OwnG p e below s ({ frames := 0, cells := 0, slots := 0, locals := 0 } : Room).cells ({ frames := 0, cells := 0, slots := 0, locals := 0 } : Room).slots (Q_rm5 Z a1 q1 q2 h0 n0) s₁ (entryFrame m #[(.ref a1)] 1)
  rw [← hG, ef_rm5 m a1]
  clear hG
  show G s₁ (mkF m 0 #[.val (.ref a1)] [])
  refine gb (fun _ k => XS.aloadN X0.here hx rfl (hb hby d5_0) rfl rfl k) ?_
  show G s₁ (mkF m 1 #[rv a1] [.ref a1])
  obtain ⟨T1, X1, e1, st1⟩ := getF X0 hx hZ hown (host := "") (Or.inl (ow hw 19 rfl)) Via.refl e0 F_days (g := (mkF m 1 #[rv a1] [.ref a1])) rfl rfl (hb hby d5_1)
  refine gb st1 ?_
  show G T1 (mkF m 4 #[rv a1] [.long q1])
  refine gb (fun _ k => XS.aloadN X1.here hx rfl (hb hby d5_4) rfl rfl k) ?_
  show G T1 (mkF m 5 #[rv a1] [.ref a1, .long q1])
  obtain ⟨T2, X2, e2, st2⟩ := getF X1 hx hZ hown (host := "") (Or.inl (ow hw 21 rfl)) Via.refl e1 F_sd (g := (mkF m 5 #[rv a1] [.ref a1, .long q1])) rfl rfl (hb hby d5_5)
  refine gb st2 ?_
  show G T2 (mkF m 8 #[rv a1] [.long q2, .long q1])
  refine gb (fun _ k => XS.lcmp X2.here hx rfl (hb hby d5_8) rfl k) ?_
  show G T2 (mkF m 9 #[rv a1] [.int (lcmpW q1 q2)])
  by_cases hc9 : q1 = q2
  · skip
    refine gb (fun _ k => XS.ifNo X2.here hx rfl (hb hby d5_9) rfl ((if0 _ _).trans (teq ((own_eq _ _).mpr hc9)).2) (XS.iconst X2.here hx rfl (hb hby d5_12) (XS.goto X2.here hx rfl (pc0 := 13) (pc' := 17) rfl (hb hby d5_13) (by decide) (by decide) k))) ?_
    show G T2 (mkF m 17 #[rv a1] [.int 1])
    exact go X2 (v := (some (.int (1 : Int32)))) (fun h => by rw [Bd.returns] at h; cases h) (fun fs hr => retOut X2 hx Bd.returns rfl (Or.inl ⟨rfl, by simp, _, rfl⟩) (hb hby d5_17) hr) (⟨by simp [hc9], rfl, e2⟩) (by decide) (by decide)
  · skip
    refine gb (fun _ k => XS.ifYes X2.here hx rfl (pc0 := 9) (pc' := 16) rfl (hb hby d5_9) rfl ((if0 _ _).trans (feq (fun q => hc9 ((own_eq _ _).mp q))).2) (by decide) (by decide) (XS.iconst X2.here hx rfl (hb hby d5_16) k)) ?_
    show G T2 (mkF m 17 #[rv a1] [.int 0])
    exact go X2 (v := (some (.int (0 : Int32)))) (fun h => by rw [Bd.returns] at h; cases h) (fun fs hr => retOut X2 hx Bd.returns rfl (Or.inl ⟨rfl, by simp, _, rfl⟩) (hb hby d5_17) hr) (⟨by simp [hc9], rfl, e2⟩) (by decide) (by decide)
def Q_rm0 (Z : State) (i0 i1 : Int64) (i2 : Int32) (h0 : Heap) (n0 : Nat) (w_ONE : Addr) : Option Value → Heap → List Loc → Prop := fun v h L => v = some (.int 1) ∧ Fr n0 L
set_option maxRecDepth 65536 in
set_option maxHeartbeats 40000000 in
theorem rm0 (l : Launch) (Z : State) (a0 : Array Value) (hw : ∀ d ∈ tables_1, d.before a0 Z = true) (ws : List Jvm.Cond) (i0 i1 : Int64) (i2 : Int32) (h0 : Heap) (n0 : Nat) (O : Old Z n0 h0) (w_ONE : Addr) (S_ONE : Sta Z Z.heap "com/example/ratchetbook/ratchetbook/bill/ProrationFactor" "ONE" "Lcom/example/ratchetbook/ratchetbook/bill/ProrationFactor;" (.ref w_ONE)) (E_ONE : Exa Z Z.heap w_ONE "com/example/ratchetbook/ratchetbook/bill/ProrationFactor") (F_days_ONE : Fld Z Z.heap w_ONE "com/example/ratchetbook/ratchetbook/bill/ProrationFactor" "days" "J" (.long (1 : Int64))) (F_standardDays_ONE : Fld Z Z.heap w_ONE "com/example/ratchetbook/ratchetbook/bill/ProrationFactor" "standardDays" "J" (.long (1 : Int64))) :
    MetFree l x (head1 (Jvm.Cond.code x code maxLocals ret :: ws) room_1) (fun a U => a = #[(.long i0), (.long i1), (.int i2)] ∧ Z.Warmed39 U.vm ∧ U.heap = h0 ∧ U = Z) (fun _ _ _ _ _ => True) (fun _ U o U' => ∃ v L, o = .returned v ∧ (Q_rm0 Z i0 i1 i2 h0 n0 w_ONE) v U'.heap L ∧ FrameEnd U o U' L 1 2) := by
  refine MetFree.of_bodySF (plainFor_of_name pn_0) hisR ?_
  intro p e s m args below meth c s₁ Bd hml0 hP hK
  obtain ⟨rfl, hZ, hh, hUZ⟩ := hP
  have hx := Bd.exec
  have hby := Bd.bytes
  have hml : c.maxLocals = 12 := hml0
  have hown : s.vm.findClass "com/example/ratchetbook/ratchetbook/bill/ProrationFactorIsOnePinLaw" = some m.cls := findClass_of_methodNamed Bd.named
  have hnm := (name_of_methodNamed Bd.named Bd.method).1
  have hlk := BodyLoose.notSynchronized Bd
  have X0 : Stand p l e room_1 s m #[(.long i0), (.long i1), (.int i2)] below meth c s₁ [] 0 0 := Stand.of_body Bd
  have e0 : s₁.heap = h0 := by rw [← hh, Bd.state]; rfl
  have N := Fr.nil n0
  have O0 := O
  obtain ⟨G, hG⟩ : ∃ G : State → JFrame → Prop, G = OwnG p e below s 1 2 (Q_rm0 Z i0 i1 i2 h0 n0 w_ONE) := ⟨_, rfl⟩
  have gb : ∀ {T T' : State} {g g' : JFrame}, (∀ t, Steps p.tables e below (T'.setTop g') t → Steps p.tables e below (T.setTop g) t) → G T' g' → G T g := by subst hG; exact fun k h => own_by k h
  have go : ∀ {T : State} {locs : List Loc} {cells slots : Nat} {g : JFrame} {v : Option Value}, Stand p l e room_1 s m #[(.long i0), (.long i1), (.int i2)] below meth c T locs cells slots → (meth.sig.returnType = none → v = none) → (∀ fs, (∀ (f : JFrame) (acts : List Action), f.method = m → f.locked = none → f.entered = [] → (doReturn e (T.setTop f) acts v).1 = T.setFrames fs) → Steps p.tables e below (T.setTop g) (T.setFrames fs)) → (Q_rm0 Z i0 i1 i2 h0 n0 w_ONE) v T.heap locs → cells ≤ 1 → slots ≤ 2 → G T g := by subst hG; exact fun X h1 h2 h3 h4 h5 => own_out X hlk h1 h2 h3 h4 h5
  show OwnG p e below s 1 2 (Q_rm0 Z i0 i1 i2 h0 n0 w_ONE) s₁ (entryFrame m #[(.long i0), (.long i1), (.int i2)] maxLocals)
  rw [← hG, ef_rm0 m i0 i1 i2]
  clear hG
  show G s₁ (mkF m 0 #[.val (.long i0), .second, .val (.long i1), .second, .val (.int i2), .unset, .unset, .unset, .unset, .unset, .unset, .unset] [])
  refine gb (fun _ k => XS.lloadN X0.here hx rfl (hb hby at_0) rfl k) ?_
  show G s₁ (mkF m 1 #[jv i0, .second, jv i1, .second, iv i2, .unset, .unset, .unset, .unset, .unset, .unset, .unset] [.long i0])
  obtain ⟨_, _, ⟨T1, Lz1, kz1, nz1⟩, -, X1, ⟨Lc1, hQ1, lq1, yq1, zq1⟩, st1⟩ := Jvm.LawKit.callS X0 hx (y := (⟨"com/example/ratchetbook/ratchetbook/bill/ProrationFactorIsOnePinLaw", "positive", "(J)J"⟩ : MethodName)) hown (mvT hZ (ow hw 0 rfl)) (mvT hZ (ow hw 1 rfl)) (mvT hZ (ow hw 2 rfl)) (mvT hZ (ow hw 3 rfl)) (by decide) (backOf (W := 0) (rm1 l Z a0 hw [] i0 h0 n0 O) hZ (ow hw 3 rfl) (ow hw 2 rfl) (by decide) (by decide)) (g := (mkF m 1 #[jv i0, .second, jv i1, .second, iv i2, .unset, .unset, .unset, .unset, .unset, .unset, .unset] [.long i0])) rfl (by rw [hml]; rfl) (argsL := [(.long i0)]) (rest := []) (lenOf pd_1 rfl) rfl (by show 2 * 0 + _ ≤ _; exact Nat.le_of_eq rfl) (hb hby at_1) (fun _ _ => ⟨rfl, e0, (by decide : 0 + 0 ≤ _), (by decide : 0 + 0 ≤ _)⟩)
  dsimp only [Pt.U, Pt.locs, Pt.cells, Pt.slots] at X1 lq1 yq1 zq1 st1 hQ1
  subst lq1 yq1 zq1
  obtain ⟨rfl, rfl, e1⟩ := hQ1
  try rw [List.append_nil] at X1
  refine gb st1 ?_
  show G T1 (mkF m 4 #[jv i0, .second, jv i1, .second, iv i2, .unset, .unset, .unset, .unset, .unset, .unset, .unset] [.long (own_pos i0)])
  refine gb (fun _ k => XS.lstore X1.here hx rfl (hb hby at_4) rfl (l' := #[jv i0, .second, jv i1, .second, iv i2, jv (own_pos i0), .second, .unset, .unset, .unset, .unset, .unset]) rfl (XS.iload X1.here hx rfl (hb hby at_6) rfl (XS.iconst X1.here hx rfl (hb hby at_8) (XS.iand X1.here hx rfl (hb hby at_9) rfl (XS.istore X1.here hx rfl (hb hby at_10) rfl (l' := #[jv i0, .second, jv i1, .second, iv i2, jv (own_pos i0), .second, iv (i2 &&& (3 : Int32)), .unset, .unset, .unset, .unset]) rfl k))))) ?_
  show G T1 (mkF m 12 #[jv i0, .second, jv i1, .second, iv i2, jv (own_pos i0), .second, iv (i2 &&& (3 : Int32)), .unset, .unset, .unset, .unset] [])
  have J2 : ∀ (T2 : State) (locs2 : List Loc) (X2 : Stand p l e room_1 s m #[(.long i0), (.long i1), (.int i2)] below meth c T2 locs2 0 0) (N : Fr n0 locs2) (e2 : T2.heap = h0)  (s1 : Int64) (hs1 : (0 : Int64) < s1), G T2 (mkF m 62 #[jv i0, .second, jv i1, .second, iv i2, jv (own_pos i0), .second, iv (i2 &&& (3 : Int32)), jv s1, .second, .unset, .unset] []) := by
    intro T2 locs2 X2 N e2  s1 hs1
    show G T2 (mkF m 62 #[jv i0, .second, jv i1, .second, iv i2, jv (own_pos i0), .second, iv (i2 &&& (3 : Int32)), jv s1, .second, .unset, .unset] [])
    obtain ⟨T3, h3, X3, e3, E3, A3, D3, U3, st3⟩ := newO X2 hx hZ hown (ow hw 5 rfl) (ow hw 6 rfl) (ow hw 7 rfl) e2 (g := (mkF m 62 #[jv i0, .second, jv i1, .second, iv i2, jv (own_pos i0), .second, iv (i2 &&& (3 : Int32)), jv s1, .second, .unset, .unset] [])) rfl (hb hby at_62) (by decide) (by decide)
    obtain ⟨b3, g3⟩ : ∃ z, z = h0.size := ⟨_, rfl⟩
    rw [← g3] at A3 D3 U3 st3
    have g_b3 : n0 ≤ b3 := Nat.le_trans (by have := O.2.1; rw [O.1] at this; exact this) (Nat.le_of_eq g3.symm)
    have O := O.ext E3
    have E_b3 := A3
    have F_days_b3 : Fld Z h3 b3 "com/example/ratchetbook/ratchetbook/bill/ProrationFactor" "days" "J" (.long (0 : Int64)) := D3 (Or.inr (ow hw 20 rfl)) (ty := .long) (by decide)
    have F_standardDays_b3 : Fld Z h3 b3 "com/example/ratchetbook/ratchetbook/bill/ProrationFactor" "standardDays" "J" (.long (0 : Int64)) := D3 (Or.inr (ow hw 22 rfl)) (ty := .long) (by decide)
    refine gb st3 ?_
    show G T3 (mkF m 65 #[jv i0, .second, jv i1, .second, iv i2, jv (own_pos i0), .second, iv (i2 &&& (3 : Int32)), jv s1, .second, .unset, .unset] [.ref b3])
    refine gb (fun _ k => XS.dup X3.here hx rfl (hb hby at_65) rfl rfl (XS.lload X3.here hx rfl (hb hby at_66) rfl (XS.lload X3.here hx rfl (hb hby at_68) rfl k))) ?_
    show G T3 (mkF m 70 #[jv i0, .second, jv i1, .second, iv i2, jv (own_pos i0), .second, iv (i2 &&& (3 : Int32)), jv s1, .second, .unset, .unset] [.long s1, .long (own_pos i0), .ref b3, .ref b3])
    obtain ⟨_, _, ⟨T4, Lz4, kz4, nz4⟩, -, X4, ⟨Lc4, hQ4, lq4, yq4, zq4⟩, st4⟩ := X3.specialBack hx (y := (⟨"com/example/ratchetbook/ratchetbook/bill/ProrationFactor", "<init>", "(JJ)V"⟩ : MethodName)) rfl hown (mvT hZ (ow hw 8 rfl)) (mvT hZ (ow hw 9 rfl)) (mvT hZ (ow hw 10 rfl)) (by decide) (backOf (W := 1) (rm2 l Z a0 hw [] b3 (own_pos i0) s1 h3 n0 O E_b3 F_days_b3 F_standardDays_b3 g_b3 (own_pos_pos _) hs1) hZ (ow hw 10 rfl) (ow hw 7 rfl) (by decide) (by decide)) (g := (mkF m 70 #[jv i0, .second, jv i1, .second, iv i2, jv (own_pos i0), .second, iv (i2 &&& (3 : Int32)), jv s1, .second, .unset, .unset] [.long s1, .long (own_pos i0), .ref b3, .ref b3])) rfl (by rw [hml]; rfl) (Steps.refl _) (a := b3) (argsL := [(.long (own_pos i0)), (.long s1)]) (rest := [(.ref b3)]) (lenOf pd_2 rfl) rfl (by show 2 * 0 + _ ≤ _; exact Nat.le_of_eq rfl) (hb hby at_70) (fun _ _ => ⟨rfl, e3, (by decide : 1 + 0 ≤ _), (by decide : 2 + 0 ≤ _)⟩)
    dsimp only [Pt.U, Pt.locs, Pt.cells, Pt.slots] at X4 lq4 yq4 zq4 st4 hQ4
    subst lq4 yq4 zq4
    obtain ⟨h4, e4⟩ : ∃ z, z = T4.heap := ⟨_, rfl⟩
    rw [← e4] at hQ4
    replace e4 := e4.symm
    obtain ⟨rfl, Nq4, Kq4, hR4⟩ := hQ4
    have N := Fr.app N Nq4
    have E_b3 := E_b3.keep Kq4
    obtain ⟨E_b3, F_days_b3, F_standardDays_b3⟩ := hR4
    have O := O.keep Kq4 (allS g_b3 all0)
    refine gb (fun _ k => st4.trans k) ?_
    show G T4 (mkF m 73 #[jv i0, .second, jv i1, .second, iv i2, jv (own_pos i0), .second, iv (i2 &&& (3 : Int32)), jv s1, .second, .unset, .unset] [.ref b3])
    refine gb (fun _ k => XS.astore X4.here hx rfl (hb hby at_73) rfl rfl (l' := #[jv i0, .second, jv i1, .second, iv i2, jv (own_pos i0), .second, iv (i2 &&& (3 : Int32)), jv s1, .second, rv b3, .unset]) rfl (XS.lload X4.here hx rfl (hb hby at_75) rfl (XS.lload X4.here hx rfl (hb hby at_77) rfl (XS.lcmp X4.here hx rfl (hb hby at_79) rfl k)))) ?_
    show G T4 (mkF m 80 #[jv i0, .second, jv i1, .second, iv i2, jv (own_pos i0), .second, iv (i2 &&& (3 : Int32)), jv s1, .second, rv b3, .unset] [.int (lcmpW (own_pos i0) s1)])
    by_cases hc80 : (own_pos i0) < s1
    · skip
      refine gb (fun _ k => XS.ifYes X4.here hx rfl (pc0 := 80) (pc' := 95) rfl (hb hby at_80) rfl ((if0 _ _).trans (tlt ((own_lt _ _).mpr hc80)).1) (by decide) (by decide) (XS.iconst X4.here hx rfl (hb hby at_95) (XS.istore X4.here hx rfl (hb hby at_96) rfl (l' := #[jv i0, .second, jv i1, .second, iv i2, jv (own_pos i0), .second, iv (i2 &&& (3 : Int32)), jv s1, .second, rv b3, iv 0]) rfl (XS.aload X4.here hx rfl (hb hby at_98) rfl rfl k)))) ?_
      show G T4 (mkF m 100 #[jv i0, .second, jv i1, .second, iv i2, jv (own_pos i0), .second, iv (i2 &&& (3 : Int32)), jv s1, .second, rv b3, iv 0] [.ref b3])
      obtain ⟨cq5, kq5, q5a, q5b, q5c⟩ := isOf hZ e4 E_b3
      obtain ⟨_, _, ⟨T5, Lz5, kz5, nz5⟩, -, X5, ⟨Lc5, hQ5, lq5, yq5, zq5⟩, st5⟩ := X4.virtualBack hx (y := (⟨"com/example/ratchetbook/ratchetbook/bill/ProrationFactor", "isOne", "()Z"⟩ : MethodName)) (z := (⟨"com/example/ratchetbook/ratchetbook/bill/ProrationFactor", "isOne", "()Z"⟩ : MethodName)) hown (mvT hZ (ow hw 23 rfl)) (mvT hZ (ow hw 24 rfl)) (notFace_of_selects (args := #[]) (mvT hZ (ow hw 26 rfl))) (mvT hZ (ow hw 26 rfl)) (mvT hZ (ow hw 25 rfl)) (by decide) (backOf (W := 0) (rm5 l Z a0 hw [] b3 (own_pos i0) s1 h4 n0 O F_days_b3 F_standardDays_b3) hZ (ow hw 27 rfl) (ow hw 7 rfl) (by decide) (by decide)) q5a q5c (g := (mkF m 100 #[jv i0, .second, jv i1, .second, iv i2, jv (own_pos i0), .second, iv (i2 &&& (3 : Int32)), jv s1, .second, rv b3, iv 0] [.ref b3])) rfl (by rw [hml]; rfl) (Steps.refl _) (argsL := []) (rest := []) (lenOf pd_3 rfl) rfl (by show 2 * 0 + _ ≤ _; exact Nat.le_of_eq rfl) (hb hby at_100) (fun _ _ => ⟨rfl, e4, (by decide : 1 + 0 ≤ _), (by decide : 2 + 0 ≤ _)⟩)
      dsimp only [Pt.U, Pt.locs, Pt.cells, Pt.slots] at X5 lq5 yq5 zq5 st5 hQ5
      subst lq5 yq5 zq5
      obtain ⟨rfl, rfl, e5⟩ := hQ5
      try rw [List.append_nil] at X5
      refine gb (fun _ k => st5.trans k) ?_
      show G T5 (mkF m 103 #[jv i0, .second, jv i1, .second, iv i2, jv (own_pos i0), .second, iv (i2 &&& (3 : Int32)), jv s1, .second, rv b3, iv 0] [.int (if (own_pos i0) = s1 then (1 : Int32) else (0 : Int32))])
      refine gb (fun _ k => XS.iload X5.here hx rfl (hb hby at_103) rfl (XS.icmpNo X5.here hx rfl (hb hby at_105) rfl (teq (if_neg (own_neL hc80))).2 k)) ?_
      show G T5 (mkF m 108 #[jv i0, .second, jv i1, .second, iv i2, jv (own_pos i0), .second, iv (i2 &&& (3 : Int32)), jv s1, .second, rv b3, iv 0] [])
      obtain ⟨T6, X6, e6, st6⟩ := getS2 X5 hx hZ hown (host := "") (Or.inl (ow hw 28 rfl)) Via.refl e5 (S_ONE.ext O.2) (g := (mkF m 108 #[jv i0, .second, jv i1, .second, iv i2, jv (own_pos i0), .second, iv (i2 &&& (3 : Int32)), jv s1, .second, rv b3, iv 0] [])) rfl (hb hby at_108)
      refine gb st6 ?_
      show G T6 (mkF m 111 #[jv i0, .second, jv i1, .second, iv i2, jv (own_pos i0), .second, iv (i2 &&& (3 : Int32)), jv s1, .second, rv b3, iv 0] [.ref w_ONE])
      obtain ⟨cq7, kq7, q7a, q7b, q7c⟩ := isOf hZ e6 (E_ONE.ext O.2)
      obtain ⟨_, _, ⟨T7, Lz7, kz7, nz7⟩, -, X7, ⟨Lc7, hQ7, lq7, yq7, zq7⟩, st7⟩ := X6.virtualBack hx (y := (⟨"com/example/ratchetbook/ratchetbook/bill/ProrationFactor", "isOne", "()Z"⟩ : MethodName)) (z := (⟨"com/example/ratchetbook/ratchetbook/bill/ProrationFactor", "isOne", "()Z"⟩ : MethodName)) hown (mvT hZ (ow hw 23 rfl)) (mvT hZ (ow hw 24 rfl)) (notFace_of_selects (args := #[]) (mvT hZ (ow hw 26 rfl))) (mvT hZ (ow hw 26 rfl)) (mvT hZ (ow hw 25 rfl)) (by decide) (backOf (W := 0) (rm5 l Z a0 hw [] w_ONE (1 : Int64) (1 : Int64) h4 n0 O (F_days_ONE.ext O.2) (F_standardDays_ONE.ext O.2)) hZ (ow hw 27 rfl) (ow hw 7 rfl) (by decide) (by decide)) q7a q7c (g := (mkF m 111 #[jv i0, .second, jv i1, .second, iv i2, jv (own_pos i0), .second, iv (i2 &&& (3 : Int32)), jv s1, .second, rv b3, iv 0] [.ref w_ONE])) rfl (by rw [hml]; rfl) (Steps.refl _) (argsL := []) (rest := []) (lenOf pd_3 rfl) rfl (by show 2 * 0 + _ ≤ _; exact Nat.le_of_eq rfl) (hb hby at_111) (fun _ _ => ⟨rfl, e6, (by decide : 1 + 0 ≤ _), (by decide : 2 + 0 ≤ _)⟩)
      dsimp only [Pt.U, Pt.locs, Pt.cells, Pt.slots] at X7 lq7 yq7 zq7 st7 hQ7
      subst lq7 yq7 zq7
      obtain ⟨rfl, rfl, e7⟩ := hQ7
      try rw [List.append_nil] at X7
      refine gb (fun _ k => st7.trans k) ?_
      show G T7 (mkF m 114 #[jv i0, .second, jv i1, .second, iv i2, jv (own_pos i0), .second, iv (i2 &&& (3 : Int32)), jv s1, .second, rv b3, iv 0] [.int (if (1 : Int64) = (1 : Int64) then (1 : Int32) else (0 : Int32))])
      refine gb (fun _ k => XS.ifNo X7.here hx rfl (hb hby at_114) rfl ((if0 _ _).trans (feq (by decide : ¬ ((if (1 : Int64) = (1 : Int64) then (1 : Int32) else (0 : Int32)) = (0 : Int32)))).1) (XS.iconst X7.here hx rfl (hb hby at_117) (XS.goto X7.here hx rfl (pc0 := 118) (pc' := 122) rfl (hb hby at_118) (by decide) (by decide) k))) ?_
      show G T7 (mkF m 122 #[jv i0, .second, jv i1, .second, iv i2, jv (own_pos i0), .second, iv (i2 &&& (3 : Int32)), jv s1, .second, rv b3, iv 0] [.int 1])
      exact go X7 (v := (some (.int (1 : Int32)))) (fun h => by rw [Bd.returns] at h; cases h) (fun fs hr => retOut X7 hx Bd.returns rfl (Or.inl ⟨rfl, by simp, _, rfl⟩) (hb hby at_122) hr) (⟨rfl, N⟩) (by decide) (by decide)
    · skip
      refine gb (fun _ k => XS.ifNo X4.here hx rfl (hb hby at_80) rfl ((if0 _ _).trans (flt (fun q => hc80 ((own_lt _ _).mp q))).1) (XS.lload X4.here hx rfl (hb hby at_83) rfl (XS.lload X4.here hx rfl (hb hby at_85) rfl (XS.lcmp X4.here hx rfl (hb hby at_87) rfl k)))) ?_
      show G T4 (mkF m 88 #[jv i0, .second, jv i1, .second, iv i2, jv (own_pos i0), .second, iv (i2 &&& (3 : Int32)), jv s1, .second, rv b3, .unset] [.int (lcmpW s1 (own_pos i0))])
      by_cases hc88 : s1 < (own_pos i0)
      · skip
        refine gb (fun _ k => XS.ifYes X4.here hx rfl (pc0 := 88) (pc' := 95) rfl (hb hby at_88) rfl ((if0 _ _).trans (tlt ((own_lt _ _).mpr hc88)).1) (by decide) (by decide) (XS.iconst X4.here hx rfl (hb hby at_95) (XS.istore X4.here hx rfl (hb hby at_96) rfl (l' := #[jv i0, .second, jv i1, .second, iv i2, jv (own_pos i0), .second, iv (i2 &&& (3 : Int32)), jv s1, .second, rv b3, iv 0]) rfl (XS.aload X4.here hx rfl (hb hby at_98) rfl rfl k)))) ?_
        show G T4 (mkF m 100 #[jv i0, .second, jv i1, .second, iv i2, jv (own_pos i0), .second, iv (i2 &&& (3 : Int32)), jv s1, .second, rv b3, iv 0] [.ref b3])
        obtain ⟨cq8, kq8, q8a, q8b, q8c⟩ := isOf hZ e4 E_b3
        obtain ⟨_, _, ⟨T8, Lz8, kz8, nz8⟩, -, X8, ⟨Lc8, hQ8, lq8, yq8, zq8⟩, st8⟩ := X4.virtualBack hx (y := (⟨"com/example/ratchetbook/ratchetbook/bill/ProrationFactor", "isOne", "()Z"⟩ : MethodName)) (z := (⟨"com/example/ratchetbook/ratchetbook/bill/ProrationFactor", "isOne", "()Z"⟩ : MethodName)) hown (mvT hZ (ow hw 23 rfl)) (mvT hZ (ow hw 24 rfl)) (notFace_of_selects (args := #[]) (mvT hZ (ow hw 26 rfl))) (mvT hZ (ow hw 26 rfl)) (mvT hZ (ow hw 25 rfl)) (by decide) (backOf (W := 0) (rm5 l Z a0 hw [] b3 (own_pos i0) s1 h4 n0 O F_days_b3 F_standardDays_b3) hZ (ow hw 27 rfl) (ow hw 7 rfl) (by decide) (by decide)) q8a q8c (g := (mkF m 100 #[jv i0, .second, jv i1, .second, iv i2, jv (own_pos i0), .second, iv (i2 &&& (3 : Int32)), jv s1, .second, rv b3, iv 0] [.ref b3])) rfl (by rw [hml]; rfl) (Steps.refl _) (argsL := []) (rest := []) (lenOf pd_3 rfl) rfl (by show 2 * 0 + _ ≤ _; exact Nat.le_of_eq rfl) (hb hby at_100) (fun _ _ => ⟨rfl, e4, (by decide : 1 + 0 ≤ _), (by decide : 2 + 0 ≤ _)⟩)
        dsimp only [Pt.U, Pt.locs, Pt.cells, Pt.slots] at X8 lq8 yq8 zq8 st8 hQ8
        subst lq8 yq8 zq8
        obtain ⟨rfl, rfl, e8⟩ := hQ8
        try rw [List.append_nil] at X8
        refine gb (fun _ k => st8.trans k) ?_
        show G T8 (mkF m 103 #[jv i0, .second, jv i1, .second, iv i2, jv (own_pos i0), .second, iv (i2 &&& (3 : Int32)), jv s1, .second, rv b3, iv 0] [.int (if (own_pos i0) = s1 then (1 : Int32) else (0 : Int32))])
        refine gb (fun _ k => XS.iload X8.here hx rfl (hb hby at_103) rfl (XS.icmpNo X8.here hx rfl (hb hby at_105) rfl (teq (if_neg (fun e => own_neL hc88 e.symm))).2 k)) ?_
        show G T8 (mkF m 108 #[jv i0, .second, jv i1, .second, iv i2, jv (own_pos i0), .second, iv (i2 &&& (3 : Int32)), jv s1, .second, rv b3, iv 0] [])
        obtain ⟨T9, X9, e9, st9⟩ := getS2 X8 hx hZ hown (host := "") (Or.inl (ow hw 28 rfl)) Via.refl e8 (S_ONE.ext O.2) (g := (mkF m 108 #[jv i0, .second, jv i1, .second, iv i2, jv (own_pos i0), .second, iv (i2 &&& (3 : Int32)), jv s1, .second, rv b3, iv 0] [])) rfl (hb hby at_108)
        refine gb st9 ?_
        show G T9 (mkF m 111 #[jv i0, .second, jv i1, .second, iv i2, jv (own_pos i0), .second, iv (i2 &&& (3 : Int32)), jv s1, .second, rv b3, iv 0] [.ref w_ONE])
        obtain ⟨cq10, kq10, q10a, q10b, q10c⟩ := isOf hZ e9 (E_ONE.ext O.2)
        obtain ⟨_, _, ⟨T10, Lz10, kz10, nz10⟩, -, X10, ⟨Lc10, hQ10, lq10, yq10, zq10⟩, st10⟩ := X9.virtualBack hx (y := (⟨"com/example/ratchetbook/ratchetbook/bill/ProrationFactor", "isOne", "()Z"⟩ : MethodName)) (z := (⟨"com/example/ratchetbook/ratchetbook/bill/ProrationFactor", "isOne", "()Z"⟩ : MethodName)) hown (mvT hZ (ow hw 23 rfl)) (mvT hZ (ow hw 24 rfl)) (notFace_of_selects (args := #[]) (mvT hZ (ow hw 26 rfl))) (mvT hZ (ow hw 26 rfl)) (mvT hZ (ow hw 25 rfl)) (by decide) (backOf (W := 0) (rm5 l Z a0 hw [] w_ONE (1 : Int64) (1 : Int64) h4 n0 O (F_days_ONE.ext O.2) (F_standardDays_ONE.ext O.2)) hZ (ow hw 27 rfl) (ow hw 7 rfl) (by decide) (by decide)) q10a q10c (g := (mkF m 111 #[jv i0, .second, jv i1, .second, iv i2, jv (own_pos i0), .second, iv (i2 &&& (3 : Int32)), jv s1, .second, rv b3, iv 0] [.ref w_ONE])) rfl (by rw [hml]; rfl) (Steps.refl _) (argsL := []) (rest := []) (lenOf pd_3 rfl) rfl (by show 2 * 0 + _ ≤ _; exact Nat.le_of_eq rfl) (hb hby at_111) (fun _ _ => ⟨rfl, e9, (by decide : 1 + 0 ≤ _), (by decide : 2 + 0 ≤ _)⟩)
        dsimp only [Pt.U, Pt.locs, Pt.cells, Pt.slots] at X10 lq10 yq10 zq10 st10 hQ10
        subst lq10 yq10 zq10
        obtain ⟨rfl, rfl, e10⟩ := hQ10
        try rw [List.append_nil] at X10
        refine gb (fun _ k => st10.trans k) ?_
        show G T10 (mkF m 114 #[jv i0, .second, jv i1, .second, iv i2, jv (own_pos i0), .second, iv (i2 &&& (3 : Int32)), jv s1, .second, rv b3, iv 0] [.int (if (1 : Int64) = (1 : Int64) then (1 : Int32) else (0 : Int32))])
        refine gb (fun _ k => XS.ifNo X10.here hx rfl (hb hby at_114) rfl ((if0 _ _).trans (feq (by decide : ¬ ((if (1 : Int64) = (1 : Int64) then (1 : Int32) else (0 : Int32)) = (0 : Int32)))).1) (XS.iconst X10.here hx rfl (hb hby at_117) (XS.goto X10.here hx rfl (pc0 := 118) (pc' := 122) rfl (hb hby at_118) (by decide) (by decide) k))) ?_
        show G T10 (mkF m 122 #[jv i0, .second, jv i1, .second, iv i2, jv (own_pos i0), .second, iv (i2 &&& (3 : Int32)), jv s1, .second, rv b3, iv 0] [.int 1])
        exact go X10 (v := (some (.int (1 : Int32)))) (fun h => by rw [Bd.returns] at h; cases h) (fun fs hr => retOut X10 hx Bd.returns rfl (Or.inl ⟨rfl, by simp, _, rfl⟩) (hb hby at_122) hr) (⟨rfl, N⟩) (by decide) (by decide)
      · skip
        refine gb (fun _ k => XS.ifNo X4.here hx rfl (hb hby at_88) rfl ((if0 _ _).trans (flt (fun q => hc88 ((own_lt _ _).mp q))).1) (XS.iconst X4.here hx rfl (hb hby at_91) (XS.goto X4.here hx rfl (pc0 := 92) (pc' := 96) rfl (hb hby at_92) (by decide) (by decide) (XS.istore X4.here hx rfl (hb hby at_96) rfl (l' := #[jv i0, .second, jv i1, .second, iv i2, jv (own_pos i0), .second, iv (i2 &&& (3 : Int32)), jv s1, .second, rv b3, iv 1]) rfl (XS.aload X4.here hx rfl (hb hby at_98) rfl rfl k))))) ?_
        show G T4 (mkF m 100 #[jv i0, .second, jv i1, .second, iv i2, jv (own_pos i0), .second, iv (i2 &&& (3 : Int32)), jv s1, .second, rv b3, iv 1] [.ref b3])
        obtain ⟨cq11, kq11, q11a, q11b, q11c⟩ := isOf hZ e4 E_b3
        obtain ⟨_, _, ⟨T11, Lz11, kz11, nz11⟩, -, X11, ⟨Lc11, hQ11, lq11, yq11, zq11⟩, st11⟩ := X4.virtualBack hx (y := (⟨"com/example/ratchetbook/ratchetbook/bill/ProrationFactor", "isOne", "()Z"⟩ : MethodName)) (z := (⟨"com/example/ratchetbook/ratchetbook/bill/ProrationFactor", "isOne", "()Z"⟩ : MethodName)) hown (mvT hZ (ow hw 23 rfl)) (mvT hZ (ow hw 24 rfl)) (notFace_of_selects (args := #[]) (mvT hZ (ow hw 26 rfl))) (mvT hZ (ow hw 26 rfl)) (mvT hZ (ow hw 25 rfl)) (by decide) (backOf (W := 0) (rm5 l Z a0 hw [] b3 (own_pos i0) s1 h4 n0 O F_days_b3 F_standardDays_b3) hZ (ow hw 27 rfl) (ow hw 7 rfl) (by decide) (by decide)) q11a q11c (g := (mkF m 100 #[jv i0, .second, jv i1, .second, iv i2, jv (own_pos i0), .second, iv (i2 &&& (3 : Int32)), jv s1, .second, rv b3, iv 1] [.ref b3])) rfl (by rw [hml]; rfl) (Steps.refl _) (argsL := []) (rest := []) (lenOf pd_3 rfl) rfl (by show 2 * 0 + _ ≤ _; exact Nat.le_of_eq rfl) (hb hby at_100) (fun _ _ => ⟨rfl, e4, (by decide : 1 + 0 ≤ _), (by decide : 2 + 0 ≤ _)⟩)
        dsimp only [Pt.U, Pt.locs, Pt.cells, Pt.slots] at X11 lq11 yq11 zq11 st11 hQ11
        subst lq11 yq11 zq11
        obtain ⟨rfl, rfl, e11⟩ := hQ11
        try rw [List.append_nil] at X11
        refine gb (fun _ k => st11.trans k) ?_
        show G T11 (mkF m 103 #[jv i0, .second, jv i1, .second, iv i2, jv (own_pos i0), .second, iv (i2 &&& (3 : Int32)), jv s1, .second, rv b3, iv 1] [.int (if (own_pos i0) = s1 then (1 : Int32) else (0 : Int32))])
        refine gb (fun _ k => XS.iload X11.here hx rfl (hb hby at_103) rfl (XS.icmpNo X11.here hx rfl (hb hby at_105) rfl (teq (if_pos (own_eqL hc80 hc88))).2 k)) ?_
        show G T11 (mkF m 108 #[jv i0, .second, jv i1, .second, iv i2, jv (own_pos i0), .second, iv (i2 &&& (3 : Int32)), jv s1, .second, rv b3, iv 1] [])
        obtain ⟨T12, X12, e12, st12⟩ := getS2 X11 hx hZ hown (host := "") (Or.inl (ow hw 28 rfl)) Via.refl e11 (S_ONE.ext O.2) (g := (mkF m 108 #[jv i0, .second, jv i1, .second, iv i2, jv (own_pos i0), .second, iv (i2 &&& (3 : Int32)), jv s1, .second, rv b3, iv 1] [])) rfl (hb hby at_108)
        refine gb st12 ?_
        show G T12 (mkF m 111 #[jv i0, .second, jv i1, .second, iv i2, jv (own_pos i0), .second, iv (i2 &&& (3 : Int32)), jv s1, .second, rv b3, iv 1] [.ref w_ONE])
        obtain ⟨cq13, kq13, q13a, q13b, q13c⟩ := isOf hZ e12 (E_ONE.ext O.2)
        obtain ⟨_, _, ⟨T13, Lz13, kz13, nz13⟩, -, X13, ⟨Lc13, hQ13, lq13, yq13, zq13⟩, st13⟩ := X12.virtualBack hx (y := (⟨"com/example/ratchetbook/ratchetbook/bill/ProrationFactor", "isOne", "()Z"⟩ : MethodName)) (z := (⟨"com/example/ratchetbook/ratchetbook/bill/ProrationFactor", "isOne", "()Z"⟩ : MethodName)) hown (mvT hZ (ow hw 23 rfl)) (mvT hZ (ow hw 24 rfl)) (notFace_of_selects (args := #[]) (mvT hZ (ow hw 26 rfl))) (mvT hZ (ow hw 26 rfl)) (mvT hZ (ow hw 25 rfl)) (by decide) (backOf (W := 0) (rm5 l Z a0 hw [] w_ONE (1 : Int64) (1 : Int64) h4 n0 O (F_days_ONE.ext O.2) (F_standardDays_ONE.ext O.2)) hZ (ow hw 27 rfl) (ow hw 7 rfl) (by decide) (by decide)) q13a q13c (g := (mkF m 111 #[jv i0, .second, jv i1, .second, iv i2, jv (own_pos i0), .second, iv (i2 &&& (3 : Int32)), jv s1, .second, rv b3, iv 1] [.ref w_ONE])) rfl (by rw [hml]; rfl) (Steps.refl _) (argsL := []) (rest := []) (lenOf pd_3 rfl) rfl (by show 2 * 0 + _ ≤ _; exact Nat.le_of_eq rfl) (hb hby at_111) (fun _ _ => ⟨rfl, e12, (by decide : 1 + 0 ≤ _), (by decide : 2 + 0 ≤ _)⟩)
        dsimp only [Pt.U, Pt.locs, Pt.cells, Pt.slots] at X13 lq13 yq13 zq13 st13 hQ13
        subst lq13 yq13 zq13
        obtain ⟨rfl, rfl, e13⟩ := hQ13
        try rw [List.append_nil] at X13
        refine gb (fun _ k => st13.trans k) ?_
        show G T13 (mkF m 114 #[jv i0, .second, jv i1, .second, iv i2, jv (own_pos i0), .second, iv (i2 &&& (3 : Int32)), jv s1, .second, rv b3, iv 1] [.int (if (1 : Int64) = (1 : Int64) then (1 : Int32) else (0 : Int32))])
        refine gb (fun _ k => XS.ifNo X13.here hx rfl (hb hby at_114) rfl ((if0 _ _).trans (feq (by decide : ¬ ((if (1 : Int64) = (1 : Int64) then (1 : Int32) else (0 : Int32)) = (0 : Int32)))).1) (XS.iconst X13.here hx rfl (hb hby at_117) (XS.goto X13.here hx rfl (pc0 := 118) (pc' := 122) rfl (hb hby at_118) (by decide) (by decide) k))) ?_
        show G T13 (mkF m 122 #[jv i0, .second, jv i1, .second, iv i2, jv (own_pos i0), .second, iv (i2 &&& (3 : Int32)), jv s1, .second, rv b3, iv 1] [.int 1])
        exact go X13 (v := (some (.int (1 : Int32)))) (fun h => by rw [Bd.returns] at h; cases h) (fun fs hr => retOut X13 hx Bd.returns rfl (Or.inl ⟨rfl, by simp, _, rfl⟩) (hb hby at_122) hr) (⟨rfl, N⟩) (by decide) (by decide)
  refine gb (fun _ k => XS.iload X1.here hx rfl (hb hby at_12) rfl (XS.iconst X1.here hx rfl (hb hby at_14) k)) ?_
  show G T1 (mkF m 15 #[jv i0, .second, jv i1, .second, iv i2, jv (own_pos i0), .second, iv (i2 &&& (3 : Int32)), .unset, .unset, .unset, .unset] [.int 2, .int (i2 &&& (3 : Int32))])
  by_cases hc15 : (i2 &&& (3 : Int32)) = (2 : Int32)
  · skip
    refine gb (fun _ k => XS.icmpNo X1.here hx rfl (hb hby at_15) rfl (teq hc15).2 (XS.lload X1.here hx rfl (hb hby at_18) rfl (XS.lstore X1.here hx rfl (hb hby at_20) rfl (l' := #[jv i0, .second, jv i1, .second, iv i2, jv (own_pos i0), .second, iv (i2 &&& (3 : Int32)), jv (own_pos i0), .second, .unset, .unset]) rfl (XS.goto X1.here hx rfl (pc0 := 22) (pc' := 62) rfl (hb hby at_22) (by decide) (by decide) k)))) ?_
    show G T1 (mkF m 62 #[jv i0, .second, jv i1, .second, iv i2, jv (own_pos i0), .second, iv (i2 &&& (3 : Int32)), jv (own_pos i0), .second, .unset, .unset] [])
    exact J2 _ _ X1 N e1  ((own_pos i0)) (own_pos_pos _)
  · skip
    refine gb (fun _ k => XS.icmpYes X1.here hx rfl (pc0 := 15) (pc' := 25) rfl (hb hby at_15) rfl (feq hc15).2 (by decide) (by decide) (XS.iload X1.here hx rfl (hb hby at_25) rfl (XS.iconst X1.here hx rfl (hb hby at_27) k))) ?_
    show G T1 (mkF m 28 #[jv i0, .second, jv i1, .second, iv i2, jv (own_pos i0), .second, iv (i2 &&& (3 : Int32)), .unset, .unset, .unset, .unset] [.int 3, .int (i2 &&& (3 : Int32))])
    by_cases hc28 : (i2 &&& (3 : Int32)) = (3 : Int32)
    · skip
      refine gb (fun _ k => XS.icmpNo X1.here hx rfl (hb hby at_28) rfl (teq hc28).2 (XS.lload X1.here hx rfl (hb hby at_31) rfl k)) ?_
      show G T1 (mkF m 33 #[jv i0, .second, jv i1, .second, iv i2, jv (own_pos i0), .second, iv (i2 &&& (3 : Int32)), .unset, .unset, .unset, .unset] [.long (own_pos i0)])
      refine gb (X1.ldc2Long hx hown (mvT hZ (ow hw 4 rfl)) (g := (mkF m 33 #[jv i0, .second, jv i1, .second, iv i2, jv (own_pos i0), .second, iv (i2 &&& (3 : Int32)), .unset, .unset, .unset, .unset] [.long (own_pos i0)])) rfl (hb hby at_33)) ?_
      show G T1 (mkF m 36 #[jv i0, .second, jv i1, .second, iv i2, jv (own_pos i0), .second, iv (i2 &&& (3 : Int32)), .unset, .unset, .unset, .unset] [.long 9223372036854775807, .long (own_pos i0)])
      refine gb (fun _ k => XS.lcmp X1.here hx rfl (hb hby at_36) rfl k) ?_
      show G T1 (mkF m 37 #[jv i0, .second, jv i1, .second, iv i2, jv (own_pos i0), .second, iv (i2 &&& (3 : Int32)), .unset, .unset, .unset, .unset] [.int (lcmpW (own_pos i0) (9223372036854775807 : Int64))])
      by_cases hc37 : (own_pos i0) = (9223372036854775807 : Int64)
      · skip
        refine gb (fun _ k => XS.ifNo X1.here hx rfl (hb hby at_37) rfl ((if0 _ _).trans (teq ((own_eq _ _).mpr hc37)).2) (XS.lload X1.here hx rfl (hb hby at_40) rfl (XS.lconst X1.here hx rfl (hb hby at_42) (XS.lsub X1.here hx rfl (hb hby at_43) rfl (XS.goto X1.here hx rfl (pc0 := 44) (pc' := 51) rfl (hb hby at_44) (by decide) (by decide) (XS.lstore X1.here hx rfl (hb hby at_51) rfl (l' := #[jv i0, .second, jv i1, .second, iv i2, jv (own_pos i0), .second, iv (i2 &&& (3 : Int32)), jv ((own_pos i0) - (1 : Int64)), .second, .unset, .unset]) rfl k)))))) ?_
        show G T1 (mkF m 53 #[jv i0, .second, jv i1, .second, iv i2, jv (own_pos i0), .second, iv (i2 &&& (3 : Int32)), jv ((own_pos i0) - (1 : Int64)), .second, .unset, .unset] [])
        refine gb (fun _ k => XS.goto X1.here hx rfl (pc0 := 53) (pc' := 62) rfl (hb hby at_53) (by decide) (by decide) k) ?_
        show G T1 (mkF m 62 #[jv i0, .second, jv i1, .second, iv i2, jv (own_pos i0), .second, iv (i2 &&& (3 : Int32)), jv ((own_pos i0) - (1 : Int64)), .second, .unset, .unset] [])
        exact J2 _ _ X1 N e1  (((own_pos i0) - (1 : Int64))) (by rw [hc37]; decide)
      · skip
        refine gb (fun _ k => XS.ifYes X1.here hx rfl (pc0 := 37) (pc' := 47) rfl (hb hby at_37) rfl ((if0 _ _).trans (feq (fun q => hc37 ((own_eq _ _).mp q))).2) (by decide) (by decide) (XS.lload X1.here hx rfl (hb hby at_47) rfl (XS.lconst X1.here hx rfl (hb hby at_49) (XS.ladd X1.here hx rfl (hb hby at_50) rfl (XS.lstore X1.here hx rfl (hb hby at_51) rfl (l' := #[jv i0, .second, jv i1, .second, iv i2, jv (own_pos i0), .second, iv (i2 &&& (3 : Int32)), jv ((own_pos i0) + (1 : Int64)), .second, .unset, .unset]) rfl (XS.goto X1.here hx rfl (pc0 := 53) (pc' := 62) rfl (hb hby at_53) (by decide) (by decide) k)))))) ?_
        show G T1 (mkF m 62 #[jv i0, .second, jv i1, .second, iv i2, jv (own_pos i0), .second, iv (i2 &&& (3 : Int32)), jv ((own_pos i0) + (1 : Int64)), .second, .unset, .unset] [])
        exact J2 _ _ X1 N e1  (((own_pos i0) + (1 : Int64))) (own_succ (own_pos_pos _) hc37)
    · skip
      refine gb (fun _ k => XS.icmpYes X1.here hx rfl (pc0 := 28) (pc' := 56) rfl (hb hby at_28) rfl (feq hc28).2 (by decide) (by decide) (XS.lloadN X1.here hx rfl (hb hby at_56) rfl k)) ?_
      show G T1 (mkF m 57 #[jv i0, .second, jv i1, .second, iv i2, jv (own_pos i0), .second, iv (i2 &&& (3 : Int32)), .unset, .unset, .unset, .unset] [.long i1])
      obtain ⟨_, _, ⟨T14, Lz14, kz14, nz14⟩, -, X14, ⟨Lc14, hQ14, lq14, yq14, zq14⟩, st14⟩ := Jvm.LawKit.callS X1 hx (y := (⟨"com/example/ratchetbook/ratchetbook/bill/ProrationFactorIsOnePinLaw", "positive", "(J)J"⟩ : MethodName)) hown (mvT hZ (ow hw 0 rfl)) (mvT hZ (ow hw 1 rfl)) (mvT hZ (ow hw 2 rfl)) (mvT hZ (ow hw 3 rfl)) (by decide) (backOf (W := 0) (rm1 l Z a0 hw [] i1 h0 n0 O) hZ (ow hw 3 rfl) (ow hw 2 rfl) (by decide) (by decide)) (g := (mkF m 57 #[jv i0, .second, jv i1, .second, iv i2, jv (own_pos i0), .second, iv (i2 &&& (3 : Int32)), .unset, .unset, .unset, .unset] [.long i1])) rfl (by rw [hml]; rfl) (argsL := [(.long i1)]) (rest := []) (lenOf pd_1 rfl) rfl (by show 2 * 0 + _ ≤ _; exact Nat.le_of_eq rfl) (hb hby at_57) (fun _ _ => ⟨rfl, e1, (by decide : 0 + 0 ≤ _), (by decide : 0 + 0 ≤ _)⟩)
      dsimp only [Pt.U, Pt.locs, Pt.cells, Pt.slots] at X14 lq14 yq14 zq14 st14 hQ14
      subst lq14 yq14 zq14
      obtain ⟨rfl, rfl, e14⟩ := hQ14
      try rw [List.append_nil] at X14
      refine gb st14 ?_
      show G T14 (mkF m 60 #[jv i0, .second, jv i1, .second, iv i2, jv (own_pos i0), .second, iv (i2 &&& (3 : Int32)), .unset, .unset, .unset, .unset] [.long (own_pos i1)])
      refine gb (fun _ k => XS.lstore X14.here hx rfl (hb hby at_60) rfl (l' := #[jv i0, .second, jv i1, .second, iv i2, jv (own_pos i0), .second, iv (i2 &&& (3 : Int32)), jv (own_pos i1), .second, .unset, .unset]) rfl k) ?_
      show G T14 (mkF m 62 #[jv i0, .second, jv i1, .second, iv i2, jv (own_pos i0), .second, iv (i2 &&& (3 : Int32)), jv (own_pos i1), .second, .unset, .unset] [])
      exact J2 _ _ X14 N e14  ((own_pos i1)) (own_pos_pos _)
set_option maxRecDepth 65536 in
set_option maxHeartbeats 40000000 in
theorem comes_1 {Post : Tables → Env → Array Value → State → Outcome → State → Prop} (hpost : ∀ tb e args s v u, (limb_1_1.after args s (.returned v) u = true ∧ limb_1_2.after args s (.returned v) u = true ∧ True) → FrameEnd s (.returned v) u (Jvm.fieldLocs frame_1_writes args s ++ Jvm.arrayLocs frame_1_arrays args s ++ Jvm.staticLocs frame_1_statics s) 16 128 → Post tb e args s (.returned v) u) :
    ArmFor flags0 classFile x code maxLocals ret World_1 tables_1 room_1 Calls_1 rest_1 Pre_1 Post := by
  intro l hfl _ _ p e ha hc hk s m args below hf hA hF happ hP
  obtain ⟨hcalls, hrest, hpre⟩ := hP
  obtain ⟨-, -, -, hnamed, -, -, -, hat⟩ := (Spec.applies_iff hf).mp happ
  obtain ⟨hg, hn⟩ := and_e (Cond.before_iff.mp (show (Jvm.Cond.and given_1 narrow_1).before args s = true from hpre))
  obtain ⟨g1, g2⟩ := and_e hg
  obtain ⟨g3, g4⟩ := and_e g2
  obtain ⟨g5, g6⟩ := and_e g4
  obtain ⟨g7, g8⟩ := and_e hn
  obtain ⟨g9, g10⟩ := and_e g8
  obtain ⟨w0, w1, w2, rfl⟩ : ∃ w0 w1 w2 : Value, args = #[w0, w1, w2] := by
    have hs : args.size = 3 := by simpa [Cond.value, given_1] using g1
    obtain ⟨L⟩ := args
    match L, hs with
    | [w0, w1, w2], _ => exact ⟨w0, w1, w2, rfl⟩
  have hw := fun d (hd : d ∈ tables_1) => atoms_spec (ws := Jvm.Cond.code x code maxLocals ret :: tables_1) hat d (List.mem_cons_of_mem _ hd)
  have hfit : Fit s := fun {y c} hc i hi => by
    obtain ⟨ha, rfl⟩ := Array.getElem?_eq_some_iff.mp hc
    have q := List.all_eq_true.mp ((Array.all_eq_true_iff_forall_mem.mp hF) _ (Array.getElem_mem ha)) i (List.mem_range.mpr hi)
    simpa [Array.getElem?_eq_getElem hi] using q
  obtain ⟨i0, ei0⟩ := isL_v g3
  obtain rfl : w0 = (.long i0) := Option.some.inj ei0
  obtain ⟨i1, ei1⟩ := isL_v g5
  obtain rfl : w1 = (.long i1) := Option.some.inj ei1
  obtain ⟨i2, ei2⟩ := is_v g6
  obtain rfl : w2 = (.int i2) := Option.some.inj ei2
  obtain ⟨w_ONE, ev_ONE⟩ := exa_v g7
  have S_ONE : Sta s s.heap "com/example/ratchetbook/ratchetbook/bill/ProrationFactor" "ONE" "Lcom/example/ratchetbook/ratchetbook/bill/ProrationFactor;" (.ref w_ONE) := Sta.start ev_ONE (Or.inr ⟨(ow hw 7 rfl), (ow hw 29 rfl)⟩)
  have E_ONE : Exa s s.heap w_ONE "com/example/ratchetbook/ratchetbook/bill/ProrationFactor" := Exa.start ev_ONE g7
  have F_days_ONE := own_fldJ ev_ONE g9
  have F_standardDays_ONE := own_fldJ ev_ONE g10
  obtain ⟨n, o, h1, h2, h3, _, L, rfl, ⟨rfl, N⟩, hq⟩ := rm0 l s _ hw tables_1 i0 i1 i2 s.heap s.heap.size (Old.start s) w_ONE S_ONE E_ONE F_days_ONE F_standardDays_ONE p e ha hc hk s m _ below hf ((Spec.applies_iff_loose hf).mp happ).1 ⟨rfl, State.Warmed39.refl s, rfl, rfl⟩ trivial
  refine ⟨n, _, h1, h2, h3, hpost _ _ _ _ _ _ ⟨Cond.after_iff.mpr rfl, Cond.after_iff.mpr (eq_i res_at (Term.int_eval (1)) rfl), trivial⟩ ⟨hq.1, hq.2.1, (hq.2.2.sift fun y hy => Or.inr (N y hy)).mono (by decide) (by decide)⟩⟩
theorem main_1_1 : Claimed_1_1 := comes_1 fun _ _ _ _ _ _ h hF => ⟨h.1, hF⟩
theorem main_1_2 : Claimed_1_2 := comes_1 fun _ _ _ _ _ _ h hF => ⟨h.2.1, hF⟩
end Jvm.Pilot.@@N@@
namespace Jvm.Pilot.@@N@@
open Jvm Jvm.ClassFile Sem Op Lib Jvm.Free Jvm.Stand Jvm.Pilot.@@N@@.Jvm.D
/-! MADE BY PROGRAM (witnessworld.py) out of the Statement's table words and the real class files: 10 classes; the members and pool entries that the words name. The judged class is class 1, her method 1. -/
namespace start1
open Jvm.ClassFile
def u (s : String) : CpInfo := .utf8 (stringToUtf16 s)
/-- a pool by its gaps: so many unusable entries, then the entry; so many at the end -/
def gap : Nat → List CpInfo → List CpInfo
  | 0, r => r
  | n + 1, r => .unusable :: gap n r
def poolList (es : List (Nat × CpInfo)) (last : Nat) : List CpInfo := es.foldr (fun e r => gap e.1 (e.2 :: r)) (gap last [])
def pool (es : List (Nat × CpInfo)) (last : Nat) : Array CpInfo := ⟨poolList es last⟩
def fileOf (pool : Array CpInfo) (this : Nat) (attrs : Array Attribute := #[]) (ms : Array MethodInfo := #[]) (fl : Nat := 33) (sup : Nat := 0) (ifs : Array Nat := #[]) (fds : Array FieldInfo := #[]) : ClassFile where
  minorVersion := 0
  majorVersion := 65
  constantPool := pool
  accessFlags := fl
  thisClass := this
  superClass := sup
  interfaces := ifs
  fields := fds
  methods := ms
  attributes := attrs
def plain (name : String) (sup : Option ClassId) : Class where
  name := name
  kind := .ordinary
  loader := none
  accessFlags := 33
  super := sup
  interfaces := #[]
  cf := none
  fields := #[]
  methods := #[]
  instanceTypes := #[]
  staticTypes := #[]
  resolved := #[]
  callSites := []
  init := .initialized
  statics := none
  mirror := none

def pool0 : Array CpInfo := pool [(5, u "<init>"), (0, u "()V"), (1, .class_ 10), (1, u "java/lang/Object")] 113

def k0c0 : Code := { maxStack := 0, maxLocals := 1, code := object_method_1_code, exceptionTable := #[], attributes := #[] }
def k0m0 : Method := { name := "<init>", desc := "()V", sig := { parameters := [], returnType := none }, accessFlags := 1, code := some k0c0 }
/-- java/lang/Object -/
def k0 : Class := { plain "java/lang/Object" none with
  accessFlags := 33
  interfaces := #[]
  cf := some (fileOf pool0 8 #[] #[{ accessFlags := 1, nameIndex := 5, descriptorIndex := 6, attributes := #[] }] 33 0 #[] #[])
  fields := #[]
  methods := #[k0m0]
  instanceTypes := #[]
  staticTypes := #[]
  resolved := Array.replicate 124 none
  statics := none }

def pool1 : Array CpInfo := pool [(2, .class_ 4), (1, u "java/lang/Object"), (0, u "<init>"), (0, u "()V"), (0, .methodref 8 9), (0, .class_ 10), (0, .nameAndType 11 12), (0, u "com/example/ratchetbook/ratchetbook/bill/ProrationFactorIsOnePinLaw"), (0, u "positive"), (0, u "(J)J"), (2, .long 9223372036854775807), (1, .class_ 18), (0, u "com/example/ratchetbook/ratchetbook/bill/ProrationFactor"), (0, .methodref 17 20), (0, .nameAndType 5 21), (0, u "(JJ)V"), (0, .methodref 17 23), (0, .nameAndType 24 25), (0, u "isOne"), (0, u "()Z"), (0, .fieldref 17 27), (0, .nameAndType 28 29), (0, u "ONE"), (0, u "Lcom/example/ratchetbook/ratchetbook/bill/ProrationFactor;"), (2, u "law"), (0, u "(JJI)Z")] 3

def k1m0 : Method := { name := "<init>", desc := "()V", sig := { parameters := [], returnType := none }, accessFlags := 1, code := none }
def k1c1 : Code := { maxStack := 6, maxLocals := 12, code := code, exceptionTable := #[], attributes := #[] }
def k1m1 : Method := { name := "law", desc := "(JJI)Z", sig := { parameters := [.long, .long, .int], returnType := some .boolean }, accessFlags := 9, code := some k1c1 }
def k1c2 : Code := { maxStack := 4, maxLocals := 4, code := method_3_code, exceptionTable := #[], attributes := #[] }
def k1m2 : Method := { name := "positive", desc := "(J)J", sig := { parameters := [.long], returnType := some .long }, accessFlags := 10, code := some k1c2 }
/-- com/example/ratchetbook/ratchetbook/bill/ProrationFactorIsOnePinLaw -/
def k1 : Class := { plain "com/example/ratchetbook/ratchetbook/bill/ProrationFactorIsOnePinLaw" (some 0) with
  accessFlags := 49
  interfaces := #[]
  cf := some (fileOf pool1 8 #[] #[{ accessFlags := 1, nameIndex := 5, descriptorIndex := 6, attributes := #[] }, { accessFlags := 9, nameIndex := 32, descriptorIndex := 33, attributes := #[] }, { accessFlags := 10, nameIndex := 11, descriptorIndex := 12, attributes := #[] }] 49 2 #[] #[])
  fields := #[]
  methods := #[k1m0, k1m1, k1m2]
  instanceTypes := #[]
  staticTypes := #[]
  resolved := Array.replicate 37 none
  statics := none }

def pool2 : Array CpInfo := pool [(1, .methodref 2 3), (0, .class_ 4), (0, .nameAndType 5 6), (0, u "java/lang/Object"), (0, u "<init>"), (0, u "()V"), (0, .class_ 8), (0, u "java/lang/Record")] 13

def k2c0 : Code := { maxStack := 1, maxLocals := 1, code := jdk_30_method_1_code, exceptionTable := #[], attributes := #[] }
def k2m0 : Method := { name := "<init>", desc := "()V", sig := { parameters := [], returnType := none }, accessFlags := 4, code := some k2c0 }
/-- java/lang/Record -/
def k2 : Class := { plain "java/lang/Record" (some 0) with
  accessFlags := 1057
  interfaces := #[]
  cf := some (fileOf pool2 7 #[] #[{ accessFlags := 4, nameIndex := 5, descriptorIndex := 6, attributes := #[] }] 1057 2 #[] #[])
  fields := #[]
  methods := #[k2m0]
  instanceTypes := #[]
  staticTypes := #[]
  resolved := Array.replicate 22 none
  statics := none }

def pool3 : Array CpInfo := pool [(1, .methodref 2 3), (0, .class_ 4), (0, .nameAndType 5 6), (0, u "java/lang/Record"), (0, u "<init>"), (0, u "()V"), (9, .fieldref 17 18), (0, .class_ 19), (0, .nameAndType 20 21), (0, u "com/example/ratchetbook/ratchetbook/bill/ProrationFactor"), (0, u "days"), (0, u "J"), (0, .fieldref 17 23), (0, .nameAndType 24 21), (0, u "standardDays"), (48, u "(JJ)V"), (2, u "ONE"), (0, u "Lcom/example/ratchetbook/ratchetbook/bill/ProrationFactor;"), (0, u "DECIMALS"), (0, u "I"), (6, u "isOne"), (0, u "()Z")] 44

def k3c0 : Code := { maxStack := 6, maxLocals := 5, code := prog_15_method_1_code, exceptionTable := #[], attributes := #[] }
def k3m0 : Method := { name := "<init>", desc := "(JJ)V", sig := { parameters := [.long, .long], returnType := none }, accessFlags := 1, code := some k3c0 }
def k3c1 : Code := { maxStack := 4, maxLocals := 1, code := prog_15_method_2_code, exceptionTable := #[], attributes := #[] }
def k3m1 : Method := { name := "isOne", desc := "()Z", sig := { parameters := [], returnType := some .boolean }, accessFlags := 1, code := some k3c1 }
/-- com/example/ratchetbook/ratchetbook/bill/ProrationFactor -/
def k3 : Class := { plain "com/example/ratchetbook/ratchetbook/bill/ProrationFactor" (some 2) with
  accessFlags := 49
  interfaces := #[]
  cf := some (fileOf pool3 17 #[] #[{ accessFlags := 1, nameIndex := 5, descriptorIndex := 73, attributes := #[] }, { accessFlags := 1, nameIndex := 86, descriptorIndex := 87, attributes := #[] }] 49 2 #[] #[{ accessFlags := 18, nameIndex := 20, descriptorIndex := 21, attributes := #[] }, { accessFlags := 18, nameIndex := 24, descriptorIndex := 21, attributes := #[] }, { accessFlags := 25, nameIndex := 76, descriptorIndex := 77, attributes := #[] }, { accessFlags := 26, nameIndex := 78, descriptorIndex := 79, attributes := #[] }])
  fields := #[{ name := "days", type := .long, accessFlags := 18, slot := 0, constantValue := 0 }, { name := "standardDays", type := .long, accessFlags := 18, slot := 1, constantValue := 0 }, { name := "ONE", type := (.object "com/example/ratchetbook/ratchetbook/bill/ProrationFactor"), accessFlags := 25, slot := 0, constantValue := 0 }, { name := "DECIMALS", type := .int, accessFlags := 26, slot := 1, constantValue := 0 }]
  methods := #[k3m0, k3m1]
  instanceTypes := #[.long, .long]
  staticTypes := #[(.object "com/example/ratchetbook/ratchetbook/bill/ProrationFactor"), .int]
  resolved := Array.replicate 132 none
  statics := some 0 }

def pool4 : Array CpInfo := pool [(1, u "java/lang/Cloneable"), (0, .class_ 1), (0, u "java/lang/Object"), (0, .class_ 3)] 3

/-- java/lang/Cloneable -/
def k4 : Class := { plain "java/lang/Cloneable" (some 0) with
  accessFlags := 1537
  interfaces := #[]
  cf := some (fileOf pool4 2 #[] #[] 1537 4 #[] #[])
  fields := #[]
  methods := #[]
  instanceTypes := #[]
  staticTypes := #[]
  resolved := Array.replicate 8 none
  statics := none }

def pool5 : Array CpInfo := pool [(1, u "java/io/Serializable"), (0, .class_ 1), (0, u "java/lang/Object"), (0, .class_ 3)] 3

/-- java/io/Serializable -/
def k5 : Class := { plain "java/io/Serializable" (some 0) with
  accessFlags := 1537
  interfaces := #[]
  cf := some (fileOf pool5 2 #[] #[] 1537 4 #[] #[])
  fields := #[]
  methods := #[]
  instanceTypes := #[]
  staticTypes := #[]
  resolved := Array.replicate 8 none
  statics := none }

/-- the primitive byte -/
def k6 : Class := { plain "byte" none with kind := .primitive 'B', accessFlags := 0x411 }
/-- [B -/
def k7 : Class := { plain "[B" (some 0) with kind := .array 6 .byte, interfaces := #[4, 5], accessFlags := 1041 }

/-- the primitive int -/
def k8 : Class := { plain "int" none with kind := .primitive 'I', accessFlags := 0x411 }
/-- [I -/
def k9 : Class := { plain "[I" (some 0) with kind := .array 8 .int, interfaces := #[4, 5], accessFlags := 1041 }

def heap : Heap := #[{ cls := 3, slots := #[.ref 1, .int 0], vm := .statics 3 },
  { cls := 3, slots := #[.long 1, .long 1], vm := .none }]
def classes : Array Class := #[k0, k1, k2, k3, k4, k5, k6, k7, k8, k9]
def interned : List (Array UInt16 × Addr) := []
def slotsUsed : Nat := 4
def theMethod : MethodId := ⟨1, 1⟩
def args0 : Array Value := #[.long 5, .long 5, .int 5]
def aboutOver (below : List Frame) : State where
  vm := { classes := classes, interned := interned.toArray }
  heap := heap
  slotsUsed := slotsUsed
  threads := #[{ frames := .invoking theMethod args0 :: below }]
def below0 : List Frame := [.native { method := ⟨0, 0⟩, args := #[] }]
def about1 : State := aboutOver below0
def p0 : Program := .bare "" "" ""
def e0 : Env := launch0.env 0 0 0
theorem w_frames : about1.frames = Frame.invoking theMethod args0 :: below0 := rfl
set_option maxRecDepth 65536 in
theorem w_args : argsFit about1.vm theMethod args0 = true := by decide +kernel
set_option maxRecDepth 65536 in
theorem w_heap : heapFits about1 = true := by decide +kernel
set_option maxRecDepth 65536 in
theorem w_runnable : about1.curStatus? = some .runnable := by decide +kernel
set_option maxRecDepth 65536 in
theorem w_alone : about1.alone = true := by decide +kernel
set_option maxRecDepth 65536 in
theorem w_named : about1.methodNamed? x = some theMethod := by decide +kernel
set_option maxRecDepth 65536 in
theorem w_hears : about1.hears theMethod below0 = true := by decide +kernel
set_option maxRecDepth 65536 in
theorem w_ripe : about1.ripe theMethod args0 below0 = true := by decide +kernel
theorem w_running : about1.status = .running := rfl
set_option maxRecDepth 65536 in
theorem w_room : about1.hasRoom e0.platform room_1 = true :=
  launch0.hasRoom_least _ room_1 (by decide +kernel) (by decide +kernel) (by decide +kernel) (by decide +kernel) (by decide +kernel) (by decide +kernel)
theorem allAtoms_all (ts : List Jvm.Cond) (a : Array Jvm.Value) (st : Jvm.State) : (allAtoms ts).before a st = ts.all (fun c => c.before a st) := by
  induction ts with
  | nil => rfl
  | cons c t ih =>
    show (Jvm.Cond.and c (allAtoms t)).before a st = _
    rw [Jvm.Cond.before_and, ih, List.all_cons]
def words1 : List Jvm.Cond := Jvm.Cond.code x code maxLocals ret :: tables_1
/-- a 'code' word, met by the world's own term for the bytes: nothing is compared byte by byte -/
theorem code_word {y : MethodName} {bytes : ByteArray} {mx : Nat} {rt : Option FieldType} {a : Array Value} {s : State} {m : MethodId} {meth : Method} {c : Code} (h1 : s.methodNamed? y = some m) (h2 : s.vm.method? m = some meth) (h3 : meth.code = some c) (h4 : c.code = bytes)
    (h5 : (c.maxLocals == mx && c.exceptionTable.isEmpty && decide (c.maxStack ≤ mostOperands) && decide (meth.sig.returnType = rt) && !meth.locks && decide (parseMethodDescriptor y.desc = some meth.sig)) = true) : (Jvm.Cond.code y bytes mx rt).before a s = true := by
  simp only [Bool.and_eq_true, beq_iff_eq, Bool.not_eq_true', decide_eq_true_eq] at h5
  obtain ⟨⟨⟨⟨⟨g1, g2⟩, g3⟩, g4⟩, g5⟩, g6⟩ := h5
  simp [Cond.before, Cond.holds, Cond.value, h1, h2, h3, h4, g1, g2, g3, g4, g5, g6]
def isCode : Jvm.Cond → Bool
  | .code _ _ _ _ => true
  | _ => false
theorem all_split {L : List Jvm.Cond} {P : Jvm.Cond → Bool} (h1 : L.all (fun c => isCode c || P c) = true) (h2 : ∀ c ∈ L.filter isCode, P c = true) : L.all P = true := by
  refine List.all_eq_true.mpr fun c hc => ?_
  have h := List.all_eq_true.mp h1 c hc
  rcases Bool.eq_false_or_eq_true (isCode c) with hi | hi
  · exact h2 c (List.mem_filter.mpr ⟨hc, hi⟩)
  · simpa [hi] using h
set_option maxRecDepth 65536 in
theorem w_c0 : (Jvm.Cond.code x code maxLocals ret).before args0 about1 = true := code_word (m := ⟨1, 1⟩) (meth := k1m1) (c := k1c1) (by decide +kernel) rfl rfl rfl (by decide +kernel)
set_option maxRecDepth 65536 in
theorem w_c1 : (Jvm.Cond.code ({ cls := "com/example/ratchetbook/ratchetbook/bill/ProrationFactorIsOnePinLaw", name := "positive", desc := "(J)J" } : Jvm.MethodName) method_3_code (4 : Nat) (Option.some Jvm.ClassFile.FieldType.long)).before args0 about1 = true := code_word (m := ⟨1, 2⟩) (meth := k1m2) (c := k1c2) (by decide +kernel) rfl rfl rfl (by decide +kernel)
set_option maxRecDepth 65536 in
theorem w_c2 : (Jvm.Cond.code ({ cls := "com/example/ratchetbook/ratchetbook/bill/ProrationFactor", name := "<init>", desc := "(JJ)V" } : Jvm.MethodName) prog_15_method_1_code (5 : Nat) (Option.none : Option Jvm.ClassFile.FieldType)).before args0 about1 = true := code_word (m := ⟨3, 0⟩) (meth := k3m0) (c := k3c0) (by decide +kernel) rfl rfl rfl (by decide +kernel)
set_option maxRecDepth 65536 in
theorem w_c3 : (Jvm.Cond.code ({ cls := "java/lang/Record", name := "<init>", desc := "()V" } : Jvm.MethodName) jdk_30_method_1_code (1 : Nat) (Option.none : Option Jvm.ClassFile.FieldType)).before args0 about1 = true := code_word (m := ⟨2, 0⟩) (meth := k2m0) (c := k2c0) (by decide +kernel) rfl rfl rfl (by decide +kernel)
set_option maxRecDepth 65536 in
theorem w_c4 : (Jvm.Cond.code ({ cls := "java/lang/Object", name := "<init>", desc := "()V" } : Jvm.MethodName) object_method_1_code (1 : Nat) (Option.none : Option Jvm.ClassFile.FieldType)).before args0 about1 = true := code_word (m := ⟨0, 0⟩) (meth := k0m0) (c := k0c0) (by decide +kernel) rfl rfl rfl (by decide +kernel)
set_option maxRecDepth 65536 in
theorem w_c5 : (Jvm.Cond.code ({ cls := "com/example/ratchetbook/ratchetbook/bill/ProrationFactor", name := "isOne", desc := "()Z" } : Jvm.MethodName) prog_15_method_2_code (1 : Nat) (Option.some Jvm.ClassFile.FieldType.boolean)).before args0 about1 = true := code_word (m := ⟨3, 1⟩) (meth := k3m1) (c := k3c1) (by decide +kernel) rfl rfl rfl (by decide +kernel)
def codes1 : List Jvm.Cond := [Jvm.Cond.code x code maxLocals ret, Jvm.Cond.code ({ cls := "com/example/ratchetbook/ratchetbook/bill/ProrationFactorIsOnePinLaw", name := "positive", desc := "(J)J" } : Jvm.MethodName) method_3_code (4 : Nat) (Option.some Jvm.ClassFile.FieldType.long), Jvm.Cond.code ({ cls := "com/example/ratchetbook/ratchetbook/bill/ProrationFactor", name := "<init>", desc := "(JJ)V" } : Jvm.MethodName) prog_15_method_1_code (5 : Nat) (Option.none : Option Jvm.ClassFile.FieldType), Jvm.Cond.code ({ cls := "java/lang/Record", name := "<init>", desc := "()V" } : Jvm.MethodName) jdk_30_method_1_code (1 : Nat) (Option.none : Option Jvm.ClassFile.FieldType), Jvm.Cond.code ({ cls := "java/lang/Object", name := "<init>", desc := "()V" } : Jvm.MethodName) object_method_1_code (1 : Nat) (Option.none : Option Jvm.ClassFile.FieldType), Jvm.Cond.code ({ cls := "com/example/ratchetbook/ratchetbook/bill/ProrationFactor", name := "isOne", desc := "()Z" } : Jvm.MethodName) prog_15_method_2_code (1 : Nat) (Option.some Jvm.ClassFile.FieldType.boolean)]
set_option maxRecDepth 65536 in
theorem codes_eq : words1.filter isCode = codes1 := rfl
theorem w_codes : ∀ c ∈ words1.filter isCode, c.before args0 about1 = true := by
  rw [codes_eq]
  intro c hc
  simp only [codes1, List.mem_cons, List.not_mem_nil, or_false] at hc
  rcases hc with rfl | rfl | rfl | rfl | rfl | rfl
  · exact w_c0
  · exact w_c1
  · exact w_c2
  · exact w_c3
  · exact w_c4
  · exact w_c5
set_option maxRecDepth 65536 in
theorem w_t1 : (words1.take 24).all (fun c => isCode c || c.before args0 about1) = true := by decide +kernel
set_option maxRecDepth 65536 in
theorem w_t2 : (words1.drop 24).all (fun c => isCode c || c.before args0 about1) = true := by decide +kernel
theorem w_tables : (allAtoms (Jvm.Cond.code x code maxLocals ret :: tables_1)).before args0 about1 = true := by
  rw [allAtoms_all]
  show words1.all (fun c => c.before args0 about1) = true
  refine all_split ?_ w_codes
  rw [← List.take_append_drop 24 words1, List.all_append, w_t1, w_t2]
  rfl
set_option maxRecDepth 65536 in
theorem w_case : (Jvm.Cond.and given_1 narrow_1).before args0 about1 = true := by decide +kernel
theorem w_applies : (headSpec (Jvm.Cond.code x code maxLocals ret :: tables_1) room_1).applies x e0.platform about1 = true :=
  (Spec.applies_iff w_frames).mpr ⟨w_running, w_runnable, w_alone, w_named, w_hears, w_ripe, w_room, w_tables⟩
theorem atStart : AtStart classFile x code maxLocals ret World_1 tables_1 room_1 Calls_1 rest_1 Pre_1 launch0 p0 e0 about1 theMethod args0 below0 :=
  ⟨lists_1, trivial, launch0.admits_env _ _ _, launch0.least_env, fairChoices_fair.cas, fairChoices_fair.clock, w_frames, w_args, w_heap, w_applies, trivial, trivial, w_case⟩
end start1
theorem witness_1 : WitnessClaimed_1 := ⟨start1.p0, start1.e0, start1.about1, start1.theMethod, start1.args0, start1.below0, start1.atStart⟩
end Jvm.Pilot.@@N@@
