import JvmDerived
import JvmDerived.Pilot.@@N@@Statement
import JvmDerived.Pilot.@@N@@Code
set_option linter.unusedVariables false
set_option linter.unusedSimpArgs false
namespace Jvm.Pilot.@@N@@
open Jvm Jvm.ClassFile Sem Op Lib Jvm.Free Jvm.Stand Jvm.LawKit Jvm.RoadKit Bundle Jvm.Pilot.@@N@@.Jvm.D
abbrev jv (x : Int64) : Slot := .val (.long x)
theorem ow {Z : State} {a0 : Array Value} (hw : ∀ d ∈ tables_1, d.before a0 Z = true) (i : Nat) {d : Jvm.Cond} (h : tables_1[i]? = some d) : d.before a0 Z = true := hw _ (List.mem_of_getElem? h)
section OwnKit
variable {p : Program} {l : Launch} {e : Env} {R : Room} {s : State} {m : MethodId} {args : Array Value} {below : List Frame} {meth : Method} {c : Code} {T T' : State} {locs : List Loc} {cells slots kc ks : Nat} {Q : Option Value → Heap → List Loc → Prop} {g g' : JFrame}
/-- from this state and frame on the body ends, and Q holds of what it returns, of the heap and of the places written -/
def OwnG (p : Program) (e : Env) (below : List Frame) (s : State) (kc ks : Nat) (Q : Option Value → Heap → List Loc → Prop) (T : State) (g : JFrame) : Prop :=
  ∃ s₂ o, Steps p.tables e below (T.setTop g) s₂ ∧ s₂.status = .running ∧ Ended s₂ below o ∧ ∃ v L, o = .returned v ∧ Q v s₂.heap L ∧ FrameEnd s o s₂ L kc ks
theorem own_by (k : ∀ t, Steps p.tables e below (T'.setTop g') t → Steps p.tables e below (T.setTop g) t) (h : OwnG p e below s kc ks Q T' g') : OwnG p e below s kc ks Q T g := by
  obtain ⟨s₂, o, st, r⟩ := h
  exact ⟨s₂, o, k _ st, r⟩
theorem own_out (X : Stand p l e R s m args below meth c T locs cells slots) (hlk : meth.locks = false) {v : Option Value} (hv : meth.sig.returnType = none → v = none)
    (hst : ∀ fs, (∀ (f : JFrame) (acts : List Action), f.method = m → f.locked = none → f.entered = [] → (doReturn e (T.setTop f) acts v).1 = T.setFrames fs) → Steps p.tables e below (T.setTop g) (T.setFrames fs))
    (hq : Q v T.heap locs) (hc : cells ≤ kc) (hs : slots ≤ ks) : OwnG p e below s kc ks Q T g := by
  obtain ⟨fs, hr, hrun, hended, hW, hsame⟩ := X.leave (v := v) hv hlk
  exact ⟨_, _, hst fs hr, hrun, hended, v, locs, rfl, hq, ⟨_, rfl⟩, hW, hsame.mono hc hs⟩
def OwnGW (p : Program) (e : Env) (below : List Frame) (s : State) (kc ks : Nat) (Q : Option Value → Heap → List Loc → Prop) (T : State) (g : JFrame) : Prop :=
  ∃ s₂ o, Steps p.tables e below (T.setTop g) s₂ ∧ s₂.status = .running ∧ Ended s₂ below o ∧ ∃ v L, o = .returned v ∧ Q v s₂.heap L ∧ ReturnedEndW s o s₂ L kc ks
theorem own_byW (k : ∀ t, Steps p.tables e below (T'.setTop g') t → Steps p.tables e below (T.setTop g) t) (h : OwnGW p e below s kc ks Q T' g') : OwnGW p e below s kc ks Q T g := by
  obtain ⟨s₂, o, st, r⟩ := h
  exact ⟨s₂, o, k _ st, r⟩
theorem own_outW {vm : Vm} {k : Nat} (X : Stand p l e R (s.setVm vm) m args below meth c T locs cells slots) (hS : s.Since vm k) (hk : k ≤ T.heap.size) (hlk : meth.locks = false) {v : Option Value} (hv : meth.sig.returnType = none → v = none)
    (hst : ∀ fs, (∀ (f : JFrame) (acts : List Action), f.method = m → f.locked = none → f.entered = [] → (doReturn e (T.setTop f) acts v).1 = T.setFrames fs) → Steps p.tables e below (T.setTop g) (T.setFrames fs))
    (hq : Q v T.heap locs) (hc : cells ≤ kc) (hs : slots ≤ ks) : OwnGW p e below s kc ks Q T g := by
  obtain ⟨fs, hr, hrun, hended, h1, h2, h3, h4⟩ := X.leaveW hS hk (v := v) hv hlk
  exact ⟨_, _, hst fs hr, hrun, hended, v, locs, rfl, hq, h1, h2, h3, h4.mono hc hs⟩
def OwnGH (p : Program) (e : Env) (below : List Frame) (s Z : State) (EL : List (String × Nat)) (kc ks : Nat) (Q : Option Value → Heap → List Loc → Prop) (T : State) (g : JFrame) : Prop :=
  ∃ s₂ o, Steps p.tables e below (T.setTop g) s₂ ∧ s₂.status = .running ∧ Ended s₂ below o ∧ ∃ v L, o = .returned v ∧ Q v s₂.heap L ∧ CHr Z EL s.vm s.heap s₂.vm s₂.heap ∧ ReturnedEndW s o s₂ L kc ks
theorem own_byH {Z : State} {EL : List (String × Nat)} (k : ∀ t, Steps p.tables e below (T'.setTop g') t → Steps p.tables e below (T.setTop g) t) (h : OwnGH p e below s Z EL kc ks Q T' g') : OwnGH p e below s Z EL kc ks Q T g := by
  obtain ⟨s₂, o, st, r⟩ := h
  exact ⟨s₂, o, k _ st, r⟩
theorem own_outH {Z : State} {a0 : Array Value} {EL : List (String × Nat)} {h0 : Heap} {vm : Vm} {k : Nat} (X : Stand p l e R (s.setVm vm) m args below meth c T locs cells slots) (hh : s.heap = h0) (hEL : EW Z a0 EL) (hS : s.Since vm k) (hk : k ≤ T.heap.size) (HR : CHr Z EL s.vm h0 vm T.heap) (hZ : Z.Warmed39 vm) (hlk : meth.locks = false) {v : Option Value} (hv : meth.sig.returnType = none → v = none)
    (hst : ∀ fs, (∀ (f : JFrame) (acts : List Action), f.method = m → f.locked = none → f.entered = [] → (doReturn e (T.setTop f) acts v).1 = T.setFrames fs) → Steps p.tables e below (T.setTop g) (T.setFrames fs))
    (hq : Q v T.heap locs) (hc : cells ≤ kc) (hs : slots ≤ ks) : OwnGH p e below s Z EL kc ks Q T g := by
  obtain ⟨fs, hr, hrun, hended, h1, h2, h3, h4⟩ := X.leaveW hS hk (v := v) hv hlk
  have C := HR.trans (CHv.at X hZ hEL HR.1)
  exact ⟨_, _, hst fs hr, hrun, hended, v, locs, rfl, hq, (by rw [hh]; exact C), h1, h2, h3, h4.mono hc hs⟩
theorem own_lt (x y : Int64) : lcmpW x y < 0 ↔ x < y := by rw [lcW]; exact lc_lt x y
theorem own_gt (x y : Int64) : 0 < lcmpW x y ↔ y < x := by rw [lcW]; exact lc_gt x y
theorem own_eq (x y : Int64) : lcmpW x y = 0 ↔ x = y := by rw [lcW]; exact lc_eq x y
theorem own_fldI {Z : State} {a : Addr} {t : Jvm.Term} {C n d : String} {k : Int32} (ev : t.eval args Z none [] Z = some (.ref a)) (h : (Jvm.Cond.eq (Jvm.Term.field t C n d) (Jvm.Term.int k)).value args Z none Z [] = some true) : Fld Z Z.heap a C n d (.int k) := by
  obtain ⟨x, y, h1, h2, h3, h4⟩ := cmp_v (Or.inl h)
  cases (Term.int_eval k).symm.trans h2
  obtain ⟨z, rfl⟩ := h4
  rw [fld_at ev] at h1
  have h5 : (Jvm.Cond.eq (Jvm.Term.field t C n d) (Jvm.Term.int k)).value args Z none Z [] = some (decide (z = k)) := by simp [Jvm.Cond.value, fld_at ev, h1, Term.int_eval]
  cases gotT h5 h
  exact Fld.start h1
theorem own_fldJ {Z : State} {a : Addr} {t : Jvm.Term} {C n d : String} {k : Int64} (ev : t.eval args Z none [] Z = some (.ref a)) (h : (Jvm.Cond.eq (Jvm.Term.field t C n d) (Jvm.Term.long k)).value args Z none Z [] = some true) : Fld Z Z.heap a C n d (.long k) := by
  obtain ⟨x, y, h1, h2, h3, h4⟩ := cmp_v (Or.inl h)
  cases (long_at k).symm.trans h2
  obtain ⟨z, rfl⟩ := h4
  have h5 := gotT (eq_L h1 (long_at k)) h
  rw [fld_at ev] at h1
  cases h5
  exact Fld.start h1
theorem own_fldN {Z : State} {a : Addr} {t : Jvm.Term} {C n d : String} (ev : t.eval args Z none [] Z = some (.ref a)) (h : (Jvm.Cond.eq (Jvm.Term.field t C n d) Jvm.Term.null).value args Z none Z [] = some true) : Fld Z Z.heap a C n d .null := by
  have h1 := null_v h
  rw [fld_at ev] at h1
  exact Fld.start h1
theorem own_e0 {P : Prop} [Decidable P] (h : (if P then (1 : Int32) else (0 : Int32)) = 0) : ¬ P := fun q => by rw [if_pos q] at h; exact absurd h (by decide)
theorem own_e1 {P : Prop} [Decidable P] (h : ¬ (if P then (1 : Int32) else (0 : Int32)) = 0) : P := by
  by_cases q : P
  · exact q
  · exact absurd (if_neg q) h
theorem own_n2 {P Q : Prop} [Decidable P] [Decidable Q] {A : Int32} (h : ¬ (P ∧ Q)) : (if P then (if Q then A else (0 : Int32)) else (0 : Int32)) = 0 := by
  by_cases p : P
  · rw [if_pos p, if_neg (fun q => h ⟨p, q⟩)]
  · rw [if_neg p]
theorem own_narR {v : Value} {C : String} (h : v.isRef = true) : narrow (.object C) v = v := by rcases ref_cases h with rfl | ⟨_, rfl⟩ <;> rfl
theorem own_fitR {v : Value} {C : String} (h : v.isRef = true) : fits (.object C) v = true := by rcases ref_cases h with rfl | ⟨_, rfl⟩ <;> rfl
theorem own_len {Z : State} {t : Jvm.Term} {a : Addr} {cl : Cell} {ty : FieldType} {k : Int32} (et : t.eval args Z none [] Z = some (.ref a)) (A : Arr Z Z.heap a cl ty) (h : (Jvm.Term.length t).eval args Z none [] Z = some (.int k)) : cl.slots.size < 2 ^ 31 ∧ cl.slots.size.toInt32 = k := by
  have hA := A.fin (Vm.Alike.refl Z.vm)
  by_cases q : cl.slots.size < 2 ^ 31
  · rw [len_f et hA q] at h; exact ⟨q, by simpa using h⟩
  · simp [Jvm.Term.eval, et, hA] at h; exact absurd h.1 q
theorem own_mvM {Z : State} {a0 : Array Value} {own host : String} {index : Nat} {y : MethodName} (hZ : Z.Warmed39 s.vm) (w : (Jvm.Cond.methodLinkNest own index y host).before a0 Z = true) : (Jvm.Cond.methodLinkNest own index y host).before args s = true := (Cond.methodLinkNest_wide hZ w :)
end OwnKit
theorem d1_0 : decode prog_66_method_1_code 0 = .ok (.aload_n 0, 1) := by decide +kernel
theorem d1_1 : decode prog_66_method_1_code 1 = .ok (.invokespecial 1, 3) := by decide +kernel
theorem d1_4 : decode prog_66_method_1_code 4 = .ok (.aload_n 2, 1) := by decide +kernel
theorem d1_5 : decode prog_66_method_1_code 5 = .ok (.ldc 7, 2) := by decide +kernel
theorem d1_7 : decode prog_66_method_1_code 7 = .ok (.invokestatic 9, 3) := by decide +kernel
theorem d1_10 : decode prog_66_method_1_code 10 = .ok (.pop, 1) := by decide +kernel
theorem d1_11 : decode prog_66_method_1_code 11 = .ok (.iload_n 1, 1) := by decide +kernel
theorem d1_12 : decode prog_66_method_1_code 12 = .ok (.ifCond .ge 17, 3) := by decide +kernel
theorem d1_29 : decode prog_66_method_1_code 29 = .ok (.aload_n 0, 1) := by decide +kernel
theorem d1_30 : decode prog_66_method_1_code 30 = .ok (.iload_n 1, 1) := by decide +kernel
theorem d1_31 : decode prog_66_method_1_code 31 = .ok (.putfield 24, 3) := by decide +kernel
theorem d1_34 : decode prog_66_method_1_code 34 = .ok (.aload_n 0, 1) := by decide +kernel
theorem d1_35 : decode prog_66_method_1_code 35 = .ok (.aload_n 2, 1) := by decide +kernel
theorem d1_36 : decode prog_66_method_1_code 36 = .ok (.putfield 30, 3) := by decide +kernel
theorem d1_39 : decode prog_66_method_1_code 39 = .ok (.return_, 1) := by decide +kernel
theorem d2_0 : decode jdk_30_method_1_code 0 = .ok (.aload_n 0, 1) := by decide +kernel
theorem d2_1 : decode jdk_30_method_1_code 1 = .ok (.invokespecial 1, 3) := by decide +kernel
theorem d2_4 : decode jdk_30_method_1_code 4 = .ok (.return_, 1) := by decide +kernel
theorem d4_0 : decode jdk_31_method_11_code 0 = .ok (.aload_n 0, 1) := by decide +kernel
theorem d4_1 : decode jdk_31_method_11_code 1 = .ok (.ifnonnull 12, 3) := by decide +kernel
theorem d4_13 : decode jdk_31_method_11_code 13 = .ok (.aload_n 0, 1) := by decide +kernel
theorem d4_14 : decode jdk_31_method_11_code 14 = .ok (.areturn, 1) := by decide +kernel
theorem d5_0 : decode prog_66_method_2_code 0 = .ok (.aload_n 0, 1) := by decide +kernel
theorem d5_1 : decode prog_66_method_2_code 1 = .ok (.getfield 30, 3) := by decide +kernel
theorem d5_4 : decode prog_66_method_2_code 4 = .ok (.invokevirtual 33, 3) := by decide +kernel
theorem d5_7 : decode prog_66_method_2_code 7 = .ok (.lookupswitch 25 #[(0, 35), (1, 51)], 25) := by decide +kernel
theorem d5_42 : decode prog_66_method_2_code 42 = .ok (.iload_n 1, 1) := by decide +kernel
theorem d5_43 : decode prog_66_method_2_code 43 = .ok (.aload_n 0, 1) := by decide +kernel
theorem d5_44 : decode prog_66_method_2_code 44 = .ok (.getfield 24, 3) := by decide +kernel
theorem d5_47 : decode prog_66_method_2_code 47 = .ok (.if_icmp .gt 7, 3) := by decide +kernel
theorem d5_50 : decode prog_66_method_2_code 50 = .ok (.iconst 1, 1) := by decide +kernel
theorem d5_51 : decode prog_66_method_2_code 51 = .ok (.goto 20, 3) := by decide +kernel
theorem d5_54 : decode prog_66_method_2_code 54 = .ok (.iconst 0, 1) := by decide +kernel
theorem d5_55 : decode prog_66_method_2_code 55 = .ok (.goto 16, 3) := by decide +kernel
theorem d5_58 : decode prog_66_method_2_code 58 = .ok (.iload_n 1, 1) := by decide +kernel
theorem d5_59 : decode prog_66_method_2_code 59 = .ok (.aload_n 0, 1) := by decide +kernel
theorem d5_60 : decode prog_66_method_2_code 60 = .ok (.getfield 24, 3) := by decide +kernel
theorem d5_63 : decode prog_66_method_2_code 63 = .ok (.if_icmp .ge 7, 3) := by decide +kernel
theorem d5_66 : decode prog_66_method_2_code 66 = .ok (.iconst 1, 1) := by decide +kernel
theorem d5_67 : decode prog_66_method_2_code 67 = .ok (.goto 4, 3) := by decide +kernel
theorem d5_70 : decode prog_66_method_2_code 70 = .ok (.iconst 0, 1) := by decide +kernel
theorem d5_71 : decode prog_66_method_2_code 71 = .ok (.ireturn, 1) := by decide +kernel
theorem d6_0 : decode jdk_37_method_2_code 0 = .ok (.aload_n 0, 1) := by decide +kernel
theorem d6_1 : decode jdk_37_method_2_code 1 = .ok (.getfield 7, 3) := by decide +kernel
theorem d6_4 : decode jdk_37_method_2_code 4 = .ok (.ireturn, 1) := by decide +kernel
theorem pn_0 : plainName "java/lang/Record" = true := by first | (simp [plainName, overriddenIn]; done) | decide +kernel
theorem pn_1 : plainName "java/util/Objects" = true := by first | (simp [plainName, overriddenIn]; done) | decide +kernel
theorem pn_2 : plainName "java/lang/Enum" = true := by first | (simp [plainName, overriddenIn]; done) | decide +kernel
theorem pn_3 : plainName "com/example/vestry/vestry/vesting/BreakInService" = true := by first | (simp [plainName, overriddenIn]; done) | decide +kernel
theorem pn_4 : plainName "com/example/vestry/vestry/vesting/BreakInServiceIsBreakPinLaw" = true := by first | (simp [plainName, overriddenIn]; done) | decide +kernel
theorem pd_0 : parseMethodDescriptor "()V" = some ⟨[], none⟩ := by decide +kernel
theorem pd_1 : parseMethodDescriptor "(Ljava/lang/Object;Ljava/lang/String;)Ljava/lang/Object;" = some ⟨[(.object "java/lang/Object"), (.object "java/lang/String")], some (.object "java/lang/Object")⟩ := by decide +kernel
theorem pd_2 : parseMethodDescriptor "()I" = some ⟨[], some .int⟩ := by decide +kernel
theorem pd_3 : parseMethodDescriptor "(ILcom/example/vestry/vestry/vesting/BreakInService$Counting;)V" = some ⟨[.int, (.object "com/example/vestry/vestry/vesting/BreakInService$Counting")], none⟩ := by decide +kernel
theorem pd_4 : parseMethodDescriptor "(I)Z" = some ⟨[.int], some .boolean⟩ := by decide +kernel
theorem ef_rm2 (m : MethodId) (x0 : Addr) : entryFrame m #[(.ref x0)] 1 = mkF m 0 #[.val (.ref x0)] [] := by first | (simp [entryFrame, mkF, argsToLocals, Value.category]; done) | rfl
theorem ef_rm4 (m : MethodId) (x0 : Addr) (x1 : Addr) : entryFrame m #[(.ref x0), (.ref x1)] 2 = mkF m 0 #[.val (.ref x0), .val (.ref x1)] [] := by first | (simp [entryFrame, mkF, argsToLocals, Value.category]; done) | rfl
theorem ef_rm6 (m : MethodId) (x0 : Addr) : entryFrame m #[(.ref x0)] 1 = mkF m 0 #[.val (.ref x0)] [] := by first | (simp [entryFrame, mkF, argsToLocals, Value.category]; done) | rfl
theorem ef_rm1 (m : MethodId) (x0 : Addr) (x1 : Int32) (x2 : Addr) : entryFrame m #[(.ref x0), (.int x1), (.ref x2)] 3 = mkF m 0 #[.val (.ref x0), .val (.int x1), .val (.ref x2)] [] := by first | (simp [entryFrame, mkF, argsToLocals, Value.category]; done) | rfl
theorem ef_rm5_0 (m : MethodId) (x0 : Addr) (x1 : Int32) : entryFrame m #[(.ref x0), (.int x1)] 2 = mkF m 0 #[.val (.ref x0), .val (.int x1)] [] := by first | (simp [entryFrame, mkF, argsToLocals, Value.category]; done) | rfl
theorem ef_rm5_1 (m : MethodId) (x0 : Addr) (x1 : Int32) : entryFrame m #[(.ref x0), (.int x1)] 2 = mkF m 0 #[.val (.ref x0), .val (.int x1)] [] := by first | (simp [entryFrame, mkF, argsToLocals, Value.category]; done) | rfl
theorem ef_rm0 (m : MethodId) (x0 : Int32) (x1 : Int32) (x2 : Int32) : entryFrame m #[(.int x0), (.int x1), (.int x2)] maxLocals = mkF m 0 #[.val (.int x0), .val (.int x1), .val (.int x2), .unset, .unset, .unset, .unset, .unset, .unset, .unset] [] := by first | (simp [entryFrame, mkF, argsToLocals, Value.category, maxLocals]; done) | rfl
theorem own_wS {Z : State} {a0 : Array Value} (hw : ∀ d ∈ tables_1, d.before a0 Z = true) : ∀ a ∈ Bundle.stringAtoms, a.before a0 Z = true := by
  intro a ha
  simp only [Bundle.stringAtoms, List.mem_cons, List.not_mem_nil, or_false] at ha
  rcases ha with rfl | rfl | rfl | rfl | rfl | rfl | rfl
  · exact (ow hw 19 rfl)
  · exact (ow hw 20 rfl)
  · exact (ow hw 21 rfl)
  · exact (ow hw 22 rfl)
  · exact (ow hw 23 rfl)
  · exact (ow hw 24 rfl)
  · exact (ow hw 25 rfl)
theorem own_nn (x : Int32) : ¬ ((x &&& (2147483647 : Int32)) < (0 : Int32)) := by
  have h := (c_and x (2147483647 : Int32) (by decide)).1
  rw [Int32.lt_iff_toInt_lt]
  have h2 : (0 : Int32).toInt = 0 := rfl
  omega
theorem own_asym {x y : Int32} (h : x < y) : ¬ y < x := by
  rw [Int32.lt_iff_toInt_lt] at h ⊢; omega
theorem own_irr (x : Int32) : ¬ x < x := by
  rw [Int32.lt_iff_toInt_lt]; omega
theorem own_tri {x y : Int32} (h : ¬ x < y) (h' : ¬ x = y) : y < x := by
  rw [Int32.lt_iff_toInt_lt] at h ⊢
  have : x.toInt ≠ y.toInt := fun e => h' (Int32.toInt_inj.mp e)
  omega
def Q_rm2 (Z : State) (a1 : Addr) (h0 : Heap) (n0 : Nat) : Option Value → Heap → List Loc → Prop := fun v h L => v = none ∧ L = [] ∧ h = h0
set_option maxRecDepth 65536 in
set_option maxHeartbeats 40000000 in
theorem rm2 (l : Launch) (Z : State) (a0 : Array Value) (hw : ∀ d ∈ tables_1, d.before a0 Z = true) (ws : List Jvm.Cond) (a1 : Addr) (h0 : Heap) (n0 : Nat) (O : Old Z n0 h0) :
    MetFree l (⟨"java/lang/Record", "<init>", "()V"⟩ : MethodName) (head1 (Jvm.Cond.code (⟨"java/lang/Record", "<init>", "()V"⟩ : MethodName) jdk_30_method_1_code 1 none :: ws) ({ frames := 1, cells := 0, slots := 0, locals := 12 } : Room)) (fun a U => a = #[(.ref a1)] ∧ Z.Warmed39 U.vm ∧ U.heap = h0) (fun _ _ _ _ _ => True) (fun _ U o U' => ∃ v L, o = .returned v ∧ (Q_rm2 Z a1 h0 n0) v U'.heap L ∧ FrameEnd U o U' L ({ frames := 1, cells := 0, slots := 0, locals := 12 } : Room).cells ({ frames := 1, cells := 0, slots := 0, locals := 12 } : Room).slots) := by
  refine MetFree.of_bodySF (plainFor_of_name pn_0) hisR ?_
  intro p e s m args below meth c s₁ Bd hml0 hP hK
  obtain ⟨rfl, hZ, hh⟩ := hP
  have hx := Bd.exec
  have hby := Bd.bytes
  have hml : c.maxLocals = 1 := hml0
  have hown : s.vm.findClass "java/lang/Record" = some m.cls := findClass_of_methodNamed Bd.named
  have hnm := (name_of_methodNamed Bd.named Bd.method).1
  have hlk := BodyLoose.notSynchronized Bd
  have X0 : Stand p l e ({ frames := 1, cells := 0, slots := 0, locals := 12 } : Room) s m #[(.ref a1)] below meth c s₁ [] 0 0 := Stand.of_body Bd
  have e0 : s₁.heap = h0 := by rw [← hh, Bd.state]; rfl
  have N := Fr.nil n0
  obtain ⟨G, hG⟩ : ∃ G : State → JFrame → Prop, G = OwnG p e below s ({ frames := 1, cells := 0, slots := 0, locals := 12 } : Room).cells ({ frames := 1, cells := 0, slots := 0, locals := 12 } : Room).slots (Q_rm2 Z a1 h0 n0) := ⟨_, rfl⟩
  have gb : ∀ {T T' : State} {g g' : JFrame}, (∀ t, Steps p.tables e below (T'.setTop g') t → Steps p.tables e below (T.setTop g) t) → G T' g' → G T g := by subst hG; exact fun k h => own_by k h
  have go : ∀ {T : State} {locs : List Loc} {cells slots : Nat} {g : JFrame} {v : Option Value}, Stand p l e ({ frames := 1, cells := 0, slots := 0, locals := 12 } : Room) s m #[(.ref a1)] below meth c T locs cells slots → (meth.sig.returnType = none → v = none) → (∀ fs, (∀ (f : JFrame) (acts : List Action), f.method = m → f.locked = none → f.entered = [] → (doReturn e (T.setTop f) acts v).1 = T.setFrames fs) → Steps p.tables e below (T.setTop g) (T.setFrames fs)) → (Q_rm2 Z a1 h0 n0) v T.heap locs → cells ≤ ({ frames := 1, cells := 0, slots := 0, locals := 12 } : Room).cells → slots ≤ ({ frames := 1, cells := 0, slots := 0, locals := 12 } : Room).slots → G T g := by subst hG; exact fun X h1 h2 h3 h4 h5 => own_out X hlk h1 h2 h3 h4 h5
  show OwnG p e below s ({ frames := 1, cells := 0, slots := 0, locals := 12 } : Room).cells ({ frames := 1, cells := 0, slots := 0, locals := 12 } : Room).slots (Q_rm2 Z a1 h0 n0) s₁ (entryFrame m #[(.ref a1)] 1)
  rw [← hG, ef_rm2 m a1]
  clear hG
  show G s₁ (mkF m 0 #[.val (.ref a1)] [])
  refine gb (fun _ k => XS.aloadN X0.here hx rfl (hb hby d2_0) rfl rfl k) ?_
  show G s₁ (mkF m 1 #[rv a1] [.ref a1])
  obtain ⟨T1, X1, e1, st1⟩ := initO X0 hx hZ hown (ow hw 15 rfl) (ow hw 16 rfl) (ow hw 17 rfl) e0 (g := (mkF m 1 #[rv a1] [.ref a1])) rfl (by rw [hml]; rfl) rfl (hb hby d2_1) (by decide) (W := 0) (by show 2 * 0 + _ ≤ _; exact Nat.le_of_eq rfl) (by decide)
  refine gb st1 ?_
  show G T1 (mkF m 4 #[rv a1] [])
  exact go X1 (v := none) (fun _ => rfl) (fun fs hr => X1.returnOut hx Bd.returns (hb hby d2_4) hr) (⟨rfl, rfl, e1⟩) (by decide) (by decide)
def Q_rm4 (Z : State) (a1 a2 : Addr) (h0 : Heap) (n0 : Nat) : Option Value → Heap → List Loc → Prop := fun v h L => v = some (.ref a1) ∧ L = [] ∧ h = h0
set_option maxRecDepth 65536 in
set_option maxHeartbeats 40000000 in
theorem rm4 (l : Launch) (Z : State) (a0 : Array Value) (hw : ∀ d ∈ tables_1, d.before a0 Z = true) (ws : List Jvm.Cond) (a1 a2 : Addr) (h0 : Heap) (n0 : Nat) (O : Old Z n0 h0) :
    MetFree l (⟨"java/util/Objects", "requireNonNull", "(Ljava/lang/Object;Ljava/lang/String;)Ljava/lang/Object;"⟩ : MethodName) (head1 (Jvm.Cond.code (⟨"java/util/Objects", "requireNonNull", "(Ljava/lang/Object;Ljava/lang/String;)Ljava/lang/Object;"⟩ : MethodName) jdk_31_method_11_code 2 (some (.object "java/lang/Object")) :: ws) ({ frames := 0, cells := 0, slots := 0, locals := 0 } : Room)) (fun a U => a = #[(.ref a1), (.ref a2)] ∧ Z.Warmed39 U.vm ∧ U.heap = h0) (fun _ _ _ _ _ => True) (fun _ U o U' => ∃ v L, o = .returned v ∧ (Q_rm4 Z a1 a2 h0 n0) v U'.heap L ∧ FrameEnd U o U' L ({ frames := 0, cells := 0, slots := 0, locals := 0 } : Room).cells ({ frames := 0, cells := 0, slots := 0, locals := 0 } : Room).slots) := by
  refine MetFree.of_bodySF (plainFor_of_name pn_1) hisR ?_
  intro p e s m args below meth c s₁ Bd hml0 hP hK
  obtain ⟨rfl, hZ, hh⟩ := hP
  have hx := Bd.exec
  have hby := Bd.bytes
  have hml : c.maxLocals = 2 := hml0
  have hown : s.vm.findClass "java/util/Objects" = some m.cls := findClass_of_methodNamed Bd.named
  have hnm := (name_of_methodNamed Bd.named Bd.method).1
  have hlk := BodyLoose.notSynchronized Bd
  have X0 : Stand p l e ({ frames := 0, cells := 0, slots := 0, locals := 0 } : Room) s m #[(.ref a1), (.ref a2)] below meth c s₁ [] 0 0 := Stand.of_body Bd
  have e0 : s₁.heap = h0 := by rw [← hh, Bd.state]; rfl
  have N := Fr.nil n0
  obtain ⟨G, hG⟩ : ∃ G : State → JFrame → Prop, G = OwnG p e below s ({ frames := 0, cells := 0, slots := 0, locals := 0 } : Room).cells ({ frames := 0, cells := 0, slots := 0, locals := 0 } : Room).slots (Q_rm4 Z a1 a2 h0 n0) := ⟨_, rfl⟩
  have gb : ∀ {T T' : State} {g g' : JFrame}, (∀ t, Steps p.tables e below (T'.setTop g') t → Steps p.tables e below (T.setTop g) t) → G T' g' → G T g := by subst hG; exact fun k h => own_by k h
  have go : ∀ {T : State} {locs : List Loc} {cells slots : Nat} {g : JFrame} {v : Option Value}, Stand p l e ({ frames := 0, cells := 0, slots := 0, locals := 0 } : Room) s m #[(.ref a1), (.ref a2)] below meth c T locs cells slots → (meth.sig.returnType = none → v = none) → (∀ fs, (∀ (f : JFrame) (acts : List Action), f.method = m → f.locked = none → f.entered = [] → (doReturn e (T.setTop f) acts v).1 = T.setFrames fs) → Steps p.tables e below (T.setTop g) (T.setFrames fs)) → (Q_rm4 Z a1 a2 h0 n0) v T.heap locs → cells ≤ ({ frames := 0, cells := 0, slots := 0, locals := 0 } : Room).cells → slots ≤ ({ frames := 0, cells := 0, slots := 0, locals := 0 } : Room).slots → G T g := by subst hG; exact fun X h1 h2 h3 h4 h5 => own_out X hlk h1 h2 h3 h4 h5
  show OwnG p e below s ({ frames := 0, cells := 0, slots := 0, locals := 0 } : Room).cells ({ frames := 0, cells := 0, slots := 0, locals := 0 } : Room).slots (Q_rm4 Z a1 a2 h0 n0) s₁ (entryFrame m #[(.ref a1), (.ref a2)] 2)
  rw [← hG, ef_rm4 m a1 a2]
  clear hG
  show G s₁ (mkF m 0 #[.val (.ref a1), .val (.ref a2)] [])
  refine gb (fun _ k => XS.aloadN X0.here hx rfl (hb hby d4_0) rfl rfl (XS.ifnonnullYes X0.here hx rfl (pc0 := 1) (pc' := 13) rfl (hb hby d4_1) rfl (by decide) (by decide) (XS.aloadN X0.here hx rfl (hb hby d4_13) rfl rfl k))) ?_
  show G s₁ (mkF m 14 #[rv a1, rv a2] [.ref a1])
  exact go X0 (v := (some (.ref a1))) (fun h => by rw [Bd.returns] at h; cases h) (fun fs hr => retOut X0 hx Bd.returns rfl (Or.inr (Or.inr (Or.inr (Or.inr ⟨rfl, rfl, rfl⟩)))) (hb hby d4_14) hr) (⟨rfl, rfl, e0⟩) (by decide) (by decide)
def Q_rm6 (Z : State) (a1 : Addr) (k1 : Int32) (h0 : Heap) (n0 : Nat) : Option Value → Heap → List Loc → Prop := fun v h L => v = some (.int k1) ∧ L = [] ∧ h = h0
set_option maxRecDepth 65536 in
set_option maxHeartbeats 40000000 in
theorem rm6 (l : Launch) (Z : State) (a0 : Array Value) (hw : ∀ d ∈ tables_1, d.before a0 Z = true) (ws : List Jvm.Cond) (a1 : Addr) (k1 : Int32) (h0 : Heap) (n0 : Nat) (O : Old Z n0 h0) (F_o : Fld Z h0 a1 "java/lang/Enum" "ordinal" "I" (.int k1)) :
    MetFree l (⟨"java/lang/Enum", "ordinal", "()I"⟩ : MethodName) (head1 (Jvm.Cond.code (⟨"java/lang/Enum", "ordinal", "()I"⟩ : MethodName) jdk_37_method_2_code 1 (some .int) :: ws) ({ frames := 0, cells := 0, slots := 0, locals := 0 } : Room)) (fun a U => a = #[(.ref a1)] ∧ Z.Warmed39 U.vm ∧ U.heap = h0) (fun _ _ _ _ _ => True) (fun _ U o U' => ∃ v L, o = .returned v ∧ (Q_rm6 Z a1 k1 h0 n0) v U'.heap L ∧ FrameEnd U o U' L ({ frames := 0, cells := 0, slots := 0, locals := 0 } : Room).cells ({ frames := 0, cells := 0, slots := 0, locals := 0 } : Room).slots) := by
  refine MetFree.of_bodySF (plainFor_of_name pn_2) hisR ?_
  intro p e s m args below meth c s₁ Bd hml0 hP hK
  obtain ⟨rfl, hZ, hh⟩ := hP
  have hx := Bd.exec
  have hby := Bd.bytes
  have hml : c.maxLocals = 1 := hml0
  have hown : s.vm.findClass "java/lang/Enum" = some m.cls := findClass_of_methodNamed Bd.named
  have hnm := (name_of_methodNamed Bd.named Bd.method).1
  have hlk := BodyLoose.notSynchronized Bd
  have X0 : Stand p l e ({ frames := 0, cells := 0, slots := 0, locals := 0 } : Room) s m #[(.ref a1)] below meth c s₁ [] 0 0 := Stand.of_body Bd
  have e0 : s₁.heap = h0 := by rw [← hh, Bd.state]; rfl
  have N := Fr.nil n0
  obtain ⟨G, hG⟩ : ∃ G : State → JFrame → Prop, G = OwnG p e below s ({ frames := 0, cells := 0, slots := 0, locals := 0 } : Room).cells ({ frames := 0, cells := 0, slots := 0, locals := 0 } : Room).slots (Q_rm6 Z a1 k1 h0 n0) := ⟨_, rfl⟩
  have gb : ∀ {T T' : State} {g g' : JFrame}, (∀ t, Steps p.tables e below (T'.setTop g') t → Steps p.tables e below (T.setTop g) t) → G T' g' → G T g := by subst hG; exact fun k h => own_by k h
  have go : ∀ {T : State} {locs : List Loc} {cells slots : Nat} {g : JFrame} {v : Option Value}, Stand p l e ({ frames := 0, cells := 0, slots := 0, locals := 0 } : Room) s m #[(.ref a1)] below meth c T locs cells slots → (meth.sig.returnType = none → v = none) → (∀ fs, (∀ (f : JFrame) (acts : List Action), f.method = m → f.locked = none → f.entered = [] → (doReturn e (T.setTop f) acts v).1 = T.setFrames fs) → Steps p.tables e below (T.setTop g) (T.setFrames fs)) → (Q_rm6 Z a1 k1 h0 n0) v T.heap locs → cells ≤ ({ frames := 0, cells := 0, slots := 0, locals := 0 } : Room).cells → slots ≤ ({ frames := 0, cells := 0, slots := 0, locals := 0 } : Room).slots → G T g := by subst hG; exact fun X h1 h2 h3 h4 h5 => own_out X hlk h1 h2 h3 h4 h5
  show OwnG p e below s ({ frames := 0, cells := 0, slots := 0, locals := 0 } : Room).cells ({ frames := 0, cells := 0, slots := 0, locals := 0 } : Room).slots (Q_rm6 Z a1 k1 h0 n0) s₁ (entryFrame m #[(.ref a1)] 1)
  rw [← hG, ef_rm6 m a1]
  clear hG
  show G s₁ (mkF m 0 #[.val (.ref a1)] [])
  refine gb (fun _ k => XS.aloadN X0.here hx rfl (hb hby d6_0) rfl rfl k) ?_
  show G s₁ (mkF m 1 #[rv a1] [.ref a1])
  obtain ⟨T1, X1, e1, st1⟩ := getF X0 hx hZ hown (host := "") (Or.inl (ow hw 46 rfl)) Via.refl e0 F_o (g := (mkF m 1 #[rv a1] [.ref a1])) rfl rfl (hb hby d6_1)
  refine gb st1 ?_
  show G T1 (mkF m 4 #[rv a1] [.int k1])
  exact go X1 (v := (some (.int k1))) (fun h => by rw [Bd.returns] at h; cases h) (fun fs hr => retOut X1 hx Bd.returns rfl (Or.inl ⟨rfl, by simp, _, rfl⟩) (hb hby d6_4) hr) (⟨rfl, rfl, e1⟩) (by decide) (by decide)
def Q_rm1 (Z : State) (a1 a2 : Addr) (p1 : Int32) (h0 : Heap) (n0 : Nat) : Option Value → Heap → List Loc → Prop := fun v h L => v = none ∧ Fr n0 L ∧ Keep h0 h [a1] ∧ Exa Z h a1 "com/example/vestry/vestry/vesting/BreakInService" ∧ Fld Z h a1 "com/example/vestry/vestry/vesting/BreakInService" "hours" "I" (.int p1) ∧ Fld Z h a1 "com/example/vestry/vestry/vesting/BreakInService" "counting" "Lcom/example/vestry/vestry/vesting/BreakInService$Counting;" (.ref a2)
set_option maxRecDepth 65536 in
set_option maxHeartbeats 40000000 in
theorem rm1 (l : Launch) (Z : State) (a0 : Array Value) (hw : ∀ d ∈ tables_1, d.before a0 Z = true) (ws : List Jvm.Cond) (a1 a2 : Addr) (p1 : Int32) (h0 : Heap) (n0 : Nat) (O : Old Z n0 h0) (E_a1 : Exa Z h0 a1 "com/example/vestry/vestry/vesting/BreakInService") (F_hours : Fld Z h0 a1 "com/example/vestry/vestry/vesting/BreakInService" "hours" "I" (.int (0 : Int32))) (F_counting : Fld Z h0 a1 "com/example/vestry/vestry/vesting/BreakInService" "counting" "Lcom/example/vestry/vestry/vesting/BreakInService$Counting;" .null) (g_a1 : n0 ≤ a1) (h1 : ¬ (p1 < (0 : Int32))) :
    MetFree l (⟨"com/example/vestry/vestry/vesting/BreakInService", "<init>", "(ILcom/example/vestry/vestry/vesting/BreakInService$Counting;)V"⟩ : MethodName) (head1 (Jvm.Cond.code (⟨"com/example/vestry/vestry/vesting/BreakInService", "<init>", "(ILcom/example/vestry/vestry/vesting/BreakInService$Counting;)V"⟩ : MethodName) prog_66_method_1_code 3 none :: ws) ({ frames := 2, cells := 2, slots := 36, locals := 24 } : Room)) (fun a U => a = #[(.ref a1), (.int p1), (.ref a2)] ∧ Z.Warmed39 U.vm ∧ U.heap = h0) (fun _ _ _ _ _ => True) (fun _ U o U' => ∃ v L, o = .returned v ∧ (Q_rm1 Z a1 a2 p1 h0 n0) v U'.heap L ∧ ReturnedEndW U o U' L ({ frames := 2, cells := 2, slots := 36, locals := 24 } : Room).cells ({ frames := 2, cells := 2, slots := 36, locals := 24 } : Room).slots) := by
  refine MetFree.of_bodySF (plainFor_of_name pn_3) hisR ?_
  intro p e s m args below meth c s₁ Bd hml0 hP hK
  obtain ⟨rfl, hZ, hh⟩ := hP
  have hx := Bd.exec
  have hby := Bd.bytes
  have hml : c.maxLocals = 3 := hml0
  have hown : s.vm.findClass "com/example/vestry/vestry/vesting/BreakInService" = some m.cls := findClass_of_methodNamed Bd.named
  have hnm := (name_of_methodNamed Bd.named Bd.method).1
  have hlk := BodyLoose.notSynchronized Bd
  have X0 : Stand p l e ({ frames := 2, cells := 2, slots := 36, locals := 24 } : Room) (s.setVm s.vm) m #[(.ref a1), (.int p1), (.ref a2)] below meth c s₁ [] 0 0 := Stand.of_body Bd
  have e0 : s₁.heap = h0 := by rw [← hh, Bd.state]; rfl
  have N := Fr.nil n0
  have hS : s.Since s.vm h0.size := (State.WarmedH.refl s).since _
  have hk := Nat.le_refl h0.size
  have K := Keep.refl h0 [a1]
  obtain ⟨G, hG⟩ : ∃ G : State → JFrame → Prop, G = OwnGW p e below s ({ frames := 2, cells := 2, slots := 36, locals := 24 } : Room).cells ({ frames := 2, cells := 2, slots := 36, locals := 24 } : Room).slots (Q_rm1 Z a1 a2 p1 h0 n0) := ⟨_, rfl⟩
  have gb : ∀ {T T' : State} {g g' : JFrame}, (∀ t, Steps p.tables e below (T'.setTop g') t → Steps p.tables e below (T.setTop g) t) → G T' g' → G T g := by subst hG; exact fun k h => own_byW k h
  have go : ∀ {T : State} {locs : List Loc} {cells slots : Nat} {g : JFrame} {v : Option Value} {vm : Vm} {k : Nat}, Stand p l e ({ frames := 2, cells := 2, slots := 36, locals := 24 } : Room) (s.setVm vm) m #[(.ref a1), (.int p1), (.ref a2)] below meth c T locs cells slots → s.Since vm k → k ≤ T.heap.size → (meth.sig.returnType = none → v = none) → (∀ fs, (∀ (f : JFrame) (acts : List Action), f.method = m → f.locked = none → f.entered = [] → (doReturn e (T.setTop f) acts v).1 = T.setFrames fs) → Steps p.tables e below (T.setTop g) (T.setFrames fs)) → (Q_rm1 Z a1 a2 p1 h0 n0) v T.heap locs → cells ≤ ({ frames := 2, cells := 2, slots := 36, locals := 24 } : Room).cells → slots ≤ ({ frames := 2, cells := 2, slots := 36, locals := 24 } : Room).slots → G T g := by subst hG; exact fun X a b h1 h2 h3 h4 h5 => own_outW X a b hlk h1 h2 h3 h4 h5
  show OwnGW p e below s ({ frames := 2, cells := 2, slots := 36, locals := 24 } : Room).cells ({ frames := 2, cells := 2, slots := 36, locals := 24 } : Room).slots (Q_rm1 Z a1 a2 p1 h0 n0) s₁ (entryFrame m #[(.ref a1), (.int p1), (.ref a2)] 3)
  rw [← hG, ef_rm1 m a1 p1 a2]
  clear hG
  show G s₁ (mkF m 0 #[.val (.ref a1), .val (.int p1), .val (.ref a2)] [])
  refine gb (fun _ k => XS.aloadN X0.here hx rfl (hb hby d1_0) rfl rfl k) ?_
  show G s₁ (mkF m 1 #[rv a1, iv p1, rv a2] [.ref a1])
  obtain ⟨_, _, ⟨T1, Lz1, kz1, nz1⟩, -, X1, ⟨Lc1, hQ1, lq1, yq1, zq1⟩, st1⟩ := X0.specialBack hx (y := (⟨"java/lang/Record", "<init>", "()V"⟩ : MethodName)) rfl hown (mvT hZ (ow hw 10 rfl)) (mvT hZ (ow hw 11 rfl)) (mvT hZ (ow hw 14 rfl)) (by decide) (backOf (W := 0) (rm2 l Z a0 hw [] a1 h0 n0 O) hZ (ow hw 14 rfl) (ow hw 13 rfl) (by decide) (by decide)) (g := (mkF m 1 #[rv a1, iv p1, rv a2] [.ref a1])) rfl (by rw [hml]; rfl) (Steps.refl _) (a := a1) (argsL := []) (rest := []) (lenOf pd_0 rfl) rfl (by show 2 * 0 + _ ≤ _; exact Nat.le_of_eq rfl) (hb hby d1_1) (fun _ _ => ⟨rfl, e0, (by decide : 0 + 0 ≤ _), (by decide : 0 + 0 ≤ _)⟩)
  dsimp only [Pt.U, Pt.locs, Pt.cells, Pt.slots] at X1 lq1 yq1 zq1 st1 hQ1
  subst lq1 yq1 zq1
  obtain ⟨rfl, rfl, e1⟩ := hQ1
  try rw [List.append_nil] at X1
  refine gb (fun _ k => st1.trans k) ?_
  show G T1 (mkF m 4 #[rv a1, iv p1, rv a2] [])
  refine gb (fun _ k => XS.aloadN X1.here hx rfl (hb hby d1_4) rfl rfl k) ?_
  show G T1 (mkF m 5 #[rv a1, iv p1, rv a2] [.ref a2])
  obtain ⟨b2, T2, h2, kn2, X2, e2, E2, hS, hk2, hZ, hown, st2⟩ := ldcS X1 hx hZ hown (ow hw 18 rfl) (own_wS hw) e1 hS hk (g := (mkF m 5 #[rv a1, iv p1, rv a2] [.ref a2])) rfl (hb hby d1_5) (n := 32) (by decide) (by decide) (by decide) (by decide)
  have E_a1 := E_a1.ext E2
  have F_hours := F_hours.ext E2
  have F_counting := F_counting.ext E2
  have O := O.ext E2
  have hk := Nat.le_trans hk E2.1
  have K := K.ext E2
  have hk := hk2
  refine gb st2 ?_
  show G T2 (mkF m 7 #[rv a1, iv p1, rv a2] [.ref b2, .ref a2])
  obtain ⟨_, _, ⟨T3, Lz3, kz3, nz3⟩, -, X3, ⟨Lc3, hQ3, lq3, yq3, zq3⟩, st3⟩ := Jvm.LawKit.callS X2 hx (y := (⟨"java/util/Objects", "requireNonNull", "(Ljava/lang/Object;Ljava/lang/String;)Ljava/lang/Object;"⟩ : MethodName)) hown (mvT hZ (ow hw 26 rfl)) (mvT hZ (ow hw 27 rfl)) (mvT hZ (ow hw 28 rfl)) (mvT hZ (ow hw 29 rfl)) (by decide) (backOf (W := 0) (rm4 l Z a0 hw [] a2 b2 h2 n0 O) hZ (ow hw 29 rfl) (ow hw 28 rfl) (by decide) (by decide)) (g := (mkF m 7 #[rv a1, iv p1, rv a2] [.ref b2, .ref a2])) rfl (by rw [hml]; rfl) (argsL := [(.ref a2), (.ref b2)]) (rest := []) (lenOf pd_1 rfl) rfl (by show 2 * 0 + _ ≤ _; exact Nat.le_of_eq rfl) (hb hby d1_7) (fun _ _ => ⟨rfl, e2, (by decide : 2 + 0 ≤ _), (by decide : 36 + 0 ≤ _)⟩)
  dsimp only [Pt.U, Pt.locs, Pt.cells, Pt.slots] at X3 lq3 yq3 zq3 st3 hQ3
  subst lq3 yq3 zq3
  obtain ⟨rfl, rfl, e3⟩ := hQ3
  try rw [List.append_nil] at X3
  refine gb st3 ?_
  show G T3 (mkF m 10 #[rv a1, iv p1, rv a2] [.ref a2])
  refine gb (fun _ k => XS.pop X3.here hx rfl (hb hby d1_10) rfl rfl (XS.iloadN X3.here hx rfl (hb hby d1_11) rfl (XS.ifYes X3.here hx rfl (pc0 := 12) (pc' := 29) rfl (hb hby d1_12) rfl ((if0 _ _).trans (flt h1).2.1) (by decide) (by decide) (XS.aloadN X3.here hx rfl (hb hby d1_29) rfl rfl (XS.iloadN X3.here hx rfl (hb hby d1_30) rfl k))))) ?_
  show G T3 (mkF m 31 #[rv a1, iv p1, rv a2] [.int p1, .ref a1])
  obtain ⟨T4, h4, X4, e4, W4, st4⟩ := putF X3 hx hZ hown (host := "") (Or.inl (ow hw 30 rfl)) Via.refl e3 F_hours E_a1 (Or.inr ⟨(ow hw 31 rfl), rfl, hnm⟩) (ow hw 5 rfl) (ty := .int) (by decide) rfl rfl (g := (mkF m 31 #[rv a1, iv p1, rv a2] [.int p1, .ref a1])) rfl rfl (hb hby d1_31)
  refine gb st4 ?_
  have F_hours := F_hours.same W4
  have E_a1 := E_a1.wr W4
  have F_counting := F_counting.other W4 (Or.inr (slot_ne (Or.inr (ow hw 33 rfl)) (Or.inr (ow hw 31 rfl)) (by decide) (t := (.object "com/example/vestry/vestry/vesting/BreakInService$Counting")) (t' := .int) (by decide) (by decide)))
  have O := O.wr W4 g_a1
  have hk := Nat.le_trans hk (Keep.of_wr W4).1
  have K := K.wr W4 (Or.inl (List.mem_of_getElem? (i := 0) rfl))
  have N := Fr.snoc X4 N g_a1
  show G T4 (mkF m 34 #[rv a1, iv p1, rv a2] [])
  refine gb (fun _ k => XS.aloadN X4.here hx rfl (hb hby d1_34) rfl rfl (XS.aloadN X4.here hx rfl (hb hby d1_35) rfl rfl k)) ?_
  show G T4 (mkF m 36 #[rv a1, iv p1, rv a2] [.ref a2, .ref a1])
  obtain ⟨T5, h5, X5, e5, W5, st5⟩ := putF X4 hx hZ hown (host := "") (Or.inl (ow hw 32 rfl)) Via.refl e4 F_counting E_a1 (Or.inr ⟨(ow hw 33 rfl), rfl, hnm⟩) (ow hw 5 rfl) (ty := (.object "com/example/vestry/vestry/vesting/BreakInService$Counting")) (by decide) rfl rfl (g := (mkF m 36 #[rv a1, iv p1, rv a2] [.ref a2, .ref a1])) rfl rfl (hb hby d1_36)
  refine gb st5 ?_
  have F_counting := F_counting.same W5
  have E_a1 := E_a1.wr W5
  have F_hours := F_hours.other W5 (Or.inr (slot_ne (Or.inr (ow hw 31 rfl)) (Or.inr (ow hw 33 rfl)) (by decide) (t := .int) (t' := (.object "com/example/vestry/vestry/vesting/BreakInService$Counting")) (by decide) (by decide)))
  have O := O.wr W5 g_a1
  have hk := Nat.le_trans hk (Keep.of_wr W5).1
  have K := K.wr W5 (Or.inl (List.mem_of_getElem? (i := 0) rfl))
  have N := Fr.snoc X5 N g_a1
  show G T5 (mkF m 39 #[rv a1, iv p1, rv a2] [])
  exact go X5 hS (by rw [e5]; exact hk) (v := none) (fun _ => rfl) (fun fs hr => X5.returnOut hx Bd.returns (hb hby d1_39) hr) (by rw [e5]; exact ⟨rfl, N, K, E_a1, F_hours, F_counting⟩) (by decide) (by decide)
def Q_rm5_0 (Z : State) (a1 a2 : Addr) (y1 h1 : Int32) (h0 : Heap) (n0 : Nat) : Option Value → Heap → List Loc → Prop := fun v h L => v = some (.int (if h1 < y1 then (0 : Int32) else (1 : Int32))) ∧ L = [] ∧ h = h0
set_option maxRecDepth 65536 in
set_option maxHeartbeats 40000000 in
theorem rm5_0 (l : Launch) (Z : State) (a0 : Array Value) (hw : ∀ d ∈ tables_1, d.before a0 Z = true) (ws : List Jvm.Cond) (a1 a2 : Addr) (y1 h1 : Int32) (h0 : Heap) (n0 : Nat) (O : Old Z n0 h0) (F_hours : Fld Z h0 a1 "com/example/vestry/vestry/vesting/BreakInService" "hours" "I" (.int h1)) (F_counting : Fld Z h0 a1 "com/example/vestry/vestry/vesting/BreakInService" "counting" "Lcom/example/vestry/vestry/vesting/BreakInService$Counting;" (.ref a2)) (E_a2 : Exa Z h0 a2 "com/example/vestry/vestry/vesting/BreakInService$Counting") (F_o : Fld Z h0 a2 "java/lang/Enum" "ordinal" "I" (.int (0 : Int32))) :
    MetFree l (⟨"com/example/vestry/vestry/vesting/BreakInService", "isBreak", "(I)Z"⟩ : MethodName) (head1 (Jvm.Cond.code (⟨"com/example/vestry/vestry/vesting/BreakInService", "isBreak", "(I)Z"⟩ : MethodName) prog_66_method_2_code 2 (some .boolean) :: ws) ({ frames := 1, cells := 0, slots := 0, locals := 12 } : Room)) (fun a U => a = #[(.ref a1), (.int y1)] ∧ Z.Warmed39 U.vm ∧ U.heap = h0) (fun _ _ _ _ _ => True) (fun _ U o U' => ∃ v L, o = .returned v ∧ (Q_rm5_0 Z a1 a2 y1 h1 h0 n0) v U'.heap L ∧ FrameEnd U o U' L ({ frames := 1, cells := 0, slots := 0, locals := 12 } : Room).cells ({ frames := 1, cells := 0, slots := 0, locals := 12 } : Room).slots) := by
  refine MetFree.of_bodySF (plainFor_of_name pn_3) hisR ?_
  intro p e s m args below meth c s₁ Bd hml0 hP hK
  obtain ⟨rfl, hZ, hh⟩ := hP
  have hx := Bd.exec
  have hby := Bd.bytes
  have hml : c.maxLocals = 2 := hml0
  have hown : s.vm.findClass "com/example/vestry/vestry/vesting/BreakInService" = some m.cls := findClass_of_methodNamed Bd.named
  have hnm := (name_of_methodNamed Bd.named Bd.method).1
  have hlk := BodyLoose.notSynchronized Bd
  have X0 : Stand p l e ({ frames := 1, cells := 0, slots := 0, locals := 12 } : Room) s m #[(.ref a1), (.int y1)] below meth c s₁ [] 0 0 := Stand.of_body Bd
  have e0 : s₁.heap = h0 := by rw [← hh, Bd.state]; rfl
  have N := Fr.nil n0
  obtain ⟨G, hG⟩ : ∃ G : State → JFrame → Prop, G = OwnG p e below s ({ frames := 1, cells := 0, slots := 0, locals := 12 } : Room).cells ({ frames := 1, cells := 0, slots := 0, locals := 12 } : Room).slots (Q_rm5_0 Z a1 a2 y1 h1 h0 n0) := ⟨_, rfl⟩
  have gb : ∀ {T T' : State} {g g' : JFrame}, (∀ t, Steps p.tables e below (T'.setTop g') t → Steps p.tables e below (T.setTop g) t) → G T' g' → G T g := by subst hG; exact fun k h => own_by k h
  have go : ∀ {T : State} {locs : List Loc} {cells slots : Nat} {g : JFrame} {v : Option Value}, Stand p l e ({ frames := 1, cells := 0, slots := 0, locals := 12 } : Room) s m #[(.ref a1), (.int y1)] below meth c T locs cells slots → (meth.sig.returnType = none → v = none) → (∀ fs, (∀ (f : JFrame) (acts : List Action), f.method = m → f.locked = none → f.entered = [] → (doReturn e (T.setTop f) acts v).1 = T.setFrames fs) → Steps p.tables e below (T.setTop g) (T.setFrames fs)) → (Q_rm5_0 Z a1 a2 y1 h1 h0 n0) v T.heap locs → cells ≤ ({ frames := 1, cells := 0, slots := 0, locals := 12 } : Room).cells → slots ≤ ({ frames := 1, cells := 0, slots := 0, locals := 12 } : Room).slots → G T g := by subst hG; exact fun X h1 h2 h3 h4 h5 => own_out X hlk h1 h2 h3 h4 h5
  show OwnG p e below s ({ frames := 1, cells := 0, slots := 0, locals := 12 } : Room).cells ({ frames := 1, cells := 0, slots := 0, locals := 12 } : Room).slots (Q_rm5_0 Z a1 a2 y1 h1 h0 n0) s₁ (entryFrame m #[(.ref a1), (.int y1)] 2)
  rw [← hG, ef_rm5_0 m a1 y1]
  clear hG
  show G s₁ (mkF m 0 #[.val (.ref a1), .val (.int y1)] [])
  refine gb (fun _ k => XS.aloadN X0.here hx rfl (hb hby d5_0) rfl rfl k) ?_
  show G s₁ (mkF m 1 #[rv a1, iv y1] [.ref a1])
  obtain ⟨T1, X1, e1, st1⟩ := getF X0 hx hZ hown (host := "") (Or.inl (ow hw 32 rfl)) Via.refl e0 F_counting (g := (mkF m 1 #[rv a1, iv y1] [.ref a1])) rfl rfl (hb hby d5_1)
  refine gb st1 ?_
  show G T1 (mkF m 4 #[rv a1, iv y1] [.ref a2])
  obtain ⟨cq2, kq2, q2a, q2b, q2c⟩ := isOf hZ e1 E_a2
  obtain ⟨_, _, ⟨T2, Lz2, kz2, nz2⟩, -, X2, ⟨Lc2, hQ2, lq2, yq2, zq2⟩, st2⟩ := X1.virtualBackUp hx (x := (⟨"com/example/vestry/vestry/vesting/BreakInService$Counting", "ordinal", "()I"⟩ : MethodName)) (y := (⟨"java/lang/Enum", "ordinal", "()I"⟩ : MethodName)) (owner := "java/lang/Enum") hown (mvT hZ (ow hw 39 rfl)) (mvT hZ (ow hw 40 rfl)) (mvT hZ (ow hw 41 rfl)) (by decide) (mvT hZ (ow hw 43 rfl)) (mvT hZ (ow hw 42 rfl)) (backOf (W := 0) (rm6 l Z a0 hw [] a2 (0 : Int32) h0 n0 O F_o) hZ (ow hw 45 rfl) (ow hw 44 rfl) (by decide) (by decide)) q2a q2c (g := (mkF m 4 #[rv a1, iv y1] [.ref a2])) rfl (by rw [hml]; rfl) (Steps.refl _) (argsL := []) (rest := []) (lenOf pd_2 rfl) rfl (by show 2 * 0 + _ ≤ _; exact Nat.le_of_eq rfl) (hb hby d5_4) (fun _ _ => ⟨rfl, e1, (by decide : 0 + 0 ≤ _), (by decide : 0 + 0 ≤ _)⟩)
  dsimp only [Pt.U, Pt.locs, Pt.cells, Pt.slots] at X2 lq2 yq2 zq2 st2 hQ2
  subst lq2 yq2 zq2
  obtain ⟨rfl, rfl, e2⟩ := hQ2
  try rw [List.append_nil] at X2
  refine gb (fun _ k => st2.trans k) ?_
  show G T2 (mkF m 7 #[rv a1, iv y1] [.int 0])
  refine gb (X2.lookupswitchHit hx (g := (mkF m 7 #[rv a1, iv y1] [.int 0])) rfl (k := (0 : Int32)) rfl (hb hby d5_7) (by decide) (a := 0) (off := 35) (by decide) (by show (0 : Int) ≤ ((7 : Nat) : Int) + 35; decide)) ?_
  show G T2 (mkF m 42 #[rv a1, iv y1] [])
  refine gb (fun _ k => XS.iloadN X2.here hx rfl (hb hby d5_42) rfl (XS.aloadN X2.here hx rfl (hb hby d5_43) rfl rfl k)) ?_
  show G T2 (mkF m 44 #[rv a1, iv y1] [.ref a1, .int y1])
  obtain ⟨T3, X3, e3, st3⟩ := getF X2 hx hZ hown (host := "") (Or.inl (ow hw 30 rfl)) Via.refl e2 F_hours (g := (mkF m 44 #[rv a1, iv y1] [.ref a1, .int y1])) rfl rfl (hb hby d5_44)
  refine gb st3 ?_
  show G T3 (mkF m 47 #[rv a1, iv y1] [.int h1, .int y1])
  by_cases hc47 : h1 < y1
  · skip
    refine gb (fun _ k => XS.icmpYes X3.here hx rfl (pc0 := 47) (pc' := 54) rfl (hb hby d5_47) rfl (tlt hc47).2.2.1 (by decide) (by decide) (XS.iconst X3.here hx rfl (hb hby d5_54) (XS.goto X3.here hx rfl (pc0 := 55) (pc' := 71) rfl (hb hby d5_55) (by decide) (by decide) k))) ?_
    show G T3 (mkF m 71 #[rv a1, iv y1] [.int 0])
    exact go X3 (v := (some (.int (0 : Int32)))) (fun h => by rw [Bd.returns] at h; cases h) (fun fs hr => retOut X3 hx Bd.returns rfl (Or.inl ⟨rfl, by simp, _, rfl⟩) (hb hby d5_71) hr) (⟨by simp [hc47], rfl, e3⟩) (by decide) (by decide)
  · skip
    refine gb (fun _ k => XS.icmpNo X3.here hx rfl (hb hby d5_47) rfl (flt hc47).2.2.1 (XS.iconst X3.here hx rfl (hb hby d5_50) (XS.goto X3.here hx rfl (pc0 := 51) (pc' := 71) rfl (hb hby d5_51) (by decide) (by decide) k))) ?_
    show G T3 (mkF m 71 #[rv a1, iv y1] [.int 1])
    exact go X3 (v := (some (.int (1 : Int32)))) (fun h => by rw [Bd.returns] at h; cases h) (fun fs hr => retOut X3 hx Bd.returns rfl (Or.inl ⟨rfl, by simp, _, rfl⟩) (hb hby d5_71) hr) (⟨by simp [hc47], rfl, e3⟩) (by decide) (by decide)
def Q_rm5_1 (Z : State) (a1 a2 : Addr) (y1 h1 : Int32) (h0 : Heap) (n0 : Nat) : Option Value → Heap → List Loc → Prop := fun v h L => v = some (.int (if y1 < h1 then (1 : Int32) else (0 : Int32))) ∧ L = [] ∧ h = h0
set_option maxRecDepth 65536 in
set_option maxHeartbeats 40000000 in
theorem rm5_1 (l : Launch) (Z : State) (a0 : Array Value) (hw : ∀ d ∈ tables_1, d.before a0 Z = true) (ws : List Jvm.Cond) (a1 a2 : Addr) (y1 h1 : Int32) (h0 : Heap) (n0 : Nat) (O : Old Z n0 h0) (F_hours : Fld Z h0 a1 "com/example/vestry/vestry/vesting/BreakInService" "hours" "I" (.int h1)) (F_counting : Fld Z h0 a1 "com/example/vestry/vestry/vesting/BreakInService" "counting" "Lcom/example/vestry/vestry/vesting/BreakInService$Counting;" (.ref a2)) (E_a2 : Exa Z h0 a2 "com/example/vestry/vestry/vesting/BreakInService$Counting") (F_o : Fld Z h0 a2 "java/lang/Enum" "ordinal" "I" (.int (1 : Int32))) :
    MetFree l (⟨"com/example/vestry/vestry/vesting/BreakInService", "isBreak", "(I)Z"⟩ : MethodName) (head1 (Jvm.Cond.code (⟨"com/example/vestry/vestry/vesting/BreakInService", "isBreak", "(I)Z"⟩ : MethodName) prog_66_method_2_code 2 (some .boolean) :: ws) ({ frames := 1, cells := 0, slots := 0, locals := 12 } : Room)) (fun a U => a = #[(.ref a1), (.int y1)] ∧ Z.Warmed39 U.vm ∧ U.heap = h0) (fun _ _ _ _ _ => True) (fun _ U o U' => ∃ v L, o = .returned v ∧ (Q_rm5_1 Z a1 a2 y1 h1 h0 n0) v U'.heap L ∧ FrameEnd U o U' L ({ frames := 1, cells := 0, slots := 0, locals := 12 } : Room).cells ({ frames := 1, cells := 0, slots := 0, locals := 12 } : Room).slots) := by
  refine MetFree.of_bodySF (plainFor_of_name pn_3) hisR ?_
  intro p e s m args below meth c s₁ Bd hml0 hP hK
  obtain ⟨rfl, hZ, hh⟩ := hP
  have hx := Bd.exec
  have hby := Bd.bytes
  have hml : c.maxLocals = 2 := hml0
  have hown : s.vm.findClass "com/example/vestry/vestry/vesting/BreakInService" = some m.cls := findClass_of_methodNamed Bd.named
  have hnm := (name_of_methodNamed Bd.named Bd.method).1
  have hlk := BodyLoose.notSynchronized Bd
  have X0 : Stand p l e ({ frames := 1, cells := 0, slots := 0, locals := 12 } : Room) s m #[(.ref a1), (.int y1)] below meth c s₁ [] 0 0 := Stand.of_body Bd
  have e0 : s₁.heap = h0 := by rw [← hh, Bd.state]; rfl
  have N := Fr.nil n0
  obtain ⟨G, hG⟩ : ∃ G : State → JFrame → Prop, G = OwnG p e below s ({ frames := 1, cells := 0, slots := 0, locals := 12 } : Room).cells ({ frames := 1, cells := 0, slots := 0, locals := 12 } : Room).slots (Q_rm5_1 Z a1 a2 y1 h1 h0 n0) := ⟨_, rfl⟩
  have gb : ∀ {T T' : State} {g g' : JFrame}, (∀ t, Steps p.tables e below (T'.setTop g') t → Steps p.tables e below (T.setTop g) t) → G T' g' → G T g := by subst hG; exact fun k h => own_by k h
  have go : ∀ {T : State} {locs : List Loc} {cells slots : Nat} {g : JFrame} {v : Option Value}, Stand p l e ({ frames := 1, cells := 0, slots := 0, locals := 12 } : Room) s m #[(.ref a1), (.int y1)] below meth c T locs cells slots → (meth.sig.returnType = none → v = none) → (∀ fs, (∀ (f : JFrame) (acts : List Action), f.method = m → f.locked = none → f.entered = [] → (doReturn e (T.setTop f) acts v).1 = T.setFrames fs) → Steps p.tables e below (T.setTop g) (T.setFrames fs)) → (Q_rm5_1 Z a1 a2 y1 h1 h0 n0) v T.heap locs → cells ≤ ({ frames := 1, cells := 0, slots := 0, locals := 12 } : Room).cells → slots ≤ ({ frames := 1, cells := 0, slots := 0, locals := 12 } : Room).slots → G T g := by subst hG; exact fun X h1 h2 h3 h4 h5 => own_out X hlk h1 h2 h3 h4 h5
  show OwnG p e below s ({ frames := 1, cells := 0, slots := 0, locals := 12 } : Room).cells ({ frames := 1, cells := 0, slots := 0, locals := 12 } : Room).slots (Q_rm5_1 Z a1 a2 y1 h1 h0 n0) s₁ (entryFrame m #[(.ref a1), (.int y1)] 2)
  rw [← hG, ef_rm5_1 m a1 y1]
  clear hG
  show G s₁ (mkF m 0 #[.val (.ref a1), .val (.int y1)] [])
  refine gb (fun _ k => XS.aloadN X0.here hx rfl (hb hby d5_0) rfl rfl k) ?_
  show G s₁ (mkF m 1 #[rv a1, iv y1] [.ref a1])
  obtain ⟨T1, X1, e1, st1⟩ := getF X0 hx hZ hown (host := "") (Or.inl (ow hw 32 rfl)) Via.refl e0 F_counting (g := (mkF m 1 #[rv a1, iv y1] [.ref a1])) rfl rfl (hb hby d5_1)
  refine gb st1 ?_
  show G T1 (mkF m 4 #[rv a1, iv y1] [.ref a2])
  obtain ⟨cq2, kq2, q2a, q2b, q2c⟩ := isOf hZ e1 E_a2
  obtain ⟨_, _, ⟨T2, Lz2, kz2, nz2⟩, -, X2, ⟨Lc2, hQ2, lq2, yq2, zq2⟩, st2⟩ := X1.virtualBackUp hx (x := (⟨"com/example/vestry/vestry/vesting/BreakInService$Counting", "ordinal", "()I"⟩ : MethodName)) (y := (⟨"java/lang/Enum", "ordinal", "()I"⟩ : MethodName)) (owner := "java/lang/Enum") hown (mvT hZ (ow hw 39 rfl)) (mvT hZ (ow hw 40 rfl)) (mvT hZ (ow hw 41 rfl)) (by decide) (mvT hZ (ow hw 43 rfl)) (mvT hZ (ow hw 42 rfl)) (backOf (W := 0) (rm6 l Z a0 hw [] a2 (1 : Int32) h0 n0 O F_o) hZ (ow hw 45 rfl) (ow hw 44 rfl) (by decide) (by decide)) q2a q2c (g := (mkF m 4 #[rv a1, iv y1] [.ref a2])) rfl (by rw [hml]; rfl) (Steps.refl _) (argsL := []) (rest := []) (lenOf pd_2 rfl) rfl (by show 2 * 0 + _ ≤ _; exact Nat.le_of_eq rfl) (hb hby d5_4) (fun _ _ => ⟨rfl, e1, (by decide : 0 + 0 ≤ _), (by decide : 0 + 0 ≤ _)⟩)
  dsimp only [Pt.U, Pt.locs, Pt.cells, Pt.slots] at X2 lq2 yq2 zq2 st2 hQ2
  subst lq2 yq2 zq2
  obtain ⟨rfl, rfl, e2⟩ := hQ2
  try rw [List.append_nil] at X2
  refine gb (fun _ k => st2.trans k) ?_
  show G T2 (mkF m 7 #[rv a1, iv y1] [.int 1])
  refine gb (X2.lookupswitchHit hx (g := (mkF m 7 #[rv a1, iv y1] [.int 1])) rfl (k := (1 : Int32)) rfl (hb hby d5_7) (by decide) (a := 1) (off := 51) (by decide) (by show (0 : Int) ≤ ((7 : Nat) : Int) + 51; decide)) ?_
  show G T2 (mkF m 58 #[rv a1, iv y1] [])
  refine gb (fun _ k => XS.iloadN X2.here hx rfl (hb hby d5_58) rfl (XS.aloadN X2.here hx rfl (hb hby d5_59) rfl rfl k)) ?_
  show G T2 (mkF m 60 #[rv a1, iv y1] [.ref a1, .int y1])
  obtain ⟨T3, X3, e3, st3⟩ := getF X2 hx hZ hown (host := "") (Or.inl (ow hw 30 rfl)) Via.refl e2 F_hours (g := (mkF m 60 #[rv a1, iv y1] [.ref a1, .int y1])) rfl rfl (hb hby d5_60)
  refine gb st3 ?_
  show G T3 (mkF m 63 #[rv a1, iv y1] [.int h1, .int y1])
  by_cases hc63 : y1 < h1
  · skip
    refine gb (fun _ k => XS.icmpNo X3.here hx rfl (hb hby d5_63) rfl (tlt hc63).2.1 (XS.iconst X3.here hx rfl (hb hby d5_66) (XS.goto X3.here hx rfl (pc0 := 67) (pc' := 71) rfl (hb hby d5_67) (by decide) (by decide) k))) ?_
    show G T3 (mkF m 71 #[rv a1, iv y1] [.int 1])
    exact go X3 (v := (some (.int (1 : Int32)))) (fun h => by rw [Bd.returns] at h; cases h) (fun fs hr => retOut X3 hx Bd.returns rfl (Or.inl ⟨rfl, by simp, _, rfl⟩) (hb hby d5_71) hr) (⟨by simp [hc63], rfl, e3⟩) (by decide) (by decide)
  · skip
    refine gb (fun _ k => XS.icmpYes X3.here hx rfl (pc0 := 63) (pc' := 70) rfl (hb hby d5_63) rfl (flt hc63).2.1 (by decide) (by decide) (XS.iconst X3.here hx rfl (hb hby d5_70) k)) ?_
    show G T3 (mkF m 71 #[rv a1, iv y1] [.int 0])
    exact go X3 (v := (some (.int (0 : Int32)))) (fun h => by rw [Bd.returns] at h; cases h) (fun fs hr => retOut X3 hx Bd.returns rfl (Or.inl ⟨rfl, by simp, _, rfl⟩) (hb hby d5_71) hr) (⟨by simp [hc63], rfl, e3⟩) (by decide) (by decide)
def Q_rm0 (Z : State) (i0 i1 i2 : Int32) (h0 : Heap) (n0 : Nat) (w_BELOW : Addr) (w_AT_MOST : Addr) : Option Value → Heap → List Loc → Prop := fun v h L => v = some (.int 1) ∧ Fr n0 L
set_option maxRecDepth 65536 in
set_option maxHeartbeats 40000000 in
theorem rm0 (l : Launch) (Z : State) (a0 : Array Value) (hw : ∀ d ∈ tables_1, d.before a0 Z = true) (ws : List Jvm.Cond) (i0 i1 i2 : Int32) (h0 : Heap) (n0 : Nat) (O : Old Z n0 h0) (w_BELOW : Addr) (S_BELOW : Sta Z Z.heap "com/example/vestry/vestry/vesting/BreakInService$Counting" "BELOW" "Lcom/example/vestry/vestry/vesting/BreakInService$Counting;" (.ref w_BELOW)) (E_BELOW : Exa Z Z.heap w_BELOW "com/example/vestry/vestry/vesting/BreakInService$Counting") (F_ordinal_BELOW : Fld Z Z.heap w_BELOW "java/lang/Enum" "ordinal" "I" (.int (1 : Int32))) (w_AT_MOST : Addr) (S_AT_MOST : Sta Z Z.heap "com/example/vestry/vestry/vesting/BreakInService$Counting" "AT_MOST" "Lcom/example/vestry/vestry/vesting/BreakInService$Counting;" (.ref w_AT_MOST)) (E_AT_MOST : Exa Z Z.heap w_AT_MOST "com/example/vestry/vestry/vesting/BreakInService$Counting") (F_ordinal_AT_MOST : Fld Z Z.heap w_AT_MOST "java/lang/Enum" "ordinal" "I" (.int (0 : Int32))) :
    MetFree l x (head1 (Jvm.Cond.code x code maxLocals ret :: ws) room_1) (fun a U => a = #[(.int i0), (.int i1), (.int i2)] ∧ Z.Warmed39 U.vm ∧ U.heap = h0 ∧ U = Z) (fun _ _ _ _ _ => True) (fun _ U o U' => ∃ v L, o = .returned v ∧ (Q_rm0 Z i0 i1 i2 h0 n0 w_BELOW w_AT_MOST) v U'.heap L ∧ ReturnedEndW U o U' L 3 38) := by
  refine MetFree.of_bodySF (plainFor_of_name pn_4) hisR ?_
  intro p e s m args below meth c s₁ Bd hml0 hP hK
  obtain ⟨rfl, hZ, hh, hUZ⟩ := hP
  have hx := Bd.exec
  have hby := Bd.bytes
  have hml : c.maxLocals = 10 := hml0
  have hown : s.vm.findClass "com/example/vestry/vestry/vesting/BreakInServiceIsBreakPinLaw" = some m.cls := findClass_of_methodNamed Bd.named
  have hnm := (name_of_methodNamed Bd.named Bd.method).1
  have hlk := BodyLoose.notSynchronized Bd
  have X0 : Stand p l e room_1 (s.setVm s.vm) m #[(.int i0), (.int i1), (.int i2)] below meth c s₁ [] 0 0 := Stand.of_body Bd
  have e0 : s₁.heap = h0 := by rw [← hh, Bd.state]; rfl
  have N := Fr.nil n0
  have O0 := O
  have hS : s.Since s.vm h0.size := (State.WarmedH.refl s).since _
  have hk := Nat.le_refl h0.size
  obtain ⟨G, hG⟩ : ∃ G : State → JFrame → Prop, G = OwnGW p e below s 3 38 (Q_rm0 Z i0 i1 i2 h0 n0 w_BELOW w_AT_MOST) := ⟨_, rfl⟩
  have gb : ∀ {T T' : State} {g g' : JFrame}, (∀ t, Steps p.tables e below (T'.setTop g') t → Steps p.tables e below (T.setTop g) t) → G T' g' → G T g := by subst hG; exact fun k h => own_byW k h
  have go : ∀ {T : State} {locs : List Loc} {cells slots : Nat} {g : JFrame} {v : Option Value} {vm : Vm} {k : Nat}, Stand p l e room_1 (s.setVm vm) m #[(.int i0), (.int i1), (.int i2)] below meth c T locs cells slots → s.Since vm k → k ≤ T.heap.size → (meth.sig.returnType = none → v = none) → (∀ fs, (∀ (f : JFrame) (acts : List Action), f.method = m → f.locked = none → f.entered = [] → (doReturn e (T.setTop f) acts v).1 = T.setFrames fs) → Steps p.tables e below (T.setTop g) (T.setFrames fs)) → (Q_rm0 Z i0 i1 i2 h0 n0 w_BELOW w_AT_MOST) v T.heap locs → cells ≤ 3 → slots ≤ 38 → G T g := by subst hG; exact fun X a b h1 h2 h3 h4 h5 => own_outW X a b hlk h1 h2 h3 h4 h5
  show OwnGW p e below s 3 38 (Q_rm0 Z i0 i1 i2 h0 n0 w_BELOW w_AT_MOST) s₁ (entryFrame m #[(.int i0), (.int i1), (.int i2)] maxLocals)
  rw [← hG, ef_rm0 m i0 i1 i2]
  clear hG
  show G s₁ (mkF m 0 #[.val (.int i0), .val (.int i1), .val (.int i2), .unset, .unset, .unset, .unset, .unset, .unset, .unset] [])
  refine gb (fun _ k => XS.iloadN X0.here hx rfl (hb hby at_0) rfl k) ?_
  show G s₁ (mkF m 1 #[iv i0, iv i1, iv i2, .unset, .unset, .unset, .unset, .unset, .unset, .unset] [.int i0])
  refine gb (X0.ldcInt hx hown (mvT hZ (ow hw 0 rfl)) (g := (mkF m 1 #[iv i0, iv i1, iv i2, .unset, .unset, .unset, .unset, .unset, .unset, .unset] [.int i0])) rfl (hb hby at_1)) ?_
  show G s₁ (mkF m 3 #[iv i0, iv i1, iv i2, .unset, .unset, .unset, .unset, .unset, .unset, .unset] [.int 2147483647, .int i0])
  refine gb (fun _ k => XS.iand X0.here hx rfl (hb hby at_3) rfl (XS.istoreN X0.here hx rfl (hb hby at_4) rfl (l' := #[iv i0, iv i1, iv i2, iv (i0 &&& (2147483647 : Int32)), .unset, .unset, .unset, .unset, .unset, .unset]) rfl (XS.iloadN X0.here hx rfl (hb hby at_5) rfl (XS.iconst X0.here hx rfl (hb hby at_6) (XS.iand X0.here hx rfl (hb hby at_7) rfl k))))) ?_
  show G s₁ (mkF m 8 #[iv i0, iv i1, iv i2, iv (i0 &&& (2147483647 : Int32)), .unset, .unset, .unset, .unset, .unset, .unset] [.int (i2 &&& (1 : Int32))])
  by_cases hc8 : (i2 &&& (1 : Int32)) = (0 : Int32)
  · skip
    refine gb (fun _ k => XS.ifYes X0.here hx rfl (pc0 := 8) (pc' := 15) rfl (hb hby at_8) rfl ((if0 _ _).trans (teq hc8).1) (by decide) (by decide) (XS.iconst X0.here hx rfl (hb hby at_15) (XS.istore X0.here hx rfl (hb hby at_16) rfl (l' := #[iv i0, iv i1, iv i2, iv (i0 &&& (2147483647 : Int32)), iv 0, .unset, .unset, .unset, .unset, .unset]) rfl k))) ?_
    show G s₁ (mkF m 18 #[iv i0, iv i1, iv i2, iv (i0 &&& (2147483647 : Int32)), iv 0, .unset, .unset, .unset, .unset, .unset] [])
    have J1 : ∀ (T1 : State) (locs1 : List Loc) (vm1 : Vm) (kn1 : Nat) (hS : s.Since vm1 kn1) (hk : kn1 ≤ h0.size) (hZ : Z.Warmed39 (s.setVm vm1).vm) (hown : (s.setVm vm1).vm.findClass "com/example/vestry/vestry/vesting/BreakInServiceIsBreakPinLaw" = some m.cls) (X1 : Stand p l e room_1 (s.setVm vm1) m #[(.int i0), (.int i1), (.int i2)] below meth c T1 locs1 0 0) (N : Fr n0 locs1) (e1 : T1.heap = h0)  (y1 : Int32) , G T1 (mkF m 41 #[iv i0, iv i1, iv i2, iv (i0 &&& (2147483647 : Int32)), iv 0, iv y1, .unset, .unset, .unset, .unset] []) := by
      intro T1 locs1 vm1 kn1 hS hk hZ hown X1 N e1  y1 
      show G T1 (mkF m 41 #[iv i0, iv i1, iv i2, iv (i0 &&& (2147483647 : Int32)), iv 0, iv y1, .unset, .unset, .unset, .unset] [])
      refine gb (fun _ k => XS.iload X1.here hx rfl (hb hby at_41) rfl (XS.ifYes X1.here hx rfl (pc0 := 43) (pc' := 54) rfl (hb hby at_43) rfl ((if0 _ _).trans (teq (by decide : (0 : Int32) = (0 : Int32))).1) (by decide) (by decide) k)) ?_
      show G T1 (mkF m 54 #[iv i0, iv i1, iv i2, iv (i0 &&& (2147483647 : Int32)), iv 0, iv y1, .unset, .unset, .unset, .unset] [])
      obtain ⟨T2, X2, e2, st2⟩ := getS2 X1 hx hZ hown (host := "") (Or.inl (ow hw 1 rfl)) Via.refl e1 (S_BELOW.ext O.2) (g := (mkF m 54 #[iv i0, iv i1, iv i2, iv (i0 &&& (2147483647 : Int32)), iv 0, iv y1, .unset, .unset, .unset, .unset] [])) rfl (hb hby at_54)
      refine gb st2 ?_
      show G T2 (mkF m 57 #[iv i0, iv i1, iv i2, iv (i0 &&& (2147483647 : Int32)), iv 0, iv y1, .unset, .unset, .unset, .unset] [.ref w_BELOW])
      refine gb (fun _ k => XS.astore X2.here hx rfl (hb hby at_57) rfl rfl (l' := #[iv i0, iv i1, iv i2, iv (i0 &&& (2147483647 : Int32)), iv 0, iv y1, rv w_BELOW, .unset, .unset, .unset]) rfl k) ?_
      show G T2 (mkF m 59 #[iv i0, iv i1, iv i2, iv (i0 &&& (2147483647 : Int32)), iv 0, iv y1, rv w_BELOW, .unset, .unset, .unset] [])
      obtain ⟨T3, h3, X3, e3, E3, A3, D3, U3, st3⟩ := newO X2 hx hZ hown (ow hw 4 rfl) (ow hw 5 rfl) (ow hw 6 rfl) e2 (g := (mkF m 59 #[iv i0, iv i1, iv i2, iv (i0 &&& (2147483647 : Int32)), iv 0, iv y1, rv w_BELOW, .unset, .unset, .unset] [])) rfl (hb hby at_59) (by decide) (by decide)
      obtain ⟨b3, g3⟩ : ∃ z, z = h0.size := ⟨_, rfl⟩
      rw [← g3] at A3 D3 U3 st3
      have g_b3 : n0 ≤ b3 := Nat.le_trans (by have := O.2.1; rw [O.1] at this; exact this) (Nat.le_of_eq g3.symm)
      have O := O.ext E3
      have hk := Nat.le_trans hk E3.1
      have E_b3 := A3
      have F_hours_b3 : Fld Z h3 b3 "com/example/vestry/vestry/vesting/BreakInService" "hours" "I" (.int (0 : Int32)) := D3 (Or.inr (ow hw 31 rfl)) (ty := .int) (by decide)
      have F_counting_b3 : Fld Z h3 b3 "com/example/vestry/vestry/vesting/BreakInService" "counting" "Lcom/example/vestry/vestry/vesting/BreakInService$Counting;" .null := D3 (Or.inr (ow hw 33 rfl)) (ty := (.object "com/example/vestry/vestry/vesting/BreakInService$Counting")) (by decide)
      refine gb st3 ?_
      show G T3 (mkF m 62 #[iv i0, iv i1, iv i2, iv (i0 &&& (2147483647 : Int32)), iv 0, iv y1, rv w_BELOW, .unset, .unset, .unset] [.ref b3])
      refine gb (fun _ k => XS.dup X3.here hx rfl (hb hby at_62) rfl rfl (XS.iloadN X3.here hx rfl (hb hby at_63) rfl (XS.aload X3.here hx rfl (hb hby at_64) rfl rfl k))) ?_
      show G T3 (mkF m 66 #[iv i0, iv i1, iv i2, iv (i0 &&& (2147483647 : Int32)), iv 0, iv y1, rv w_BELOW, .unset, .unset, .unset] [.ref w_BELOW, .int (i0 &&& (2147483647 : Int32)), .ref b3, .ref b3])
      obtain ⟨_, _, ⟨T4, Lz4, kz4, nz4⟩, -, X4, hS4, hg4, ⟨Lc4, hQ4, lq4, yq4, zq4⟩, st4⟩ := X3.specialBackS hx (y := (⟨"com/example/vestry/vestry/vesting/BreakInService", "<init>", "(ILcom/example/vestry/vestry/vesting/BreakInService$Counting;)V"⟩ : MethodName)) rfl hown (mvT hZ (ow hw 7 rfl)) (mvT hZ (ow hw 8 rfl)) (mvT hZ (ow hw 9 rfl)) (by decide) (backOfS (W := 1) (rm1 l Z a0 hw [] b3 w_BELOW (i0 &&& (2147483647 : Int32)) h3 n0 O E_b3 F_hours_b3 F_counting_b3 g_b3 (own_nn _)) hZ (ow hw 9 rfl) (ow hw 6 rfl) (by decide) (by decide)) (g := (mkF m 66 #[iv i0, iv i1, iv i2, iv (i0 &&& (2147483647 : Int32)), iv 0, iv y1, rv w_BELOW, .unset, .unset, .unset] [.ref w_BELOW, .int (i0 &&& (2147483647 : Int32)), .ref b3, .ref b3])) rfl (by rw [hml]; rfl) (Steps.refl _) (a := b3) (argsL := [(.int (i0 &&& (2147483647 : Int32))), (.ref w_BELOW)]) (rest := [(.ref b3)]) (lenOf pd_3 rfl) rfl (by show 2 * 0 + _ ≤ _; exact Nat.le_of_eq rfl) (hb hby at_66) (fun _ _ => ⟨rfl, e3, (by decide : 1 + 2 ≤ _), (by decide : 2 + 36 ≤ _)⟩)
      dsimp only [Pt.U, Pt.locs, Pt.cells, Pt.slots] at X4 lq4 yq4 zq4 st4 hQ4 hS4 hg4
      subst lq4 yq4 zq4
      obtain ⟨X4, hS, hZ, hown⟩ := rebS hS (by rw [e3]; exact hk) X4 hS4 hg4 hZ hown
      obtain ⟨h4, e4⟩ : ∃ z, z = T4.heap := ⟨_, rfl⟩
      rw [← e4] at hQ4
      replace e4 := e4.symm
      obtain ⟨rfl, Nq4, Kq4, hR4⟩ := hQ4
      have N := Fr.app N Nq4
      have E_b3 := E_b3.keep Kq4
      have hk := Nat.le_trans hk Kq4.1
      have hk : T4.heap.size ≤ h4.size := by rw [e4]; exact Nat.le_refl _
      obtain ⟨E_b3, F_hours_b3, F_counting_b3⟩ := hR4
      have O := O.keep Kq4 (allS g_b3 all0)
      refine gb (fun _ k => st4.trans k) ?_
      show G T4 (mkF m 69 #[iv i0, iv i1, iv i2, iv (i0 &&& (2147483647 : Int32)), iv 0, iv y1, rv w_BELOW, .unset, .unset, .unset] [.ref b3])
      refine gb (fun _ k => XS.astore X4.here hx rfl (hb hby at_69) rfl rfl (l' := #[iv i0, iv i1, iv i2, iv (i0 &&& (2147483647 : Int32)), iv 0, iv y1, rv w_BELOW, rv b3, .unset, .unset]) rfl (XS.aload X4.here hx rfl (hb hby at_71) rfl rfl (XS.iload X4.here hx rfl (hb hby at_73) rfl k))) ?_
      show G T4 (mkF m 75 #[iv i0, iv i1, iv i2, iv (i0 &&& (2147483647 : Int32)), iv 0, iv y1, rv w_BELOW, rv b3, .unset, .unset] [.int y1, .ref b3])
      obtain ⟨cq5, kq5, q5a, q5b, q5c⟩ := isOf hZ e4 E_b3
      obtain ⟨_, _, ⟨T5, Lz5, kz5, nz5⟩, -, X5, ⟨Lc5, hQ5, lq5, yq5, zq5⟩, st5⟩ := X4.virtualBack hx (y := (⟨"com/example/vestry/vestry/vesting/BreakInService", "isBreak", "(I)Z"⟩ : MethodName)) (z := (⟨"com/example/vestry/vestry/vesting/BreakInService", "isBreak", "(I)Z"⟩ : MethodName)) hown (mvT hZ (ow hw 34 rfl)) (mvT hZ (ow hw 35 rfl)) (notFace_of_selects (args := #[]) (mvT hZ (ow hw 37 rfl))) (mvT hZ (ow hw 37 rfl)) (mvT hZ (ow hw 36 rfl)) (by decide) (backOf (W := 0) (rm5_1 l Z a0 hw [] b3 w_BELOW y1 (i0 &&& (2147483647 : Int32)) h4 n0 O F_hours_b3 F_counting_b3 (E_BELOW.ext O.2) (F_ordinal_BELOW.ext O.2)) hZ (ow hw 38 rfl) (ow hw 6 rfl) (by decide) (by decide)) q5a q5c (g := (mkF m 75 #[iv i0, iv i1, iv i2, iv (i0 &&& (2147483647 : Int32)), iv 0, iv y1, rv w_BELOW, rv b3, .unset, .unset] [.int y1, .ref b3])) rfl (by rw [hml]; rfl) (Steps.refl _) (argsL := [(.int y1)]) (rest := []) (lenOf pd_4 rfl) rfl (by show 2 * 0 + _ ≤ _; exact Nat.le_of_eq rfl) (hb hby at_75) (fun _ _ => ⟨rfl, e4, (by decide : 3 + 0 ≤ _), (by decide : 38 + 0 ≤ _)⟩)
      dsimp only [Pt.U, Pt.locs, Pt.cells, Pt.slots] at X5 lq5 yq5 zq5 st5 hQ5
      subst lq5 yq5 zq5
      obtain ⟨rfl, rfl, e5⟩ := hQ5
      try rw [List.append_nil] at X5
      refine gb (fun _ k => st5.trans k) ?_
      show G T5 (mkF m 78 #[iv i0, iv i1, iv i2, iv (i0 &&& (2147483647 : Int32)), iv 0, iv y1, rv w_BELOW, rv b3, .unset, .unset] [.int (if y1 < (i0 &&& (2147483647 : Int32)) then (1 : Int32) else (0 : Int32))])
      refine gb (fun _ k => XS.istore X5.here hx rfl (hb hby at_78) rfl (l' := #[iv i0, iv i1, iv i2, iv (i0 &&& (2147483647 : Int32)), iv 0, iv y1, rv w_BELOW, rv b3, iv (if y1 < (i0 &&& (2147483647 : Int32)) then (1 : Int32) else (0 : Int32)), .unset]) rfl (XS.iload X5.here hx rfl (hb hby at_80) rfl (XS.iloadN X5.here hx rfl (hb hby at_82) rfl k))) ?_
      show G T5 (mkF m 83 #[iv i0, iv i1, iv i2, iv (i0 &&& (2147483647 : Int32)), iv 0, iv y1, rv w_BELOW, rv b3, iv (if y1 < (i0 &&& (2147483647 : Int32)) then (1 : Int32) else (0 : Int32)), .unset] [.int (i0 &&& (2147483647 : Int32)), .int y1])
      by_cases hc83 : y1 < (i0 &&& (2147483647 : Int32))
      · skip
        refine gb (fun _ k => XS.icmpYes X5.here hx rfl (pc0 := 83) (pc' := 97) rfl (hb hby at_83) rfl (tlt hc83).1 (by decide) (by decide) (XS.iconst X5.here hx rfl (hb hby at_97) (XS.goto X5.here hx rfl (pc0 := 98) (pc' := 102) rfl (hb hby at_98) (by decide) (by decide) (XS.istore X5.here hx rfl (hb hby at_102) rfl (l' := #[iv i0, iv i1, iv i2, iv (i0 &&& (2147483647 : Int32)), iv 0, iv y1, rv w_BELOW, rv b3, iv (if y1 < (i0 &&& (2147483647 : Int32)) then (1 : Int32) else (0 : Int32)), iv 1]) rfl (XS.iload X5.here hx rfl (hb hby at_104) rfl (XS.iload X5.here hx rfl (hb hby at_106) rfl k)))))) ?_
        show G T5 (mkF m 108 #[iv i0, iv i1, iv i2, iv (i0 &&& (2147483647 : Int32)), iv 0, iv y1, rv w_BELOW, rv b3, iv (if y1 < (i0 &&& (2147483647 : Int32)) then (1 : Int32) else (0 : Int32)), iv 1] [.int 1, .int (if y1 < (i0 &&& (2147483647 : Int32)) then (1 : Int32) else (0 : Int32))])
        refine gb (fun _ k => XS.icmpNo X5.here hx rfl (hb hby at_108) rfl (teq (show (if y1 < (i0 &&& (2147483647 : Int32)) then (1 : Int32) else (0 : Int32)) = (1 : Int32) from if_pos hc83)).2 (XS.iconst X5.here hx rfl (hb hby at_111) (XS.goto X5.here hx rfl (pc0 := 112) (pc' := 116) rfl (hb hby at_112) (by decide) (by decide) k))) ?_
        show G T5 (mkF m 116 #[iv i0, iv i1, iv i2, iv (i0 &&& (2147483647 : Int32)), iv 0, iv y1, rv w_BELOW, rv b3, iv (if y1 < (i0 &&& (2147483647 : Int32)) then (1 : Int32) else (0 : Int32)), iv 1] [.int 1])
        exact go X5 hS (by rw [e5]; exact hk) (v := (some (.int (1 : Int32)))) (fun h => by rw [Bd.returns] at h; cases h) (fun fs hr => retOut X5 hx Bd.returns rfl (Or.inl ⟨rfl, by simp, _, rfl⟩) (hb hby at_116) hr) (⟨rfl, N⟩) (by decide) (by decide)
      · skip
        refine gb (fun _ k => XS.icmpNo X5.here hx rfl (hb hby at_83) rfl (flt hc83).1 (XS.iload X5.here hx rfl (hb hby at_86) rfl (XS.ifYes X5.here hx rfl (pc0 := 88) (pc' := 101) rfl (hb hby at_88) rfl ((if0 _ _).trans (teq (by decide : (0 : Int32) = (0 : Int32))).1) (by decide) (by decide) (XS.iconst X5.here hx rfl (hb hby at_101) (XS.istore X5.here hx rfl (hb hby at_102) rfl (l' := #[iv i0, iv i1, iv i2, iv (i0 &&& (2147483647 : Int32)), iv 0, iv y1, rv w_BELOW, rv b3, iv (if y1 < (i0 &&& (2147483647 : Int32)) then (1 : Int32) else (0 : Int32)), iv 0]) rfl (XS.iload X5.here hx rfl (hb hby at_104) rfl k)))))) ?_
        show G T5 (mkF m 106 #[iv i0, iv i1, iv i2, iv (i0 &&& (2147483647 : Int32)), iv 0, iv y1, rv w_BELOW, rv b3, iv (if y1 < (i0 &&& (2147483647 : Int32)) then (1 : Int32) else (0 : Int32)), iv 0] [.int (if y1 < (i0 &&& (2147483647 : Int32)) then (1 : Int32) else (0 : Int32))])
        refine gb (fun _ k => XS.iload X5.here hx rfl (hb hby at_106) rfl (XS.icmpNo X5.here hx rfl (hb hby at_108) rfl (teq (show (if y1 < (i0 &&& (2147483647 : Int32)) then (1 : Int32) else (0 : Int32)) = (0 : Int32) from if_neg hc83)).2 (XS.iconst X5.here hx rfl (hb hby at_111) (XS.goto X5.here hx rfl (pc0 := 112) (pc' := 116) rfl (hb hby at_112) (by decide) (by decide) k)))) ?_
        show G T5 (mkF m 116 #[iv i0, iv i1, iv i2, iv (i0 &&& (2147483647 : Int32)), iv 0, iv y1, rv w_BELOW, rv b3, iv (if y1 < (i0 &&& (2147483647 : Int32)) then (1 : Int32) else (0 : Int32)), iv 0] [.int 1])
        exact go X5 hS (by rw [e5]; exact hk) (v := (some (.int (1 : Int32)))) (fun h => by rw [Bd.returns] at h; cases h) (fun fs hr => retOut X5 hx Bd.returns rfl (Or.inl ⟨rfl, by simp, _, rfl⟩) (hb hby at_116) hr) (⟨rfl, N⟩) (by decide) (by decide)
    refine gb (fun _ k => XS.iloadN X0.here hx rfl (hb hby at_18) rfl (XS.iconst X0.here hx rfl (hb hby at_19) (XS.iand X0.here hx rfl (hb hby at_20) rfl k))) ?_
    show G s₁ (mkF m 21 #[iv i0, iv i1, iv i2, iv (i0 &&& (2147483647 : Int32)), iv 0, .unset, .unset, .unset, .unset, .unset] [.int (i2 &&& (2 : Int32))])
    by_cases hc21 : (i2 &&& (2 : Int32)) = (0 : Int32)
    · skip
      refine gb (fun _ k => XS.ifYes X0.here hx rfl (pc0 := 21) (pc' := 30) rfl (hb hby at_21) rfl ((if0 _ _).trans (teq hc21).1) (by decide) (by decide) (XS.iloadN X0.here hx rfl (hb hby at_30) rfl (XS.iloadN X0.here hx rfl (hb hby at_31) rfl (XS.iconst X0.here hx rfl (hb hby at_32) (XS.ishr X0.here hx rfl (hb hby at_33) rfl (XS.iconst X0.here hx rfl (hb hby at_34) k)))))) ?_
      show G s₁ (mkF m 35 #[iv i0, iv i1, iv i2, iv (i0 &&& (2147483647 : Int32)), iv 0, .unset, .unset, .unset, .unset, .unset] [.int 3, .int (i2 >>> ((2 : Int32) &&& 31)), .int (i0 &&& (2147483647 : Int32))])
      refine gb (fun _ k => XS.iand X0.here hx rfl (hb hby at_35) rfl (XS.iadd X0.here hx rfl (hb hby at_36) rfl (XS.iconst X0.here hx rfl (hb hby at_37) (XS.isub X0.here hx rfl (hb hby at_38) rfl (XS.istore X0.here hx rfl (hb hby at_39) rfl (l' := #[iv i0, iv i1, iv i2, iv (i0 &&& (2147483647 : Int32)), iv 0, iv (((i0 &&& (2147483647 : Int32)) + ((i2 >>> ((2 : Int32) &&& 31)) &&& (3 : Int32))) - (1 : Int32)), .unset, .unset, .unset, .unset]) rfl k))))) ?_
      show G s₁ (mkF m 41 #[iv i0, iv i1, iv i2, iv (i0 &&& (2147483647 : Int32)), iv 0, iv (((i0 &&& (2147483647 : Int32)) + ((i2 >>> ((2 : Int32) &&& 31)) &&& (3 : Int32))) - (1 : Int32)), .unset, .unset, .unset, .unset] [])
      exact J1 _ _ _ _ hS hk hZ hown X0 N e0  ((((i0 &&& (2147483647 : Int32)) + ((i2 >>> ((2 : Int32) &&& 31)) &&& (3 : Int32))) - (1 : Int32))) 
    · skip
      refine gb (fun _ k => XS.ifNo X0.here hx rfl (hb hby at_21) rfl ((if0 _ _).trans (feq hc21).1) (XS.iloadN X0.here hx rfl (hb hby at_24) rfl (XS.istore X0.here hx rfl (hb hby at_25) rfl (l' := #[iv i0, iv i1, iv i2, iv (i0 &&& (2147483647 : Int32)), iv 0, iv i1, .unset, .unset, .unset, .unset]) rfl (XS.goto X0.here hx rfl (pc0 := 27) (pc' := 41) rfl (hb hby at_27) (by decide) (by decide) k)))) ?_
      show G s₁ (mkF m 41 #[iv i0, iv i1, iv i2, iv (i0 &&& (2147483647 : Int32)), iv 0, iv i1, .unset, .unset, .unset, .unset] [])
      exact J1 _ _ _ _ hS hk hZ hown X0 N e0  (i1) 
  · skip
    refine gb (fun _ k => XS.ifNo X0.here hx rfl (hb hby at_8) rfl ((if0 _ _).trans (feq hc8).1) (XS.iconst X0.here hx rfl (hb hby at_11) (XS.goto X0.here hx rfl (pc0 := 12) (pc' := 16) rfl (hb hby at_12) (by decide) (by decide) (XS.istore X0.here hx rfl (hb hby at_16) rfl (l' := #[iv i0, iv i1, iv i2, iv (i0 &&& (2147483647 : Int32)), iv 1, .unset, .unset, .unset, .unset, .unset]) rfl k)))) ?_
    show G s₁ (mkF m 18 #[iv i0, iv i1, iv i2, iv (i0 &&& (2147483647 : Int32)), iv 1, .unset, .unset, .unset, .unset, .unset] [])
    have J6 : ∀ (T6 : State) (locs6 : List Loc) (vm6 : Vm) (kn6 : Nat) (hS : s.Since vm6 kn6) (hk : kn6 ≤ h0.size) (hZ : Z.Warmed39 (s.setVm vm6).vm) (hown : (s.setVm vm6).vm.findClass "com/example/vestry/vestry/vesting/BreakInServiceIsBreakPinLaw" = some m.cls) (X6 : Stand p l e room_1 (s.setVm vm6) m #[(.int i0), (.int i1), (.int i2)] below meth c T6 locs6 0 0) (N : Fr n0 locs6) (e6 : T6.heap = h0)  (y1 : Int32) , G T6 (mkF m 41 #[iv i0, iv i1, iv i2, iv (i0 &&& (2147483647 : Int32)), iv 1, iv y1, .unset, .unset, .unset, .unset] []) := by
      intro T6 locs6 vm6 kn6 hS hk hZ hown X6 N e6  y1 
      show G T6 (mkF m 41 #[iv i0, iv i1, iv i2, iv (i0 &&& (2147483647 : Int32)), iv 1, iv y1, .unset, .unset, .unset, .unset] [])
      refine gb (fun _ k => XS.iload X6.here hx rfl (hb hby at_41) rfl (XS.ifNo X6.here hx rfl (hb hby at_43) rfl ((if0 _ _).trans (feq (by decide : ¬ ((1 : Int32) = (0 : Int32)))).1) k)) ?_
      show G T6 (mkF m 46 #[iv i0, iv i1, iv i2, iv (i0 &&& (2147483647 : Int32)), iv 1, iv y1, .unset, .unset, .unset, .unset] [])
      obtain ⟨T7, X7, e7, st7⟩ := getS2 X6 hx hZ hown (host := "") (Or.inl (ow hw 48 rfl)) Via.refl e6 (S_AT_MOST.ext O.2) (g := (mkF m 46 #[iv i0, iv i1, iv i2, iv (i0 &&& (2147483647 : Int32)), iv 1, iv y1, .unset, .unset, .unset, .unset] [])) rfl (hb hby at_46)
      refine gb st7 ?_
      show G T7 (mkF m 49 #[iv i0, iv i1, iv i2, iv (i0 &&& (2147483647 : Int32)), iv 1, iv y1, .unset, .unset, .unset, .unset] [.ref w_AT_MOST])
      refine gb (fun _ k => XS.astore X7.here hx rfl (hb hby at_49) rfl rfl (l' := #[iv i0, iv i1, iv i2, iv (i0 &&& (2147483647 : Int32)), iv 1, iv y1, rv w_AT_MOST, .unset, .unset, .unset]) rfl (XS.goto X7.here hx rfl (pc0 := 51) (pc' := 59) rfl (hb hby at_51) (by decide) (by decide) k)) ?_
      show G T7 (mkF m 59 #[iv i0, iv i1, iv i2, iv (i0 &&& (2147483647 : Int32)), iv 1, iv y1, rv w_AT_MOST, .unset, .unset, .unset] [])
      obtain ⟨T8, h8, X8, e8, E8, A8, D8, U8, st8⟩ := newO X7 hx hZ hown (ow hw 4 rfl) (ow hw 5 rfl) (ow hw 6 rfl) e7 (g := (mkF m 59 #[iv i0, iv i1, iv i2, iv (i0 &&& (2147483647 : Int32)), iv 1, iv y1, rv w_AT_MOST, .unset, .unset, .unset] [])) rfl (hb hby at_59) (by decide) (by decide)
      obtain ⟨b8, g8⟩ : ∃ z, z = h0.size := ⟨_, rfl⟩
      rw [← g8] at A8 D8 U8 st8
      have g_b8 : n0 ≤ b8 := Nat.le_trans (by have := O.2.1; rw [O.1] at this; exact this) (Nat.le_of_eq g8.symm)
      have O := O.ext E8
      have hk := Nat.le_trans hk E8.1
      have E_b8 := A8
      have F_hours_b8 : Fld Z h8 b8 "com/example/vestry/vestry/vesting/BreakInService" "hours" "I" (.int (0 : Int32)) := D8 (Or.inr (ow hw 31 rfl)) (ty := .int) (by decide)
      have F_counting_b8 : Fld Z h8 b8 "com/example/vestry/vestry/vesting/BreakInService" "counting" "Lcom/example/vestry/vestry/vesting/BreakInService$Counting;" .null := D8 (Or.inr (ow hw 33 rfl)) (ty := (.object "com/example/vestry/vestry/vesting/BreakInService$Counting")) (by decide)
      refine gb st8 ?_
      show G T8 (mkF m 62 #[iv i0, iv i1, iv i2, iv (i0 &&& (2147483647 : Int32)), iv 1, iv y1, rv w_AT_MOST, .unset, .unset, .unset] [.ref b8])
      refine gb (fun _ k => XS.dup X8.here hx rfl (hb hby at_62) rfl rfl (XS.iloadN X8.here hx rfl (hb hby at_63) rfl (XS.aload X8.here hx rfl (hb hby at_64) rfl rfl k))) ?_
      show G T8 (mkF m 66 #[iv i0, iv i1, iv i2, iv (i0 &&& (2147483647 : Int32)), iv 1, iv y1, rv w_AT_MOST, .unset, .unset, .unset] [.ref w_AT_MOST, .int (i0 &&& (2147483647 : Int32)), .ref b8, .ref b8])
      obtain ⟨_, _, ⟨T9, Lz9, kz9, nz9⟩, -, X9, hS9, hg9, ⟨Lc9, hQ9, lq9, yq9, zq9⟩, st9⟩ := X8.specialBackS hx (y := (⟨"com/example/vestry/vestry/vesting/BreakInService", "<init>", "(ILcom/example/vestry/vestry/vesting/BreakInService$Counting;)V"⟩ : MethodName)) rfl hown (mvT hZ (ow hw 7 rfl)) (mvT hZ (ow hw 8 rfl)) (mvT hZ (ow hw 9 rfl)) (by decide) (backOfS (W := 1) (rm1 l Z a0 hw [] b8 w_AT_MOST (i0 &&& (2147483647 : Int32)) h8 n0 O E_b8 F_hours_b8 F_counting_b8 g_b8 (own_nn _)) hZ (ow hw 9 rfl) (ow hw 6 rfl) (by decide) (by decide)) (g := (mkF m 66 #[iv i0, iv i1, iv i2, iv (i0 &&& (2147483647 : Int32)), iv 1, iv y1, rv w_AT_MOST, .unset, .unset, .unset] [.ref w_AT_MOST, .int (i0 &&& (2147483647 : Int32)), .ref b8, .ref b8])) rfl (by rw [hml]; rfl) (Steps.refl _) (a := b8) (argsL := [(.int (i0 &&& (2147483647 : Int32))), (.ref w_AT_MOST)]) (rest := [(.ref b8)]) (lenOf pd_3 rfl) rfl (by show 2 * 0 + _ ≤ _; exact Nat.le_of_eq rfl) (hb hby at_66) (fun _ _ => ⟨rfl, e8, (by decide : 1 + 2 ≤ _), (by decide : 2 + 36 ≤ _)⟩)
      dsimp only [Pt.U, Pt.locs, Pt.cells, Pt.slots] at X9 lq9 yq9 zq9 st9 hQ9 hS9 hg9
      subst lq9 yq9 zq9
      obtain ⟨X9, hS, hZ, hown⟩ := rebS hS (by rw [e8]; exact hk) X9 hS9 hg9 hZ hown
      obtain ⟨h9, e9⟩ : ∃ z, z = T9.heap := ⟨_, rfl⟩
      rw [← e9] at hQ9
      replace e9 := e9.symm
      obtain ⟨rfl, Nq9, Kq9, hR9⟩ := hQ9
      have N := Fr.app N Nq9
      have E_b8 := E_b8.keep Kq9
      have hk := Nat.le_trans hk Kq9.1
      have hk : T9.heap.size ≤ h9.size := by rw [e9]; exact Nat.le_refl _
      obtain ⟨E_b8, F_hours_b8, F_counting_b8⟩ := hR9
      have O := O.keep Kq9 (allS g_b8 all0)
      refine gb (fun _ k => st9.trans k) ?_
      show G T9 (mkF m 69 #[iv i0, iv i1, iv i2, iv (i0 &&& (2147483647 : Int32)), iv 1, iv y1, rv w_AT_MOST, .unset, .unset, .unset] [.ref b8])
      refine gb (fun _ k => XS.astore X9.here hx rfl (hb hby at_69) rfl rfl (l' := #[iv i0, iv i1, iv i2, iv (i0 &&& (2147483647 : Int32)), iv 1, iv y1, rv w_AT_MOST, rv b8, .unset, .unset]) rfl (XS.aload X9.here hx rfl (hb hby at_71) rfl rfl (XS.iload X9.here hx rfl (hb hby at_73) rfl k))) ?_
      show G T9 (mkF m 75 #[iv i0, iv i1, iv i2, iv (i0 &&& (2147483647 : Int32)), iv 1, iv y1, rv w_AT_MOST, rv b8, .unset, .unset] [.int y1, .ref b8])
      obtain ⟨cq10, kq10, q10a, q10b, q10c⟩ := isOf hZ e9 E_b8
      obtain ⟨_, _, ⟨T10, Lz10, kz10, nz10⟩, -, X10, ⟨Lc10, hQ10, lq10, yq10, zq10⟩, st10⟩ := X9.virtualBack hx (y := (⟨"com/example/vestry/vestry/vesting/BreakInService", "isBreak", "(I)Z"⟩ : MethodName)) (z := (⟨"com/example/vestry/vestry/vesting/BreakInService", "isBreak", "(I)Z"⟩ : MethodName)) hown (mvT hZ (ow hw 34 rfl)) (mvT hZ (ow hw 35 rfl)) (notFace_of_selects (args := #[]) (mvT hZ (ow hw 37 rfl))) (mvT hZ (ow hw 37 rfl)) (mvT hZ (ow hw 36 rfl)) (by decide) (backOf (W := 0) (rm5_0 l Z a0 hw [] b8 w_AT_MOST y1 (i0 &&& (2147483647 : Int32)) h9 n0 O F_hours_b8 F_counting_b8 (E_AT_MOST.ext O.2) (F_ordinal_AT_MOST.ext O.2)) hZ (ow hw 38 rfl) (ow hw 6 rfl) (by decide) (by decide)) q10a q10c (g := (mkF m 75 #[iv i0, iv i1, iv i2, iv (i0 &&& (2147483647 : Int32)), iv 1, iv y1, rv w_AT_MOST, rv b8, .unset, .unset] [.int y1, .ref b8])) rfl (by rw [hml]; rfl) (Steps.refl _) (argsL := [(.int y1)]) (rest := []) (lenOf pd_4 rfl) rfl (by show 2 * 0 + _ ≤ _; exact Nat.le_of_eq rfl) (hb hby at_75) (fun _ _ => ⟨rfl, e9, (by decide : 3 + 0 ≤ _), (by decide : 38 + 0 ≤ _)⟩)
      dsimp only [Pt.U, Pt.locs, Pt.cells, Pt.slots] at X10 lq10 yq10 zq10 st10 hQ10
      subst lq10 yq10 zq10
      obtain ⟨rfl, rfl, e10⟩ := hQ10
      try rw [List.append_nil] at X10
      refine gb (fun _ k => st10.trans k) ?_
      show G T10 (mkF m 78 #[iv i0, iv i1, iv i2, iv (i0 &&& (2147483647 : Int32)), iv 1, iv y1, rv w_AT_MOST, rv b8, .unset, .unset] [.int (if (i0 &&& (2147483647 : Int32)) < y1 then (0 : Int32) else (1 : Int32))])
      refine gb (fun _ k => XS.istore X10.here hx rfl (hb hby at_78) rfl (l' := #[iv i0, iv i1, iv i2, iv (i0 &&& (2147483647 : Int32)), iv 1, iv y1, rv w_AT_MOST, rv b8, iv (if (i0 &&& (2147483647 : Int32)) < y1 then (0 : Int32) else (1 : Int32)), .unset]) rfl (XS.iload X10.here hx rfl (hb hby at_80) rfl (XS.iloadN X10.here hx rfl (hb hby at_82) rfl k))) ?_
      show G T10 (mkF m 83 #[iv i0, iv i1, iv i2, iv (i0 &&& (2147483647 : Int32)), iv 1, iv y1, rv w_AT_MOST, rv b8, iv (if (i0 &&& (2147483647 : Int32)) < y1 then (0 : Int32) else (1 : Int32)), .unset] [.int (i0 &&& (2147483647 : Int32)), .int y1])
      by_cases hc83 : y1 < (i0 &&& (2147483647 : Int32))
      · skip
        refine gb (fun _ k => XS.icmpYes X10.here hx rfl (pc0 := 83) (pc' := 97) rfl (hb hby at_83) rfl (tlt hc83).1 (by decide) (by decide) (XS.iconst X10.here hx rfl (hb hby at_97) (XS.goto X10.here hx rfl (pc0 := 98) (pc' := 102) rfl (hb hby at_98) (by decide) (by decide) (XS.istore X10.here hx rfl (hb hby at_102) rfl (l' := #[iv i0, iv i1, iv i2, iv (i0 &&& (2147483647 : Int32)), iv 1, iv y1, rv w_AT_MOST, rv b8, iv (if (i0 &&& (2147483647 : Int32)) < y1 then (0 : Int32) else (1 : Int32)), iv 1]) rfl (XS.iload X10.here hx rfl (hb hby at_104) rfl (XS.iload X10.here hx rfl (hb hby at_106) rfl k)))))) ?_
        show G T10 (mkF m 108 #[iv i0, iv i1, iv i2, iv (i0 &&& (2147483647 : Int32)), iv 1, iv y1, rv w_AT_MOST, rv b8, iv (if (i0 &&& (2147483647 : Int32)) < y1 then (0 : Int32) else (1 : Int32)), iv 1] [.int 1, .int (if (i0 &&& (2147483647 : Int32)) < y1 then (0 : Int32) else (1 : Int32))])
        refine gb (fun _ k => XS.icmpNo X10.here hx rfl (hb hby at_108) rfl (teq (show (if (i0 &&& (2147483647 : Int32)) < y1 then (0 : Int32) else (1 : Int32)) = (1 : Int32) from if_neg (own_asym hc83))).2 (XS.iconst X10.here hx rfl (hb hby at_111) (XS.goto X10.here hx rfl (pc0 := 112) (pc' := 116) rfl (hb hby at_112) (by decide) (by decide) k))) ?_
        show G T10 (mkF m 116 #[iv i0, iv i1, iv i2, iv (i0 &&& (2147483647 : Int32)), iv 1, iv y1, rv w_AT_MOST, rv b8, iv (if (i0 &&& (2147483647 : Int32)) < y1 then (0 : Int32) else (1 : Int32)), iv 1] [.int 1])
        exact go X10 hS (by rw [e10]; exact hk) (v := (some (.int (1 : Int32)))) (fun h => by rw [Bd.returns] at h; cases h) (fun fs hr => retOut X10 hx Bd.returns rfl (Or.inl ⟨rfl, by simp, _, rfl⟩) (hb hby at_116) hr) (⟨rfl, N⟩) (by decide) (by decide)
      · skip
        refine gb (fun _ k => XS.icmpNo X10.here hx rfl (hb hby at_83) rfl (flt hc83).1 (XS.iload X10.here hx rfl (hb hby at_86) rfl (XS.ifNo X10.here hx rfl (hb hby at_88) rfl ((if0 _ _).trans (feq (by decide : ¬ ((1 : Int32) = (0 : Int32)))).1) (XS.iload X10.here hx rfl (hb hby at_91) rfl (XS.iloadN X10.here hx rfl (hb hby at_93) rfl k))))) ?_
        show G T10 (mkF m 94 #[iv i0, iv i1, iv i2, iv (i0 &&& (2147483647 : Int32)), iv 1, iv y1, rv w_AT_MOST, rv b8, iv (if (i0 &&& (2147483647 : Int32)) < y1 then (0 : Int32) else (1 : Int32)), .unset] [.int (i0 &&& (2147483647 : Int32)), .int y1])
        by_cases hc94 : y1 = (i0 &&& (2147483647 : Int32))
        · skip
          refine gb (fun _ k => XS.icmpNo X10.here hx rfl (hb hby at_94) rfl (teq hc94).2 (XS.iconst X10.here hx rfl (hb hby at_97) (XS.goto X10.here hx rfl (pc0 := 98) (pc' := 102) rfl (hb hby at_98) (by decide) (by decide) (XS.istore X10.here hx rfl (hb hby at_102) rfl (l' := #[iv i0, iv i1, iv i2, iv (i0 &&& (2147483647 : Int32)), iv 1, iv y1, rv w_AT_MOST, rv b8, iv (if (i0 &&& (2147483647 : Int32)) < y1 then (0 : Int32) else (1 : Int32)), iv 1]) rfl (XS.iload X10.here hx rfl (hb hby at_104) rfl (XS.iload X10.here hx rfl (hb hby at_106) rfl k)))))) ?_
          show G T10 (mkF m 108 #[iv i0, iv i1, iv i2, iv (i0 &&& (2147483647 : Int32)), iv 1, iv y1, rv w_AT_MOST, rv b8, iv (if (i0 &&& (2147483647 : Int32)) < y1 then (0 : Int32) else (1 : Int32)), iv 1] [.int 1, .int (if (i0 &&& (2147483647 : Int32)) < y1 then (0 : Int32) else (1 : Int32))])
          refine gb (fun _ k => XS.icmpNo X10.here hx rfl (hb hby at_108) rfl (teq (show (if (i0 &&& (2147483647 : Int32)) < y1 then (0 : Int32) else (1 : Int32)) = (1 : Int32) from by rw [hc94]; exact if_neg (own_irr _))).2 (XS.iconst X10.here hx rfl (hb hby at_111) (XS.goto X10.here hx rfl (pc0 := 112) (pc' := 116) rfl (hb hby at_112) (by decide) (by decide) k))) ?_
          show G T10 (mkF m 116 #[iv i0, iv i1, iv i2, iv (i0 &&& (2147483647 : Int32)), iv 1, iv y1, rv w_AT_MOST, rv b8, iv (if (i0 &&& (2147483647 : Int32)) < y1 then (0 : Int32) else (1 : Int32)), iv 1] [.int 1])
          exact go X10 hS (by rw [e10]; exact hk) (v := (some (.int (1 : Int32)))) (fun h => by rw [Bd.returns] at h; cases h) (fun fs hr => retOut X10 hx Bd.returns rfl (Or.inl ⟨rfl, by simp, _, rfl⟩) (hb hby at_116) hr) (⟨rfl, N⟩) (by decide) (by decide)
        · skip
          refine gb (fun _ k => XS.icmpYes X10.here hx rfl (pc0 := 94) (pc' := 101) rfl (hb hby at_94) rfl (feq hc94).2 (by decide) (by decide) (XS.iconst X10.here hx rfl (hb hby at_101) (XS.istore X10.here hx rfl (hb hby at_102) rfl (l' := #[iv i0, iv i1, iv i2, iv (i0 &&& (2147483647 : Int32)), iv 1, iv y1, rv w_AT_MOST, rv b8, iv (if (i0 &&& (2147483647 : Int32)) < y1 then (0 : Int32) else (1 : Int32)), iv 0]) rfl (XS.iload X10.here hx rfl (hb hby at_104) rfl (XS.iload X10.here hx rfl (hb hby at_106) rfl (XS.icmpNo X10.here hx rfl (hb hby at_108) rfl (teq (show (if (i0 &&& (2147483647 : Int32)) < y1 then (0 : Int32) else (1 : Int32)) = (0 : Int32) from if_pos (own_tri hc83 hc94))).2 k)))))) ?_
          show G T10 (mkF m 111 #[iv i0, iv i1, iv i2, iv (i0 &&& (2147483647 : Int32)), iv 1, iv y1, rv w_AT_MOST, rv b8, iv (if (i0 &&& (2147483647 : Int32)) < y1 then (0 : Int32) else (1 : Int32)), iv 0] [])
          refine gb (fun _ k => XS.iconst X10.here hx rfl (hb hby at_111) (XS.goto X10.here hx rfl (pc0 := 112) (pc' := 116) rfl (hb hby at_112) (by decide) (by decide) k)) ?_
          show G T10 (mkF m 116 #[iv i0, iv i1, iv i2, iv (i0 &&& (2147483647 : Int32)), iv 1, iv y1, rv w_AT_MOST, rv b8, iv (if (i0 &&& (2147483647 : Int32)) < y1 then (0 : Int32) else (1 : Int32)), iv 0] [.int 1])
          exact go X10 hS (by rw [e10]; exact hk) (v := (some (.int (1 : Int32)))) (fun h => by rw [Bd.returns] at h; cases h) (fun fs hr => retOut X10 hx Bd.returns rfl (Or.inl ⟨rfl, by simp, _, rfl⟩) (hb hby at_116) hr) (⟨rfl, N⟩) (by decide) (by decide)
    refine gb (fun _ k => XS.iloadN X0.here hx rfl (hb hby at_18) rfl (XS.iconst X0.here hx rfl (hb hby at_19) (XS.iand X0.here hx rfl (hb hby at_20) rfl k))) ?_
    show G s₁ (mkF m 21 #[iv i0, iv i1, iv i2, iv (i0 &&& (2147483647 : Int32)), iv 1, .unset, .unset, .unset, .unset, .unset] [.int (i2 &&& (2 : Int32))])
    by_cases hc21 : (i2 &&& (2 : Int32)) = (0 : Int32)
    · skip
      refine gb (fun _ k => XS.ifYes X0.here hx rfl (pc0 := 21) (pc' := 30) rfl (hb hby at_21) rfl ((if0 _ _).trans (teq hc21).1) (by decide) (by decide) (XS.iloadN X0.here hx rfl (hb hby at_30) rfl (XS.iloadN X0.here hx rfl (hb hby at_31) rfl (XS.iconst X0.here hx rfl (hb hby at_32) (XS.ishr X0.here hx rfl (hb hby at_33) rfl (XS.iconst X0.here hx rfl (hb hby at_34) k)))))) ?_
      show G s₁ (mkF m 35 #[iv i0, iv i1, iv i2, iv (i0 &&& (2147483647 : Int32)), iv 1, .unset, .unset, .unset, .unset, .unset] [.int 3, .int (i2 >>> ((2 : Int32) &&& 31)), .int (i0 &&& (2147483647 : Int32))])
      refine gb (fun _ k => XS.iand X0.here hx rfl (hb hby at_35) rfl (XS.iadd X0.here hx rfl (hb hby at_36) rfl (XS.iconst X0.here hx rfl (hb hby at_37) (XS.isub X0.here hx rfl (hb hby at_38) rfl (XS.istore X0.here hx rfl (hb hby at_39) rfl (l' := #[iv i0, iv i1, iv i2, iv (i0 &&& (2147483647 : Int32)), iv 1, iv (((i0 &&& (2147483647 : Int32)) + ((i2 >>> ((2 : Int32) &&& 31)) &&& (3 : Int32))) - (1 : Int32)), .unset, .unset, .unset, .unset]) rfl k))))) ?_
      show G s₁ (mkF m 41 #[iv i0, iv i1, iv i2, iv (i0 &&& (2147483647 : Int32)), iv 1, iv (((i0 &&& (2147483647 : Int32)) + ((i2 >>> ((2 : Int32) &&& 31)) &&& (3 : Int32))) - (1 : Int32)), .unset, .unset, .unset, .unset] [])
      exact J6 _ _ _ _ hS hk hZ hown X0 N e0  ((((i0 &&& (2147483647 : Int32)) + ((i2 >>> ((2 : Int32) &&& 31)) &&& (3 : Int32))) - (1 : Int32))) 
    · skip
      refine gb (fun _ k => XS.ifNo X0.here hx rfl (hb hby at_21) rfl ((if0 _ _).trans (feq hc21).1) (XS.iloadN X0.here hx rfl (hb hby at_24) rfl (XS.istore X0.here hx rfl (hb hby at_25) rfl (l' := #[iv i0, iv i1, iv i2, iv (i0 &&& (2147483647 : Int32)), iv 1, iv i1, .unset, .unset, .unset, .unset]) rfl (XS.goto X0.here hx rfl (pc0 := 27) (pc' := 41) rfl (hb hby at_27) (by decide) (by decide) k)))) ?_
      show G s₁ (mkF m 41 #[iv i0, iv i1, iv i2, iv (i0 &&& (2147483647 : Int32)), iv 1, iv i1, .unset, .unset, .unset, .unset] [])
      exact J6 _ _ _ _ hS hk hZ hown X0 N e0  (i1) 
set_option maxRecDepth 65536 in
set_option maxHeartbeats 40000000 in
theorem comes_1 {Post : Tables → Env → Array Value → State → Outcome → State → Prop} (hpost : ∀ tb e args s v u, (limb_1_1.after args s (.returned v) u = true ∧ limb_1_2.after args s (.returned v) u = true ∧ True) → ReturnedEndW s (.returned v) u (Jvm.fieldLocs frame_1_writes args s ++ Jvm.arrayLocs frame_1_arrays args s ++ Jvm.staticLocs frame_1_statics s) 16 1152 → Post tb e args s (.returned v) u) :
    ArmFor flags0 classFile x code maxLocals ret World_1 tables_1 room_1 Calls_1 rest_1 Pre_1 Post := by
  intro l hfl _ _ p e ha hc hk s m args below hf hA hF happ hP
  obtain ⟨hcalls, hrest, hpre⟩ := hP
  obtain ⟨-, -, -, hnamed, -, -, -, hat⟩ := (Spec.applies_iff hf).mp happ
  obtain ⟨hg, hn⟩ := and_e (Cond.before_iff.mp (show (Jvm.Cond.and given_1 narrow_1).before args s = true from hpre))
  obtain ⟨g1, g2⟩ := and_e hg
  obtain ⟨g3, g4⟩ := and_e g2
  obtain ⟨g5, g6⟩ := and_e g4
  obtain ⟨g7, g8⟩ := and_e hn
  obtain ⟨g9, g10⟩ := and_e g8
  obtain ⟨g11, g12⟩ := and_e g10
  obtain ⟨w0, w1, w2, rfl⟩ : ∃ w0 w1 w2 : Value, args = #[w0, w1, w2] := by
    have hs : args.size = 3 := by simpa [Cond.value, given_1] using g1
    obtain ⟨L⟩ := args
    match L, hs with
    | [w0, w1, w2], _ => exact ⟨w0, w1, w2, rfl⟩
  have hw := fun d (hd : d ∈ tables_1) => atoms_spec (ws := Jvm.Cond.code x code maxLocals ret :: tables_1) hat d (List.mem_cons_of_mem _ hd)
  have hfit : Fit s := fun {y c} hc i hi => by
    obtain ⟨ha, rfl⟩ := Array.getElem?_eq_some_iff.mp hc
    have q := List.all_eq_true.mp ((Array.all_eq_true_iff_forall_mem.mp hF) _ (Array.getElem_mem ha)) i (List.mem_range.mpr hi)
    simpa [Array.getElem?_eq_getElem hi] using q
  obtain ⟨i0, ei0⟩ := is_v g3
  obtain rfl : w0 = (.int i0) := Option.some.inj ei0
  obtain ⟨i1, ei1⟩ := is_v g5
  obtain rfl : w1 = (.int i1) := Option.some.inj ei1
  obtain ⟨i2, ei2⟩ := is_v g6
  obtain rfl : w2 = (.int i2) := Option.some.inj ei2
  obtain ⟨w_BELOW, ev_BELOW⟩ := exa_v g7
  have S_BELOW : Sta s s.heap "com/example/vestry/vestry/vesting/BreakInService$Counting" "BELOW" "Lcom/example/vestry/vestry/vesting/BreakInService$Counting;" (.ref w_BELOW) := Sta.start ev_BELOW (Or.inr ⟨(ow hw 2 rfl), (ow hw 3 rfl)⟩)
  have E_BELOW : Exa s s.heap w_BELOW "com/example/vestry/vestry/vesting/BreakInService$Counting" := Exa.start ev_BELOW g7
  obtain ⟨w_AT_MOST, ev_AT_MOST⟩ := exa_v g11
  have S_AT_MOST : Sta s s.heap "com/example/vestry/vestry/vesting/BreakInService$Counting" "AT_MOST" "Lcom/example/vestry/vestry/vesting/BreakInService$Counting;" (.ref w_AT_MOST) := Sta.start ev_AT_MOST (Or.inr ⟨(ow hw 2 rfl), (ow hw 49 rfl)⟩)
  have E_AT_MOST : Exa s s.heap w_AT_MOST "com/example/vestry/vestry/vesting/BreakInService$Counting" := Exa.start ev_AT_MOST g11
  have F_ordinal_BELOW := own_fldI ev_BELOW g9
  have F_ordinal_AT_MOST := own_fldI ev_AT_MOST g12
  obtain ⟨n, o, h1, h2, h3, _, L, rfl, ⟨rfl, N⟩, hq⟩ := rm0 l s _ hw tables_1 i0 i1 i2 s.heap s.heap.size (Old.start s) w_BELOW S_BELOW E_BELOW F_ordinal_BELOW w_AT_MOST S_AT_MOST E_AT_MOST F_ordinal_AT_MOST p e ha hc hk s m _ below hf ((Spec.applies_iff_loose hf).mp happ).1 ⟨rfl, State.Warmed39.refl s, rfl, rfl⟩ trivial
  refine ⟨n, _, h1, h2, h3, hpost _ _ _ _ _ _ ⟨Cond.after_iff.mpr rfl, Cond.after_iff.mpr (eq_i res_at (Term.int_eval (1)) rfl), trivial⟩ ⟨hq.1, hq.2.1, hq.2.2.1, (hq.2.2.2.sift fun y hy => Or.inr (N y hy)).mono (by decide) (by decide)⟩⟩
theorem main_1_1 : Claimed_1_1 := comes_1 fun _ _ _ _ _ _ h hF => ⟨h.1, hF⟩
theorem main_1_2 : Claimed_1_2 := comes_1 fun _ _ _ _ _ _ h hF => ⟨h.2.1, hF⟩
end Jvm.Pilot.@@N@@
namespace Jvm.Pilot.@@N@@
open Jvm Jvm.ClassFile Sem Op Lib Jvm.Free Jvm.Stand Jvm.Pilot.@@N@@.Jvm.D
/-! MADE BY PROGRAM (witnessworld.py) out of the Statement's table words and the real class files: 19 classes; the members and pool entries that the words name. The judged class is class 1, her method 1. -/
namespace start1
open Jvm.ClassFile
def u (s : String) : CpInfo := .utf8 (stringToUtf16 s)
/-- a pool by its gaps: so many unusable entries, then the entry; so many at the end -/
def gap : Nat → List CpInfo → List CpInfo
  | 0, r => r
  | n + 1, r => .unusable :: gap n r
def poolList (es : List (Nat × CpInfo)) (last : Nat) : List CpInfo := es.foldr (fun e r => gap e.1 (e.2 :: r)) (gap last [])
def pool (es : List (Nat × CpInfo)) (last : Nat) : Array CpInfo := ⟨poolList es last⟩
def fileOf (pool : Array CpInfo) (this : Nat) (attrs : Array Attribute := #[]) (ms : Array MethodInfo := #[]) (fl : Nat := 33) (sup : Nat := 0) (ifs : Array Nat := #[]) (fds : Array FieldInfo := #[]) : ClassFile where
  minorVersion := 0
  majorVersion := 65
  constantPool := pool
  accessFlags := fl
  thisClass := this
  superClass := sup
  interfaces := ifs
  fields := fds
  methods := ms
  attributes := attrs
def plain (name : String) (sup : Option ClassId) : Class where
  name := name
  kind := .ordinary
  loader := none
  accessFlags := 33
  super := sup
  interfaces := #[]
  cf := none
  fields := #[]
  methods := #[]
  instanceTypes := #[]
  staticTypes := #[]
  resolved := #[]
  callSites := []
  init := .initialized
  statics := none
  mirror := none

def pool0 : Array CpInfo := pool [(5, u "<init>"), (0, u "()V"), (1, .class_ 10), (1, u "java/lang/Object")] 113

def k0c0 : Code := { maxStack := 0, maxLocals := 1, code := object_method_1_code, exceptionTable := #[], attributes := #[] }
def k0m0 : Method := { name := "<init>", desc := "()V", sig := { parameters := [], returnType := none }, accessFlags := 1, code := some k0c0 }
/-- java/lang/Object -/
def k0 : Class := { plain "java/lang/Object" none with
  accessFlags := 33
  interfaces := #[]
  cf := some (fileOf pool0 8 #[] #[{ accessFlags := 1, nameIndex := 5, descriptorIndex := 6, attributes := #[] }] 33 0 #[] #[])
  fields := #[]
  methods := #[k0m0]
  instanceTypes := #[]
  staticTypes := #[]
  resolved := Array.replicate 124 none
  statics := none }

def pool1 : Array CpInfo := pool [(2, .class_ 4), (1, u "java/lang/Object"), (0, u "<init>"), (0, u "()V"), (0, .integer 2147483647), (0, .fieldref 9 10), (0, .class_ 11), (0, .nameAndType 12 13), (0, u "com/example/vestry/vestry/vesting/BreakInService$Counting"), (0, u "AT_MOST"), (0, u "Lcom/example/vestry/vestry/vesting/BreakInService$Counting;"), (0, .fieldref 9 15), (0, .nameAndType 16 13), (0, u "BELOW"), (0, .class_ 18), (0, u "com/example/vestry/vestry/vesting/BreakInService"), (0, .methodref 17 20), (0, .nameAndType 5 21), (0, u "(ILcom/example/vestry/vestry/vesting/BreakInService$Counting;)V"), (0, .methodref 17 23), (0, .nameAndType 24 25), (0, u "isBreak"), (0, u "(I)Z"), (0, .class_ 27), (0, u "com/example/vestry/vestry/vesting/BreakInServiceIsBreakPinLaw"), (2, u "law"), (0, u "(III)Z")] 5

def k1m0 : Method := { name := "<init>", desc := "()V", sig := { parameters := [], returnType := none }, accessFlags := 2, code := none }
def k1c1 : Code := { maxStack := 4, maxLocals := 10, code := code, exceptionTable := #[], attributes := #[] }
def k1m1 : Method := { name := "law", desc := "(III)Z", sig := { parameters := [.int, .int, .int], returnType := some .boolean }, accessFlags := 9, code := some k1c1 }
/-- com/example/vestry/vestry/vesting/BreakInServiceIsBreakPinLaw -/
def k1 : Class := { plain "com/example/vestry/vestry/vesting/BreakInServiceIsBreakPinLaw" (some 0) with
  accessFlags := 49
  interfaces := #[]
  cf := some (fileOf pool1 26 #[] #[{ accessFlags := 2, nameIndex := 5, descriptorIndex := 6, attributes := #[] }, { accessFlags := 9, nameIndex := 30, descriptorIndex := 31, attributes := #[] }] 49 2 #[] #[])
  fields := #[]
  methods := #[k1m0, k1m1]
  instanceTypes := #[]
  staticTypes := #[]
  resolved := Array.replicate 37 none
  statics := none }

def pool2 : Array CpInfo := pool [(1, .class_ 2), (0, u "java/lang/constant/Constable"), (0, .class_ 4), (0, u "java/lang/Object")] 6

/-- java/lang/constant/Constable -/
def k2 : Class := { plain "java/lang/constant/Constable" (some 0) with
  accessFlags := 1537
  interfaces := #[]
  cf := some (fileOf pool2 1 #[] #[] 1537 3 #[] #[])
  fields := #[]
  methods := #[]
  instanceTypes := #[]
  staticTypes := #[]
  resolved := Array.replicate 11 none
  statics := none }

def pool3 : Array CpInfo := pool [(1, .class_ 2), (0, u "java/lang/Comparable"), (0, .class_ 4), (0, u "java/lang/Object")] 7

/-- java/lang/Comparable -/
def k3 : Class := { plain "java/lang/Comparable" (some 0) with
  accessFlags := 1537
  interfaces := #[]
  cf := some (fileOf pool3 1 #[] #[] 1537 3 #[] #[])
  fields := #[]
  methods := #[]
  instanceTypes := #[]
  staticTypes := #[]
  resolved := Array.replicate 12 none
  statics := none }

def pool4 : Array CpInfo := pool [(1, .class_ 2), (0, u "java/io/Serializable"), (0, .class_ 4), (0, u "java/lang/Object")] 2

/-- java/io/Serializable -/
def k4 : Class := { plain "java/io/Serializable" (some 0) with
  accessFlags := 1537
  interfaces := #[]
  cf := some (fileOf pool4 1 #[] #[] 1537 3 #[] #[])
  fields := #[]
  methods := #[]
  instanceTypes := #[]
  staticTypes := #[]
  resolved := Array.replicate 7 none
  statics := none }

def pool5 : Array CpInfo := pool [(2, .class_ 4), (1, u "java/lang/Enum"), (0, u "name"), (0, u "Ljava/lang/String;"), (0, .fieldref 2 8), (0, .nameAndType 9 10), (0, u "ordinal"), (0, u "I"), (1, .class_ 14), (1, u "java/lang/Object"), (4, u "hash"), (86, .class_ 108), (1, u "java/lang/Enum$EnumDesc"), (2, .class_ 112), (0, u "java/lang/constant/Constable"), (0, .class_ 114), (0, u "java/lang/Comparable"), (0, .class_ 116), (0, u "java/io/Serializable"), (9, u "()I")] 77

def k5c0 : Code := { maxStack := 1, maxLocals := 1, code := jdk_37_method_2_code, exceptionTable := #[], attributes := #[] }
def k5m0 : Method := { name := "ordinal", desc := "()I", sig := { parameters := [], returnType := some .int }, accessFlags := 17, code := some k5c0 }
/-- java/lang/Enum -/
def k5 : Class := { plain "java/lang/Enum" (some 0) with
  accessFlags := 1057
  interfaces := #[2, 3, 4]
  cf := some (fileOf pool5 2 #[.nestMembers #[106]] #[{ accessFlags := 17, nameIndex := 9, descriptorIndex := 126, attributes := #[] }] 1057 12 #[111, 113, 115] #[{ accessFlags := 18, nameIndex := 5, descriptorIndex := 6, attributes := #[] }, { accessFlags := 18, nameIndex := 9, descriptorIndex := 10, attributes := #[] }, { accessFlags := 2, nameIndex := 19, descriptorIndex := 10, attributes := #[] }])
  fields := #[{ name := "name", type := (.object "java/lang/String"), accessFlags := 18, slot := 0, constantValue := 0 }, { name := "ordinal", type := .int, accessFlags := 18, slot := 1, constantValue := 0 }, { name := "hash", type := .int, accessFlags := 2, slot := 2, constantValue := 0 }]
  methods := #[k5m0]
  instanceTypes := #[(.object "java/lang/String"), .int, .int]
  staticTypes := #[]
  resolved := Array.replicate 204 none
  statics := none }

def pool6 : Array CpInfo := pool [(1, .class_ 2), (0, u "com/example/vestry/vestry/Labelled"), (0, .class_ 4), (0, u "java/lang/Object")] 4

/-- com/example/vestry/vestry/Labelled -/
def k6 : Class := { plain "com/example/vestry/vestry/Labelled" (some 0) with
  accessFlags := 1537
  interfaces := #[]
  cf := some (fileOf pool6 1 #[] #[] 1537 3 #[] #[])
  fields := #[]
  methods := #[]
  instanceTypes := #[]
  staticTypes := #[]
  resolved := Array.replicate 9 none
  statics := none }

def pool7 : Array CpInfo := pool [(1, .class_ 2), (0, u "com/example/vestry/vestry/vesting/BreakInService$Counting"), (2, u "AT_MOST"), (0, u "Lcom/example/vestry/vestry/vesting/BreakInService$Counting;"), (2, u "BELOW"), (2, u "$VALUES"), (0, u "[Lcom/example/vestry/vestry/vesting/BreakInService$Counting;"), (6, .class_ 22), (1, u "java/lang/Enum"), (8, u "label"), (0, u "Ljava/lang/String;"), (13, .class_ 47), (0, u "com/example/vestry/vestry/Labelled"), (14, .class_ 63), (0, u "com/example/vestry/vestry/vesting/BreakInService")] 2

/-- com/example/vestry/vestry/vesting/BreakInService$Counting -/
def k7 : Class := { plain "com/example/vestry/vestry/vesting/BreakInService$Counting" (some 5) with
  accessFlags := 16433
  interfaces := #[6]
  cf := some (fileOf pool7 1 #[.nestHost 62] #[] 16433 20 #[46] #[{ accessFlags := 16409, nameIndex := 5, descriptorIndex := 6, attributes := #[] }, { accessFlags := 16409, nameIndex := 9, descriptorIndex := 6, attributes := #[] }, { accessFlags := 18, nameIndex := 31, descriptorIndex := 32, attributes := #[] }, { accessFlags := 4122, nameIndex := 12, descriptorIndex := 13, attributes := #[] }])
  fields := #[{ name := "AT_MOST", type := (.object "com/example/vestry/vestry/vesting/BreakInService$Counting"), accessFlags := 16409, slot := 0, constantValue := 0 }, { name := "BELOW", type := (.object "com/example/vestry/vestry/vesting/BreakInService$Counting"), accessFlags := 16409, slot := 1, constantValue := 0 }, { name := "label", type := (.object "java/lang/String"), accessFlags := 18, slot := 3, constantValue := 0 }, { name := "$VALUES", type := (.array (.object "com/example/vestry/vestry/vesting/BreakInService$Counting")), accessFlags := 4122, slot := 2, constantValue := 0 }]
  methods := #[]
  instanceTypes := #[(.object "java/lang/String"), .int, .int, (.object "java/lang/String")]
  staticTypes := #[(.object "com/example/vestry/vestry/vesting/BreakInService$Counting"), (.object "com/example/vestry/vestry/vesting/BreakInService$Counting"), (.array (.object "com/example/vestry/vestry/vesting/BreakInService$Counting"))]
  resolved := Array.replicate 66 none
  statics := some 0 }

def pool8 : Array CpInfo := pool [(1, .methodref 2 3), (0, .class_ 4), (0, .nameAndType 5 6), (0, u "java/lang/Object"), (0, u "<init>"), (0, u "()V"), (0, .class_ 8), (0, u "java/lang/Record")] 13

def k8c0 : Code := { maxStack := 1, maxLocals := 1, code := jdk_30_method_1_code, exceptionTable := #[], attributes := #[] }
def k8m0 : Method := { name := "<init>", desc := "()V", sig := { parameters := [], returnType := none }, accessFlags := 4, code := some k8c0 }
/-- java/lang/Record -/
def k8 : Class := { plain "java/lang/Record" (some 0) with
  accessFlags := 1057
  interfaces := #[]
  cf := some (fileOf pool8 7 #[] #[{ accessFlags := 4, nameIndex := 5, descriptorIndex := 6, attributes := #[] }] 1057 2 #[] #[])
  fields := #[]
  methods := #[k8m0]
  instanceTypes := #[]
  staticTypes := #[]
  resolved := Array.replicate 22 none
  statics := none }

def pool9 : Array CpInfo := pool [(1, .methodref 2 3), (0, .class_ 4), (0, .nameAndType 5 6), (0, u "java/lang/Record"), (0, u "<init>"), (0, u "()V"), (0, .string 8), (0, u "counting"), (0, .methodref 10 11), (0, .class_ 12), (0, .nameAndType 13 14), (0, u "java/util/Objects"), (0, u "requireNonNull"), (0, u "(Ljava/lang/Object;Ljava/lang/String;)Ljava/lang/Object;"), (9, .fieldref 25 26), (0, .class_ 27), (0, .nameAndType 28 29), (0, u "com/example/vestry/vestry/vesting/BreakInService"), (0, u "hours"), (0, u "I"), (0, .fieldref 25 31), (0, .nameAndType 8 32), (0, u "Lcom/example/vestry/vestry/vesting/BreakInService$Counting;"), (0, .methodref 34 35), (0, .class_ 36), (0, .nameAndType 37 38), (0, u "com/example/vestry/vestry/vesting/BreakInService$Counting"), (0, u "ordinal"), (0, u "()I"), (17, u "(ILcom/example/vestry/vestry/vesting/BreakInService$Counting;)V"), (4, u "isBreak"), (0, u "(I)Z")] 34

def k9c0 : Code := { maxStack := 3, maxLocals := 3, code := prog_66_method_1_code, exceptionTable := #[], attributes := #[] }
def k9m0 : Method := { name := "<init>", desc := "(ILcom/example/vestry/vestry/vesting/BreakInService$Counting;)V", sig := { parameters := [.int, (.object "com/example/vestry/vestry/vesting/BreakInService$Counting")], returnType := none }, accessFlags := 1, code := some k9c0 }
def k9c1 : Code := { maxStack := 4, maxLocals := 2, code := prog_66_method_2_code, exceptionTable := #[], attributes := #[] }
def k9m1 : Method := { name := "isBreak", desc := "(I)Z", sig := { parameters := [.int], returnType := some .boolean }, accessFlags := 1, code := some k9c1 }
/-- com/example/vestry/vestry/vesting/BreakInService -/
def k9 : Class := { plain "com/example/vestry/vestry/vesting/BreakInService" (some 8) with
  accessFlags := 49
  interfaces := #[]
  cf := some (fileOf pool9 25 #[.nestMembers #[34]] #[{ accessFlags := 1, nameIndex := 5, descriptorIndex := 56, attributes := #[] }, { accessFlags := 1, nameIndex := 61, descriptorIndex := 62, attributes := #[] }] 49 2 #[] #[{ accessFlags := 18, nameIndex := 28, descriptorIndex := 29, attributes := #[] }, { accessFlags := 18, nameIndex := 8, descriptorIndex := 32, attributes := #[] }])
  fields := #[{ name := "hours", type := .int, accessFlags := 18, slot := 0, constantValue := 0 }, { name := "counting", type := (.object "com/example/vestry/vestry/vesting/BreakInService$Counting"), accessFlags := 18, slot := 1, constantValue := 0 }]
  methods := #[k9m0, k9m1]
  instanceTypes := #[.int, (.object "com/example/vestry/vestry/vesting/BreakInService$Counting")]
  staticTypes := #[]
  resolved := Array.replicate 97 none
  statics := none }

def pool10 : Array CpInfo := pool [(2, .class_ 4), (1, u "java/lang/CharSequence"), (42, .class_ 48), (0, u "java/lang/CharSequence$1CodePointIterator"), (10, .class_ 60), (0, u "java/lang/CharSequence$1CharIterator"), (5, .class_ 67), (0, u "java/lang/Object")] 63

/-- java/lang/CharSequence -/
def k10 : Class := { plain "java/lang/CharSequence" (some 0) with
  accessFlags := 1537
  interfaces := #[]
  cf := some (fileOf pool10 2 #[.nestMembers #[47, 59]] #[] 1537 66 #[] #[])
  fields := #[]
  methods := #[]
  instanceTypes := #[]
  staticTypes := #[]
  resolved := Array.replicate 131 none
  statics := none }

def pool11 : Array CpInfo := pool [(1, .class_ 2), (0, u "java/lang/constant/ConstantDesc"), (0, .class_ 4), (0, u "java/lang/Object")] 32

/-- java/lang/constant/ConstantDesc -/
def k11 : Class := { plain "java/lang/constant/ConstantDesc" (some 0) with
  accessFlags := 1537
  interfaces := #[]
  cf := some (fileOf pool11 1 #[] #[] 1537 3 #[] #[])
  fields := #[]
  methods := #[]
  instanceTypes := #[]
  staticTypes := #[]
  resolved := Array.replicate 37 none
  statics := none }

def pool12 : Array CpInfo := pool [(2, .class_ 4), (1, u "java/lang/Object"), (0, u "<init>"), (0, u "()V"), (3, .class_ 12), (1, u "java/lang/String"), (0, u "value"), (0, u "[B"), (2, u "coder"), (0, u "B"), (2, u "hash"), (0, u "I"), (2, u "hashIsZero"), (0, u "Z"), (13, u "COMPACT_STRINGS"), (534, .class_ 576), (0, u "java/lang/CharSequence"), (22, u "CASE_INSENSITIVE_ORDER"), (0, u "Ljava/util/Comparator;"), (500, u "serialPersistentFields"), (0, u "[Ljava/io/ObjectStreamField;"), (0, .class_ 1104), (0, u "java/lang/String$CaseInsensitiveComparator"), (1, .class_ 1107), (0, u "java/io/Serializable"), (0, .class_ 1109), (0, u "java/lang/Comparable"), (0, .class_ 1111), (0, u "java/lang/constant/Constable"), (0, .class_ 1113), (0, u "java/lang/constant/ConstantDesc"), (2, u "serialVersionUID"), (0, u "J"), (3, u "REPL"), (0, u "C"), (2, u "LATIN1"), (1, u "UTF16")] 323

def k12m0 : Method := { name := "<init>", desc := "()V", sig := { parameters := [], returnType := none }, accessFlags := 1, code := none }
/-- java/lang/String -/
def k12 : Class := { plain "java/lang/String" (some 0) with
  accessFlags := 49
  interfaces := #[4, 3, 10, 2, 11]
  cf := some (fileOf pool12 10 #[.nestMembers #[1103]] #[{ accessFlags := 1, nameIndex := 5, descriptorIndex := 6, attributes := #[] }] 49 2 #[1106, 1108, 575, 1110, 1112] #[{ accessFlags := 18, nameIndex := 13, descriptorIndex := 14, attributes := #[] }, { accessFlags := 18, nameIndex := 17, descriptorIndex := 18, attributes := #[] }, { accessFlags := 2, nameIndex := 21, descriptorIndex := 22, attributes := #[] }, { accessFlags := 2, nameIndex := 25, descriptorIndex := 26, attributes := #[] }, { accessFlags := 26, nameIndex := 1116, descriptorIndex := 1117, attributes := #[] }, { accessFlags := 24, nameIndex := 40, descriptorIndex := 26, attributes := #[] }, { accessFlags := 26, nameIndex := 1101, descriptorIndex := 1102, attributes := #[] }, { accessFlags := 26, nameIndex := 1121, descriptorIndex := 1122, attributes := #[] }, { accessFlags := 25, nameIndex := 599, descriptorIndex := 600, attributes := #[] }, { accessFlags := 24, nameIndex := 1125, descriptorIndex := 18, attributes := #[] }, { accessFlags := 24, nameIndex := 1127, descriptorIndex := 18, attributes := #[] }])
  fields := #[{ name := "value", type := (.array .byte), accessFlags := 18, slot := 0, constantValue := 0 }, { name := "coder", type := .byte, accessFlags := 18, slot := 1, constantValue := 0 }, { name := "hash", type := .int, accessFlags := 2, slot := 2, constantValue := 0 }, { name := "hashIsZero", type := .boolean, accessFlags := 2, slot := 3, constantValue := 0 }, { name := "serialVersionUID", type := .long, accessFlags := 26, slot := 0, constantValue := 0 }, { name := "COMPACT_STRINGS", type := .boolean, accessFlags := 24, slot := 1, constantValue := 0 }, { name := "serialPersistentFields", type := (.array (.object "java/io/ObjectStreamField")), accessFlags := 26, slot := 2, constantValue := 0 }, { name := "REPL", type := .char, accessFlags := 26, slot := 3, constantValue := 0 }, { name := "CASE_INSENSITIVE_ORDER", type := (.object "java/util/Comparator"), accessFlags := 25, slot := 4, constantValue := 0 }, { name := "LATIN1", type := .byte, accessFlags := 24, slot := 5, constantValue := 0 }, { name := "UTF16", type := .byte, accessFlags := 24, slot := 6, constantValue := 0 }]
  methods := #[k12m0]
  instanceTypes := #[(.array .byte), .byte, .int, .boolean]
  staticTypes := #[.long, .boolean, (.array (.object "java/io/ObjectStreamField")), .char, (.object "java/util/Comparator"), .byte, .byte]
  resolved := Array.replicate 1451 none
  statics := none }

def pool13 : Array CpInfo := pool [(2, .class_ 4), (1, u "java/lang/Object"), (0, u "<init>"), (0, u "()V"), (35, .class_ 44), (1, u "java/util/Objects"), (0, u "requireNonNull"), (48, u "(Ljava/lang/Object;Ljava/lang/String;)Ljava/lang/Object;")] 89

def k13m0 : Method := { name := "<init>", desc := "()V", sig := { parameters := [], returnType := none }, accessFlags := 2, code := none }
def k13c1 : Code := { maxStack := 3, maxLocals := 2, code := jdk_31_method_11_code, exceptionTable := #[], attributes := #[] }
def k13m1 : Method := { name := "requireNonNull", desc := "(Ljava/lang/Object;Ljava/lang/String;)Ljava/lang/Object;", sig := { parameters := [(.object "java/lang/Object"), (.object "java/lang/String")], returnType := some (.object "java/lang/Object") }, accessFlags := 9, code := some k13c1 }
/-- java/util/Objects -/
def k13 : Class := { plain "java/util/Objects" (some 0) with
  accessFlags := 49
  interfaces := #[]
  cf := some (fileOf pool13 42 #[] #[{ accessFlags := 2, nameIndex := 5, descriptorIndex := 6, attributes := #[] }, { accessFlags := 9, nameIndex := 45, descriptorIndex := 94, attributes := #[] }] 49 2 #[] #[])
  fields := #[]
  methods := #[k13m0, k13m1]
  instanceTypes := #[]
  staticTypes := #[]
  resolved := Array.replicate 184 none
  statics := none }

def pool14 : Array CpInfo := pool [(1, u "java/lang/Cloneable"), (0, .class_ 1), (0, u "java/lang/Object"), (0, .class_ 3)] 3

/-- java/lang/Cloneable -/
def k14 : Class := { plain "java/lang/Cloneable" (some 0) with
  accessFlags := 1537
  interfaces := #[]
  cf := some (fileOf pool14 2 #[] #[] 1537 4 #[] #[])
  fields := #[]
  methods := #[]
  instanceTypes := #[]
  staticTypes := #[]
  resolved := Array.replicate 8 none
  statics := none }

/-- the primitive byte -/
def k15 : Class := { plain "byte" none with kind := .primitive 'B', accessFlags := 0x411 }
/-- [B -/
def k16 : Class := { plain "[B" (some 0) with kind := .array 15 .byte, interfaces := #[14, 4], accessFlags := 1041 }

/-- the primitive int -/
def k17 : Class := { plain "int" none with kind := .primitive 'I', accessFlags := 0x411 }
/-- [I -/
def k18 : Class := { plain "[I" (some 0) with kind := .array 17 .int, interfaces := #[14, 4], accessFlags := 1041 }

def heap : Heap := #[{ cls := 7, slots := #[.ref 2, .ref 1, .null], vm := .statics 7 },
  { cls := 7, slots := #[.null, .int 1, .int 0, .null], vm := .none },
  { cls := 7, slots := #[.null, .int 0, .int 0, .null], vm := .none }]
def classes : Array Class := #[k0, k1, k2, k3, k4, k5, k6, k7, k8, k9, k10, k11, k12, k13, k14, k15, k16, k17, k18]
def interned : List (Array UInt16 × Addr) := []
def slotsUsed : Nat := 11
def theMethod : MethodId := ⟨1, 1⟩
def args0 : Array Value := #[.int 5, .int 5, .int 5]
def aboutOver (below : List Frame) : State where
  vm := { classes := classes, interned := interned.toArray }
  heap := heap
  slotsUsed := slotsUsed
  threads := #[{ frames := .invoking theMethod args0 :: below }]
def below0 : List Frame := [.native { method := ⟨0, 0⟩, args := #[] }]
def about1 : State := aboutOver below0
def p0 : Program := .bare "" "" ""
def e0 : Env := launch0.env 0 0 0
theorem w_frames : about1.frames = Frame.invoking theMethod args0 :: below0 := rfl
set_option maxRecDepth 65536 in
theorem w_args : argsFit about1.vm theMethod args0 = true := by decide +kernel
set_option maxRecDepth 65536 in
theorem w_heap : heapFits about1 = true := by decide +kernel
set_option maxRecDepth 65536 in
theorem w_runnable : about1.curStatus? = some .runnable := by decide +kernel
set_option maxRecDepth 65536 in
theorem w_alone : about1.alone = true := by decide +kernel
set_option maxRecDepth 65536 in
theorem w_named : about1.methodNamed? x = some theMethod := by decide +kernel
set_option maxRecDepth 65536 in
theorem w_hears : about1.hears theMethod below0 = true := by decide +kernel
set_option maxRecDepth 65536 in
theorem w_ripe : about1.ripe theMethod args0 below0 = true := by decide +kernel
theorem w_running : about1.status = .running := rfl
set_option maxRecDepth 65536 in
theorem w_room : about1.hasRoom e0.platform room_1 = true :=
  launch0.hasRoom_least _ room_1 (by decide +kernel) (by decide +kernel) (by decide +kernel) (by decide +kernel) (by decide +kernel) (by decide +kernel)
theorem allAtoms_all (ts : List Jvm.Cond) (a : Array Jvm.Value) (st : Jvm.State) : (allAtoms ts).before a st = ts.all (fun c => c.before a st) := by
  induction ts with
  | nil => rfl
  | cons c t ih =>
    show (Jvm.Cond.and c (allAtoms t)).before a st = _
    rw [Jvm.Cond.before_and, ih, List.all_cons]
def words1 : List Jvm.Cond := Jvm.Cond.code x code maxLocals ret :: tables_1
/-- a 'code' word, met by the world's own term for the bytes: nothing is compared byte by byte -/
theorem code_word {y : MethodName} {bytes : ByteArray} {mx : Nat} {rt : Option FieldType} {a : Array Value} {s : State} {m : MethodId} {meth : Method} {c : Code} (h1 : s.methodNamed? y = some m) (h2 : s.vm.method? m = some meth) (h3 : meth.code = some c) (h4 : c.code = bytes)
    (h5 : (c.maxLocals == mx && c.exceptionTable.isEmpty && decide (c.maxStack ≤ mostOperands) && decide (meth.sig.returnType = rt) && !meth.locks && decide (parseMethodDescriptor y.desc = some meth.sig)) = true) : (Jvm.Cond.code y bytes mx rt).before a s = true := by
  simp only [Bool.and_eq_true, beq_iff_eq, Bool.not_eq_true', decide_eq_true_eq] at h5
  obtain ⟨⟨⟨⟨⟨g1, g2⟩, g3⟩, g4⟩, g5⟩, g6⟩ := h5
  simp [Cond.before, Cond.holds, Cond.value, h1, h2, h3, h4, g1, g2, g3, g4, g5, g6]
def isCode : Jvm.Cond → Bool
  | .code _ _ _ _ => true
  | _ => false
theorem all_split {L : List Jvm.Cond} {P : Jvm.Cond → Bool} (h1 : L.all (fun c => isCode c || P c) = true) (h2 : ∀ c ∈ L.filter isCode, P c = true) : L.all P = true := by
  refine List.all_eq_true.mpr fun c hc => ?_
  have h := List.all_eq_true.mp h1 c hc
  rcases Bool.eq_false_or_eq_true (isCode c) with hi | hi
  · exact h2 c (List.mem_filter.mpr ⟨hc, hi⟩)
  · simpa [hi] using h
set_option maxRecDepth 65536 in
theorem w_c0 : (Jvm.Cond.code x code maxLocals ret).before args0 about1 = true := code_word (m := ⟨1, 1⟩) (meth := k1m1) (c := k1c1) (by decide +kernel) rfl rfl rfl (by decide +kernel)
set_option maxRecDepth 65536 in
theorem w_c1 : (Jvm.Cond.code ({ cls := "com/example/vestry/vestry/vesting/BreakInService", name := "<init>", desc := "(ILcom/example/vestry/vestry/vesting/BreakInService$Counting;)V" } : Jvm.MethodName) prog_66_method_1_code (3 : Nat) (Option.none : Option Jvm.ClassFile.FieldType)).before args0 about1 = true := code_word (m := ⟨9, 0⟩) (meth := k9m0) (c := k9c0) (by decide +kernel) rfl rfl rfl (by decide +kernel)
set_option maxRecDepth 65536 in
theorem w_c2 : (Jvm.Cond.code ({ cls := "java/lang/Record", name := "<init>", desc := "()V" } : Jvm.MethodName) jdk_30_method_1_code (1 : Nat) (Option.none : Option Jvm.ClassFile.FieldType)).before args0 about1 = true := code_word (m := ⟨8, 0⟩) (meth := k8m0) (c := k8c0) (by decide +kernel) rfl rfl rfl (by decide +kernel)
set_option maxRecDepth 65536 in
theorem w_c3 : (Jvm.Cond.code ({ cls := "java/lang/Object", name := "<init>", desc := "()V" } : Jvm.MethodName) object_method_1_code (1 : Nat) (Option.none : Option Jvm.ClassFile.FieldType)).before args0 about1 = true := code_word (m := ⟨0, 0⟩) (meth := k0m0) (c := k0c0) (by decide +kernel) rfl rfl rfl (by decide +kernel)
set_option maxRecDepth 65536 in
theorem w_c4 : (Jvm.Cond.code ({ cls := "java/util/Objects", name := "requireNonNull", desc := "(Ljava/lang/Object;Ljava/lang/String;)Ljava/lang/Object;" } : Jvm.MethodName) jdk_31_method_11_code (2 : Nat) (Option.some (Jvm.ClassFile.FieldType.object "java/lang/Object"))).before args0 about1 = true := code_word (m := ⟨13, 1⟩) (meth := k13m1) (c := k13c1) (by decide +kernel) rfl rfl rfl (by decide +kernel)
set_option maxRecDepth 65536 in
theorem w_c5 : (Jvm.Cond.code ({ cls := "com/example/vestry/vestry/vesting/BreakInService", name := "isBreak", desc := "(I)Z" } : Jvm.MethodName) prog_66_method_2_code (2 : Nat) (Option.some Jvm.ClassFile.FieldType.boolean)).before args0 about1 = true := code_word (m := ⟨9, 1⟩) (meth := k9m1) (c := k9c1) (by decide +kernel) rfl rfl rfl (by decide +kernel)
set_option maxRecDepth 65536 in
theorem w_c6 : (Jvm.Cond.code ({ cls := "java/lang/Enum", name := "ordinal", desc := "()I" } : Jvm.MethodName) jdk_37_method_2_code (1 : Nat) (Option.some Jvm.ClassFile.FieldType.int)).before args0 about1 = true := code_word (m := ⟨5, 0⟩) (meth := k5m0) (c := k5c0) (by decide +kernel) rfl rfl rfl (by decide +kernel)
def codes1 : List Jvm.Cond := [Jvm.Cond.code x code maxLocals ret, Jvm.Cond.code ({ cls := "com/example/vestry/vestry/vesting/BreakInService", name := "<init>", desc := "(ILcom/example/vestry/vestry/vesting/BreakInService$Counting;)V" } : Jvm.MethodName) prog_66_method_1_code (3 : Nat) (Option.none : Option Jvm.ClassFile.FieldType), Jvm.Cond.code ({ cls := "java/lang/Record", name := "<init>", desc := "()V" } : Jvm.MethodName) jdk_30_method_1_code (1 : Nat) (Option.none : Option Jvm.ClassFile.FieldType), Jvm.Cond.code ({ cls := "java/lang/Object", name := "<init>", desc := "()V" } : Jvm.MethodName) object_method_1_code (1 : Nat) (Option.none : Option Jvm.ClassFile.FieldType), Jvm.Cond.code ({ cls := "java/util/Objects", name := "requireNonNull", desc := "(Ljava/lang/Object;Ljava/lang/String;)Ljava/lang/Object;" } : Jvm.MethodName) jdk_31_method_11_code (2 : Nat) (Option.some (Jvm.ClassFile.FieldType.object "java/lang/Object")), Jvm.Cond.code ({ cls := "com/example/vestry/vestry/vesting/BreakInService", name := "isBreak", desc := "(I)Z" } : Jvm.MethodName) prog_66_method_2_code (2 : Nat) (Option.some Jvm.ClassFile.FieldType.boolean), Jvm.Cond.code ({ cls := "java/lang/Enum", name := "ordinal", desc := "()I" } : Jvm.MethodName) jdk_37_method_2_code (1 : Nat) (Option.some Jvm.ClassFile.FieldType.int)]
set_option maxRecDepth 65536 in
theorem codes_eq : words1.filter isCode = codes1 := rfl
theorem w_codes : ∀ c ∈ words1.filter isCode, c.before args0 about1 = true := by
  rw [codes_eq]
  intro c hc
  simp only [codes1, List.mem_cons, List.not_mem_nil, or_false] at hc
  rcases hc with rfl | rfl | rfl | rfl | rfl | rfl | rfl
  · exact w_c0
  · exact w_c1
  · exact w_c2
  · exact w_c3
  · exact w_c4
  · exact w_c5
  · exact w_c6
set_option maxRecDepth 65536 in
theorem w_t1 : (words1.take 24).all (fun c => isCode c || c.before args0 about1) = true := by decide +kernel
set_option maxRecDepth 65536 in
theorem w_t2 : ((words1.drop 24).take 24).all (fun c => isCode c || c.before args0 about1) = true := by decide +kernel
set_option maxRecDepth 65536 in
theorem w_t3 : ((words1.drop 24).drop 24).all (fun c => isCode c || c.before args0 about1) = true := by decide +kernel
theorem w_tables : (allAtoms (Jvm.Cond.code x code maxLocals ret :: tables_1)).before args0 about1 = true := by
  rw [allAtoms_all]
  show words1.all (fun c => c.before args0 about1) = true
  refine all_split ?_ w_codes
  rw [← List.take_append_drop 24 words1, List.all_append, w_t1, ← List.take_append_drop 24 (words1.drop 24), List.all_append, w_t2, w_t3]
  rfl
set_option maxRecDepth 65536 in
theorem w_case : (Jvm.Cond.and given_1 narrow_1).before args0 about1 = true := by decide +kernel
theorem w_applies : (headSpec (Jvm.Cond.code x code maxLocals ret :: tables_1) room_1).applies x e0.platform about1 = true :=
  (Spec.applies_iff w_frames).mpr ⟨w_running, w_runnable, w_alone, w_named, w_hears, w_ripe, w_room, w_tables⟩
theorem atStart : AtStart classFile x code maxLocals ret World_1 tables_1 room_1 Calls_1 rest_1 Pre_1 launch0 p0 e0 about1 theMethod args0 below0 :=
  ⟨lists_1, trivial, launch0.admits_env _ _ _, launch0.least_env, fairChoices_fair.cas, fairChoices_fair.clock, w_frames, w_args, w_heap, w_applies, trivial, trivial, w_case⟩
end start1
theorem witness_1 : WitnessClaimed_1 := ⟨start1.p0, start1.e0, start1.about1, start1.theMethod, start1.args0, start1.below0, start1.atStart⟩
end Jvm.Pilot.@@N@@
