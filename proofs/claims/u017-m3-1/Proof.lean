import JvmDerived
import JvmDerived.Pilot.@@N@@Statement
import JvmDerived.Pilot.@@N@@Code
set_option linter.unusedVariables false
set_option linter.unusedSimpArgs false
namespace Jvm.Pilot.@@N@@
open Jvm Jvm.ClassFile Sem Op Lib Jvm.Free Jvm.Stand Jvm.LawKit Jvm.RoadKit Bundle Jvm.Pilot.@@N@@.Jvm.D
abbrev jv (x : Int64) : Slot := .val (.long x)
theorem ow {Z : State} {a0 : Array Value} (hw : ∀ d ∈ tables_1, d.before a0 Z = true) (i : Nat) {d : Jvm.Cond} (h : tables_1[i]? = some d) : d.before a0 Z = true := hw _ (List.mem_of_getElem? h)
section OwnKit
variable {p : Program} {l : Launch} {e : Env} {R : Room} {s : State} {m : MethodId} {args : Array Value} {below : List Frame} {meth : Method} {c : Code} {T T' : State} {locs : List Loc} {cells slots kc ks : Nat} {Q : Option Value → Heap → List Loc → Prop} {g g' : JFrame}
/-- from this state and frame on the body ends, and Q holds of what it returns, of the heap and of the places written -/
def OwnG (p : Program) (e : Env) (below : List Frame) (s : State) (kc ks : Nat) (Q : Option Value → Heap → List Loc → Prop) (T : State) (g : JFrame) : Prop :=
  ∃ s₂ o, Steps p.tables e below (T.setTop g) s₂ ∧ s₂.status = .running ∧ Ended s₂ below o ∧ ∃ v L, o = .returned v ∧ Q v s₂.heap L ∧ FrameEnd s o s₂ L kc ks
theorem own_by (k : ∀ t, Steps p.tables e below (T'.setTop g') t → Steps p.tables e below (T.setTop g) t) (h : OwnG p e below s kc ks Q T' g') : OwnG p e below s kc ks Q T g := by
  obtain ⟨s₂, o, st, r⟩ := h
  exact ⟨s₂, o, k _ st, r⟩
theorem own_out (X : Stand p l e R s m args below meth c T locs cells slots) (hlk : meth.locks = false) {v : Option Value} (hv : meth.sig.returnType = none → v = none)
    (hst : ∀ fs, (∀ (f : JFrame) (acts : List Action), f.method = m → f.locked = none → f.entered = [] → (doReturn e (T.setTop f) acts v).1 = T.setFrames fs) → Steps p.tables e below (T.setTop g) (T.setFrames fs))
    (hq : Q v T.heap locs) (hc : cells ≤ kc) (hs : slots ≤ ks) : OwnG p e below s kc ks Q T g := by
  obtain ⟨fs, hr, hrun, hended, hW, hsame⟩ := X.leave (v := v) hv hlk
  exact ⟨_, _, hst fs hr, hrun, hended, v, locs, rfl, hq, ⟨_, rfl⟩, hW, hsame.mono hc hs⟩
def OwnGW (p : Program) (e : Env) (below : List Frame) (s : State) (kc ks : Nat) (Q : Option Value → Heap → List Loc → Prop) (T : State) (g : JFrame) : Prop :=
  ∃ s₂ o, Steps p.tables e below (T.setTop g) s₂ ∧ s₂.status = .running ∧ Ended s₂ below o ∧ ∃ v L, o = .returned v ∧ Q v s₂.heap L ∧ ReturnedEndW s o s₂ L kc ks
theorem own_byW (k : ∀ t, Steps p.tables e below (T'.setTop g') t → Steps p.tables e below (T.setTop g) t) (h : OwnGW p e below s kc ks Q T' g') : OwnGW p e below s kc ks Q T g := by
  obtain ⟨s₂, o, st, r⟩ := h
  exact ⟨s₂, o, k _ st, r⟩
theorem own_outW {vm : Vm} {k : Nat} (X : Stand p l e R (s.setVm vm) m args below meth c T locs cells slots) (hS : s.Since vm k) (hk : k ≤ T.heap.size) (hlk : meth.locks = false) {v : Option Value} (hv : meth.sig.returnType = none → v = none)
    (hst : ∀ fs, (∀ (f : JFrame) (acts : List Action), f.method = m → f.locked = none → f.entered = [] → (doReturn e (T.setTop f) acts v).1 = T.setFrames fs) → Steps p.tables e below (T.setTop g) (T.setFrames fs))
    (hq : Q v T.heap locs) (hc : cells ≤ kc) (hs : slots ≤ ks) : OwnGW p e below s kc ks Q T g := by
  obtain ⟨fs, hr, hrun, hended, h1, h2, h3, h4⟩ := X.leaveW hS hk (v := v) hv hlk
  exact ⟨_, _, hst fs hr, hrun, hended, v, locs, rfl, hq, h1, h2, h3, h4.mono hc hs⟩
def OwnGH (p : Program) (e : Env) (below : List Frame) (s Z : State) (EL : List (String × Nat)) (kc ks : Nat) (Q : Option Value → Heap → List Loc → Prop) (T : State) (g : JFrame) : Prop :=
  ∃ s₂ o, Steps p.tables e below (T.setTop g) s₂ ∧ s₂.status = .running ∧ Ended s₂ below o ∧ ∃ v L, o = .returned v ∧ Q v s₂.heap L ∧ CHr Z EL s.vm s.heap s₂.vm s₂.heap ∧ ReturnedEndW s o s₂ L kc ks
theorem own_byH {Z : State} {EL : List (String × Nat)} (k : ∀ t, Steps p.tables e below (T'.setTop g') t → Steps p.tables e below (T.setTop g) t) (h : OwnGH p e below s Z EL kc ks Q T' g') : OwnGH p e below s Z EL kc ks Q T g := by
  obtain ⟨s₂, o, st, r⟩ := h
  exact ⟨s₂, o, k _ st, r⟩
theorem own_outH {Z : State} {a0 : Array Value} {EL : List (String × Nat)} {h0 : Heap} {vm : Vm} {k : Nat} (X : Stand p l e R (s.setVm vm) m args below meth c T locs cells slots) (hh : s.heap = h0) (hEL : EW Z a0 EL) (hS : s.Since vm k) (hk : k ≤ T.heap.size) (HR : CHr Z EL s.vm h0 vm T.heap) (hZ : Z.Warmed39 vm) (hlk : meth.locks = false) {v : Option Value} (hv : meth.sig.returnType = none → v = none)
    (hst : ∀ fs, (∀ (f : JFrame) (acts : List Action), f.method = m → f.locked = none → f.entered = [] → (doReturn e (T.setTop f) acts v).1 = T.setFrames fs) → Steps p.tables e below (T.setTop g) (T.setFrames fs))
    (hq : Q v T.heap locs) (hc : cells ≤ kc) (hs : slots ≤ ks) : OwnGH p e below s Z EL kc ks Q T g := by
  obtain ⟨fs, hr, hrun, hended, h1, h2, h3, h4⟩ := X.leaveW hS hk (v := v) hv hlk
  have C := HR.trans (CHv.at X hZ hEL HR.1)
  exact ⟨_, _, hst fs hr, hrun, hended, v, locs, rfl, hq, (by rw [hh]; exact C), h1, h2, h3, h4.mono hc hs⟩
theorem own_lt (x y : Int64) : lcmpW x y < 0 ↔ x < y := by rw [lcW]; exact lc_lt x y
theorem own_gt (x y : Int64) : 0 < lcmpW x y ↔ y < x := by rw [lcW]; exact lc_gt x y
theorem own_eq (x y : Int64) : lcmpW x y = 0 ↔ x = y := by rw [lcW]; exact lc_eq x y
theorem own_fldI {Z : State} {a : Addr} {t : Jvm.Term} {C n d : String} {k : Int32} (ev : t.eval args Z none [] Z = some (.ref a)) (h : (Jvm.Cond.eq (Jvm.Term.field t C n d) (Jvm.Term.int k)).value args Z none Z [] = some true) : Fld Z Z.heap a C n d (.int k) := by
  obtain ⟨x, y, h1, h2, h3, h4⟩ := cmp_v (Or.inl h)
  cases (Term.int_eval k).symm.trans h2
  obtain ⟨z, rfl⟩ := h4
  rw [fld_at ev] at h1
  have h5 : (Jvm.Cond.eq (Jvm.Term.field t C n d) (Jvm.Term.int k)).value args Z none Z [] = some (decide (z = k)) := by simp [Jvm.Cond.value, fld_at ev, h1, Term.int_eval]
  cases gotT h5 h
  exact Fld.start h1
theorem own_fldJ {Z : State} {a : Addr} {t : Jvm.Term} {C n d : String} {k : Int64} (ev : t.eval args Z none [] Z = some (.ref a)) (h : (Jvm.Cond.eq (Jvm.Term.field t C n d) (Jvm.Term.long k)).value args Z none Z [] = some true) : Fld Z Z.heap a C n d (.long k) := by
  obtain ⟨x, y, h1, h2, h3, h4⟩ := cmp_v (Or.inl h)
  cases (long_at k).symm.trans h2
  obtain ⟨z, rfl⟩ := h4
  have h5 := gotT (eq_L h1 (long_at k)) h
  rw [fld_at ev] at h1
  cases h5
  exact Fld.start h1
theorem own_fldN {Z : State} {a : Addr} {t : Jvm.Term} {C n d : String} (ev : t.eval args Z none [] Z = some (.ref a)) (h : (Jvm.Cond.eq (Jvm.Term.field t C n d) Jvm.Term.null).value args Z none Z [] = some true) : Fld Z Z.heap a C n d .null := by
  have h1 := null_v h
  rw [fld_at ev] at h1
  exact Fld.start h1
theorem own_e0 {P : Prop} [Decidable P] (h : (if P then (1 : Int32) else (0 : Int32)) = 0) : ¬ P := fun q => by rw [if_pos q] at h; exact absurd h (by decide)
theorem own_e1 {P : Prop} [Decidable P] (h : ¬ (if P then (1 : Int32) else (0 : Int32)) = 0) : P := by
  by_cases q : P
  · exact q
  · exact absurd (if_neg q) h
theorem own_n2 {P Q : Prop} [Decidable P] [Decidable Q] {A : Int32} (h : ¬ (P ∧ Q)) : (if P then (if Q then A else (0 : Int32)) else (0 : Int32)) = 0 := by
  by_cases p : P
  · rw [if_pos p, if_neg (fun q => h ⟨p, q⟩)]
  · rw [if_neg p]
theorem own_narR {v : Value} {C : String} (h : v.isRef = true) : narrow (.object C) v = v := by rcases ref_cases h with rfl | ⟨_, rfl⟩ <;> rfl
theorem own_fitR {v : Value} {C : String} (h : v.isRef = true) : fits (.object C) v = true := by rcases ref_cases h with rfl | ⟨_, rfl⟩ <;> rfl
theorem own_len {Z : State} {t : Jvm.Term} {a : Addr} {cl : Cell} {ty : FieldType} {k : Int32} (et : t.eval args Z none [] Z = some (.ref a)) (A : Arr Z Z.heap a cl ty) (h : (Jvm.Term.length t).eval args Z none [] Z = some (.int k)) : cl.slots.size < 2 ^ 31 ∧ cl.slots.size.toInt32 = k := by
  have hA := A.fin (Vm.Alike.refl Z.vm)
  by_cases q : cl.slots.size < 2 ^ 31
  · rw [len_f et hA q] at h; exact ⟨q, by simpa using h⟩
  · simp [Jvm.Term.eval, et, hA] at h; exact absurd h.1 q
theorem own_mvM {Z : State} {a0 : Array Value} {own host : String} {index : Nat} {y : MethodName} (hZ : Z.Warmed39 s.vm) (w : (Jvm.Cond.methodLinkNest own index y host).before a0 Z = true) : (Jvm.Cond.methodLinkNest own index y host).before args s = true := (Cond.methodLinkNest_wide hZ w :)
end OwnKit
theorem d1_0 : decode jdk_35_method_24_code 0 = .ok (.sipush 128, 3) := by decide +kernel
theorem d1_3 : decode jdk_35_method_24_code 3 = .ok (.istore_n 2, 1) := by decide +kernel
theorem d1_4 : decode jdk_35_method_24_code 4 = .ok (.lload_n 0, 1) := by decide +kernel
theorem d1_5 : decode jdk_35_method_24_code 5 = .ok (.ldc2_w 230, 3) := by decide +kernel
theorem d1_8 : decode jdk_35_method_24_code 8 = .ok (.lcmp, 1) := by decide +kernel
theorem d1_9 : decode jdk_35_method_24_code 9 = .ok (.ifCond .lt 22, 3) := by decide +kernel
theorem d1_12 : decode jdk_35_method_24_code 12 = .ok (.lload_n 0, 1) := by decide +kernel
theorem d1_13 : decode jdk_35_method_24_code 13 = .ok (.ldc2_w 232, 3) := by decide +kernel
theorem d1_16 : decode jdk_35_method_24_code 16 = .ok (.lcmp, 1) := by decide +kernel
theorem d1_17 : decode jdk_35_method_24_code 17 = .ok (.ifCond .gt 14, 3) := by decide +kernel
theorem d1_20 : decode jdk_35_method_24_code 20 = .ok (.getstatic 234, 3) := by decide +kernel
theorem d1_23 : decode jdk_35_method_24_code 23 = .ok (.lload_n 0, 1) := by decide +kernel
theorem d1_24 : decode jdk_35_method_24_code 24 = .ok (.l2i, 1) := by decide +kernel
theorem d1_25 : decode jdk_35_method_24_code 25 = .ok (.sipush 128, 3) := by decide +kernel
theorem d1_28 : decode jdk_35_method_24_code 28 = .ok (.iadd, 1) := by decide +kernel
theorem d1_29 : decode jdk_35_method_24_code 29 = .ok (.aaload, 1) := by decide +kernel
theorem d1_30 : decode jdk_35_method_24_code 30 = .ok (.areturn, 1) := by decide +kernel
theorem d1_31 : decode jdk_35_method_24_code 31 = .ok (.new 1, 3) := by decide +kernel
theorem d1_34 : decode jdk_35_method_24_code 34 = .ok (.dup, 1) := by decide +kernel
theorem d1_35 : decode jdk_35_method_24_code 35 = .ok (.lload_n 0, 1) := by decide +kernel
theorem d1_36 : decode jdk_35_method_24_code 36 = .ok (.invokespecial 240, 3) := by decide +kernel
theorem d1_39 : decode jdk_35_method_24_code 39 = .ok (.areturn, 1) := by decide +kernel
theorem d2_0 : decode jdk_35_method_26_code 0 = .ok (.aload_n 0, 1) := by decide +kernel
theorem d2_1 : decode jdk_35_method_26_code 1 = .ok (.invokespecial 270, 3) := by decide +kernel
theorem d2_4 : decode jdk_35_method_26_code 4 = .ok (.aload_n 0, 1) := by decide +kernel
theorem d2_5 : decode jdk_35_method_26_code 5 = .ok (.lload_n 1, 1) := by decide +kernel
theorem d2_6 : decode jdk_35_method_26_code 6 = .ok (.putfield 273, 3) := by decide +kernel
theorem d2_9 : decode jdk_35_method_26_code 9 = .ok (.return_, 1) := by decide +kernel
theorem d3_0 : decode jdk_18_method_1_code 0 = .ok (.aload_n 0, 1) := by decide +kernel
theorem d3_1 : decode jdk_18_method_1_code 1 = .ok (.invokespecial 1, 3) := by decide +kernel
theorem d3_4 : decode jdk_18_method_1_code 4 = .ok (.return_, 1) := by decide +kernel
theorem d5_0 : decode prog_7_method_1_code 0 = .ok (.aload_n 0, 1) := by decide +kernel
theorem d5_1 : decode prog_7_method_1_code 1 = .ok (.invokespecial 1, 3) := by decide +kernel
theorem d5_4 : decode prog_7_method_1_code 4 = .ok (.aload_n 0, 1) := by decide +kernel
theorem d5_5 : decode prog_7_method_1_code 5 = .ok (.aload_n 1, 1) := by decide +kernel
theorem d5_6 : decode prog_7_method_1_code 6 = .ok (.ifnonnull 7, 3) := by decide +kernel
theorem d5_9 : decode prog_7_method_1_code 9 = .ok (.aconst_null, 1) := by decide +kernel
theorem d5_10 : decode prog_7_method_1_code 10 = .ok (.goto 7, 3) := by decide +kernel
theorem d5_17 : decode prog_7_method_1_code 17 = .ok (.putfield 13, 3) := by decide +kernel
theorem d5_20 : decode prog_7_method_1_code 20 = .ok (.aload_n 0, 1) := by decide +kernel
theorem d5_21 : decode prog_7_method_1_code 21 = .ok (.aload_n 2, 1) := by decide +kernel
theorem d5_22 : decode prog_7_method_1_code 22 = .ok (.putfield 19, 3) := by decide +kernel
theorem d5_25 : decode prog_7_method_1_code 25 = .ok (.aload_n 0, 1) := by decide +kernel
theorem d5_26 : decode prog_7_method_1_code 26 = .ok (.aload_n 3, 1) := by decide +kernel
theorem d5_27 : decode prog_7_method_1_code 27 = .ok (.putfield 23, 3) := by decide +kernel
theorem d5_30 : decode prog_7_method_1_code 30 = .ok (.aload_n 0, 1) := by decide +kernel
theorem d5_31 : decode prog_7_method_1_code 31 = .ok (.aload 4, 2) := by decide +kernel
theorem d5_33 : decode prog_7_method_1_code 33 = .ok (.putfield 27, 3) := by decide +kernel
theorem d5_36 : decode prog_7_method_1_code 36 = .ok (.aload_n 0, 1) := by decide +kernel
theorem d5_37 : decode prog_7_method_1_code 37 = .ok (.aload 5, 2) := by decide +kernel
theorem d5_39 : decode prog_7_method_1_code 39 = .ok (.ifnonnull 9, 3) := by decide +kernel
theorem d5_42 : decode prog_7_method_1_code 42 = .ok (.ldc2_w 30, 3) := by decide +kernel
theorem d5_45 : decode prog_7_method_1_code 45 = .ok (.goto 8, 3) := by decide +kernel
theorem d5_48 : decode prog_7_method_1_code 48 = .ok (.aload 5, 2) := by decide +kernel
theorem d5_50 : decode prog_7_method_1_code 50 = .ok (.invokevirtual 32, 3) := by decide +kernel
theorem d5_53 : decode prog_7_method_1_code 53 = .ok (.putfield 38, 3) := by decide +kernel
theorem d5_56 : decode prog_7_method_1_code 56 = .ok (.aload_n 0, 1) := by decide +kernel
theorem d5_57 : decode prog_7_method_1_code 57 = .ok (.aload 6, 2) := by decide +kernel
theorem d5_59 : decode prog_7_method_1_code 59 = .ok (.putfield 42, 3) := by decide +kernel
theorem d5_62 : decode prog_7_method_1_code 62 = .ok (.return_, 1) := by decide +kernel
theorem d6_0 : decode jdk_35_method_31_code 0 = .ok (.aload_n 0, 1) := by decide +kernel
theorem d6_1 : decode jdk_35_method_31_code 1 = .ok (.getfield 273, 3) := by decide +kernel
theorem d6_4 : decode jdk_35_method_31_code 4 = .ok (.lreturn, 1) := by decide +kernel
theorem d7_0 : decode prog_7_method_9_code 0 = .ok (.aload_n 0, 1) := by decide +kernel
theorem d7_1 : decode prog_7_method_9_code 1 = .ok (.getfield 42, 3) := by decide +kernel
theorem d7_4 : decode prog_7_method_9_code 4 = .ok (.ifnull 19, 3) := by decide +kernel
theorem d7_7 : decode prog_7_method_9_code 7 = .ok (.aload_n 0, 1) := by decide +kernel
theorem d7_8 : decode prog_7_method_9_code 8 = .ok (.getfield 42, 3) := by decide +kernel
theorem d7_11 : decode prog_7_method_9_code 11 = .ok (.invokevirtual 32, 3) := by decide +kernel
theorem d7_14 : decode prog_7_method_9_code 14 = .ok (.lconst 0, 1) := by decide +kernel
theorem d7_15 : decode prog_7_method_9_code 15 = .ok (.lcmp, 1) := by decide +kernel
theorem d7_16 : decode prog_7_method_9_code 16 = .ok (.ifCond .le 7, 3) := by decide +kernel
theorem d7_19 : decode prog_7_method_9_code 19 = .ok (.iconst 1, 1) := by decide +kernel
theorem d7_20 : decode prog_7_method_9_code 20 = .ok (.goto 4, 3) := by decide +kernel
theorem d7_23 : decode prog_7_method_9_code 23 = .ok (.iconst 0, 1) := by decide +kernel
theorem d7_24 : decode prog_7_method_9_code 24 = .ok (.ireturn, 1) := by decide +kernel
theorem pn_0 : plainName "java/lang/Number" = true := by first | (simp [plainName, overriddenIn]; done) | decide +kernel
theorem pn_1 : plainName "java/lang/Long" = true := by first | (simp [plainName, overriddenIn]; done) | decide +kernel
theorem pn_2 : plainName "com/example/equipe/equipe/JobSpec" = true := by first | (simp [plainName, overriddenIn]; done) | decide +kernel
theorem pn_3 : plainName "com/example/equipe/equipe/JobSpecIsDelayedPinLaw" = true := by first | (simp [plainName, overriddenIn]; done) | decide +kernel
theorem pd_0 : parseMethodDescriptor "()V" = some ⟨[], none⟩ := by decide +kernel
theorem pd_1 : parseMethodDescriptor "(J)V" = some ⟨[.long], none⟩ := by decide +kernel
theorem pd_2 : parseMethodDescriptor "()J" = some ⟨[], some .long⟩ := by decide +kernel
theorem pd_3 : parseMethodDescriptor "(Ljava/util/List;Ljava/lang/String;Ljava/lang/Long;Ljava/lang/Long;Ljava/lang/Long;Ljava/lang/Long;)V" = some ⟨[(.object "java/util/List"), (.object "java/lang/String"), (.object "java/lang/Long"), (.object "java/lang/Long"), (.object "java/lang/Long"), (.object "java/lang/Long")], none⟩ := by decide +kernel
theorem pd_4 : parseMethodDescriptor "()Z" = some ⟨[], some .boolean⟩ := by decide +kernel
theorem pd_5 : parseMethodDescriptor "(J)Ljava/lang/Long;" = some ⟨[.long], some (.object "java/lang/Long")⟩ := by decide +kernel
theorem ef_rm3 (m : MethodId) (x0 : Addr) : entryFrame m #[(.ref x0)] 1 = mkF m 0 #[.val (.ref x0)] [] := by first | (simp [entryFrame, mkF, argsToLocals, Value.category]; done) | rfl
theorem ef_rm2 (m : MethodId) (x0 : Addr) (x1 : Int64) : entryFrame m #[(.ref x0), (.long x1)] 3 = mkF m 0 #[.val (.ref x0), .val (.long x1), .second] [] := by first | (simp [entryFrame, mkF, argsToLocals, Value.category]; done) | rfl
theorem ef_rm1 (m : MethodId) (x0 : Int64) : entryFrame m #[(.long x0)] 3 = mkF m 0 #[.val (.long x0), .second, .unset] [] := by first | (simp [entryFrame, mkF, argsToLocals, Value.category]; done) | rfl
theorem ef_rm6 (m : MethodId) (x0 : Addr) : entryFrame m #[(.ref x0)] 1 = mkF m 0 #[.val (.ref x0)] [] := by first | (simp [entryFrame, mkF, argsToLocals, Value.category]; done) | rfl
theorem ef_rm5_00 (m : MethodId) (x0 : Addr) (x3 : Value) (x4 : Value) (hr3 : x3.isRef = true) (hr4 : x4.isRef = true) : entryFrame m #[(.ref x0), .null, .null, x3, x4, .null, .null] 7 = mkF m 0 #[.val (.ref x0), .val .null, .val .null, .val x3, .val x4, .val .null, .val .null] [] := by
  rcases ref_cases hr3 with rfl | ⟨_, rfl⟩ <;> rcases ref_cases hr4 with rfl | ⟨_, rfl⟩
  all_goals (first | (simp [entryFrame, mkF, argsToLocals, Value.category]; done) | rfl)
theorem ef_rm5_01 (m : MethodId) (x0 : Addr) (x3 : Value) (x4 : Value) (x6 : Addr) (hr3 : x3.isRef = true) (hr4 : x4.isRef = true) : entryFrame m #[(.ref x0), .null, .null, x3, x4, .null, (.ref x6)] 7 = mkF m 0 #[.val (.ref x0), .val .null, .val .null, .val x3, .val x4, .val .null, .val (.ref x6)] [] := by
  rcases ref_cases hr3 with rfl | ⟨_, rfl⟩ <;> rcases ref_cases hr4 with rfl | ⟨_, rfl⟩
  all_goals (first | (simp [entryFrame, mkF, argsToLocals, Value.category]; done) | rfl)
theorem ef_rm5_10 (m : MethodId) (x0 : Addr) (x3 : Value) (x4 : Value) (x5 : Addr) (hr3 : x3.isRef = true) (hr4 : x4.isRef = true) : entryFrame m #[(.ref x0), .null, .null, x3, x4, (.ref x5), .null] 7 = mkF m 0 #[.val (.ref x0), .val .null, .val .null, .val x3, .val x4, .val (.ref x5), .val .null] [] := by
  rcases ref_cases hr3 with rfl | ⟨_, rfl⟩ <;> rcases ref_cases hr4 with rfl | ⟨_, rfl⟩
  all_goals (first | (simp [entryFrame, mkF, argsToLocals, Value.category]; done) | rfl)
theorem ef_rm5_11 (m : MethodId) (x0 : Addr) (x3 : Value) (x4 : Value) (x5 : Addr) (x6 : Addr) (hr3 : x3.isRef = true) (hr4 : x4.isRef = true) : entryFrame m #[(.ref x0), .null, .null, x3, x4, (.ref x5), (.ref x6)] 7 = mkF m 0 #[.val (.ref x0), .val .null, .val .null, .val x3, .val x4, .val (.ref x5), .val (.ref x6)] [] := by
  rcases ref_cases hr3 with rfl | ⟨_, rfl⟩ <;> rcases ref_cases hr4 with rfl | ⟨_, rfl⟩
  all_goals (first | (simp [entryFrame, mkF, argsToLocals, Value.category]; done) | rfl)
theorem ef_rm7_0 (m : MethodId) (x0 : Addr) : entryFrame m #[(.ref x0)] 1 = mkF m 0 #[.val (.ref x0)] [] := by first | (simp [entryFrame, mkF, argsToLocals, Value.category]; done) | rfl
theorem ef_rm7_1 (m : MethodId) (x0 : Addr) : entryFrame m #[(.ref x0)] 1 = mkF m 0 #[.val (.ref x0)] [] := by first | (simp [entryFrame, mkF, argsToLocals, Value.category]; done) | rfl
theorem ef_rm0 (m : MethodId) (x0 : Int64) (x1 : Int32) (x2 : Int64) : entryFrame m #[(.long x0), (.int x1), (.long x2)] maxLocals = mkF m 0 #[.val (.long x0), .second, .val (.int x1), .val (.long x2), .second, .unset, .unset, .unset, .unset, .unset, .unset, .unset] [] := by first | (simp [entryFrame, mkF, argsToLocals, Value.category, maxLocals]; done) | rfl
theorem own_idx {j : Int32} (h : ¬ j < 0) : j.toNatClampNeg.toInt32 = j := by
  have a0 : (0 : Int32).toInt = 0 := rfl
  have h1 := Int32.toInt_lt j
  have h2 : j.toNatClampNeg = j.toInt.toNat := rfl
  rw [Int32.lt_iff_toInt_lt] at h
  apply Int32.toInt_inj.mp
  rw [len_toInt (by rw [h2]; omega), h2]
  omega
theorem own_cache {q : Int64} (h1 : ¬ q < (-128 : Int64)) (h2 : ¬ (127 : Int64) < q) : ¬ (q.toInt32 + (128 : Int32) < 0) ∧ (q.toInt32 + (128 : Int32)) < (256 : Int32) ∧ ((q.toInt32 + (128 : Int32)) - (128 : Int32)).toInt64 = q := by
  have a1 : (-128 : Int64).toInt = -128 := rfl
  have a2 : (127 : Int64).toInt = 127 := rfl
  rw [Int64.lt_iff_toInt_lt] at h1 h2
  have e0 : q.toInt32.toInt = q.toInt := by
    rw [Int64.toInt_toInt32]; exact Int.bmod_eq_of_le (by omega) (by omega)
  have a3 : (128 : Int32).toInt = 128 := rfl
  have e1 : (q.toInt32 + (128 : Int32)).toInt = q.toInt + 128 := by
    rw [Int32.toInt_add, e0, a3]; exact Int.bmod_eq_of_le (by omega) (by omega)
  have e2 : ((q.toInt32 + (128 : Int32)) - (128 : Int32)).toInt = q.toInt := by
    rw [Int32.toInt_sub, e1, a3, show q.toInt + 128 - 128 = q.toInt by omega]; exact Int.bmod_eq_of_le (by omega) (by omega)
  have a4 : (0 : Int32).toInt = 0 := rfl
  have a5 : (256 : Int32).toInt = 256 := rfl
  refine ⟨?_, ?_, ?_⟩
  · rw [Int32.lt_iff_toInt_lt, e1, a4]; omega
  · rw [Int32.lt_iff_toInt_lt, e1, a5]; omega
  · exact Int64.toInt_inj.mp (by rw [Int32.toInt_toInt64, e2])
theorem own_asymL {x y : Int64} (h : x < y) : ¬ y < x := by
  rw [Int64.lt_iff_toInt_lt] at h ⊢; omega
theorem own_triL {x y : Int64} (h : ¬ x < y) (h' : ¬ x = y) : y < x := by
  rw [Int64.lt_iff_toInt_lt] at h ⊢
  have : x.toInt ≠ y.toInt := fun e => h' (Int64.toInt_inj.mp e)
  omega
def Q_rm3 (Z : State) (a1 : Addr) (h0 : Heap) (n0 : Nat) : Option Value → Heap → List Loc → Prop := fun v h L => v = none ∧ L = [] ∧ h = h0
set_option maxRecDepth 65536 in
set_option maxHeartbeats 40000000 in
theorem rm3 (l : Launch) (Z : State) (a0 : Array Value) (hw : ∀ d ∈ tables_1, d.before a0 Z = true) (ws : List Jvm.Cond) (a1 : Addr) (h0 : Heap) (n0 : Nat) (O : Old Z n0 h0) :
    MetFree l (⟨"java/lang/Number", "<init>", "()V"⟩ : MethodName) (head1 (Jvm.Cond.code (⟨"java/lang/Number", "<init>", "()V"⟩ : MethodName) jdk_18_method_1_code 1 none :: ws) ({ frames := 1, cells := 0, slots := 0, locals := 12 } : Room)) (fun a U => a = #[(.ref a1)] ∧ Z.Warmed39 U.vm ∧ U.heap = h0) (fun _ _ _ _ _ => True) (fun _ U o U' => ∃ v L, o = .returned v ∧ (Q_rm3 Z a1 h0 n0) v U'.heap L ∧ FrameEnd U o U' L ({ frames := 1, cells := 0, slots := 0, locals := 12 } : Room).cells ({ frames := 1, cells := 0, slots := 0, locals := 12 } : Room).slots) := by
  refine MetFree.of_bodySF (plainFor_of_name pn_0) hisR ?_
  intro p e s m args below meth c s₁ Bd hml0 hP hK
  obtain ⟨rfl, hZ, hh⟩ := hP
  have hx := Bd.exec
  have hby := Bd.bytes
  have hml : c.maxLocals = 1 := hml0
  have hown : s.vm.findClass "java/lang/Number" = some m.cls := findClass_of_methodNamed Bd.named
  have hnm := (name_of_methodNamed Bd.named Bd.method).1
  have hlk := BodyLoose.notSynchronized Bd
  have X0 : Stand p l e ({ frames := 1, cells := 0, slots := 0, locals := 12 } : Room) s m #[(.ref a1)] below meth c s₁ [] 0 0 := Stand.of_body Bd
  have e0 : s₁.heap = h0 := by rw [← hh, Bd.state]; rfl
  have N := Fr.nil n0
  obtain ⟨G, hG⟩ : ∃ G : State → JFrame → Prop, G = OwnG p e below s ({ frames := 1, cells := 0, slots := 0, locals := 12 } : Room).cells ({ frames := 1, cells := 0, slots := 0, locals := 12 } : Room).slots (Q_rm3 Z a1 h0 n0) := ⟨_, rfl⟩
  have gb : ∀ {T T' : State} {g g' : JFrame}, (∀ t, Steps p.tables e below (T'.setTop g') t → Steps p.tables e below (T.setTop g) t) → G T' g' → G T g := by subst hG; exact fun k h => own_by k h
  have go : ∀ {T : State} {locs : List Loc} {cells slots : Nat} {g : JFrame} {v : Option Value}, Stand p l e ({ frames := 1, cells := 0, slots := 0, locals := 12 } : Room) s m #[(.ref a1)] below meth c T locs cells slots → (meth.sig.returnType = none → v = none) → (∀ fs, (∀ (f : JFrame) (acts : List Action), f.method = m → f.locked = none → f.entered = [] → (doReturn e (T.setTop f) acts v).1 = T.setFrames fs) → Steps p.tables e below (T.setTop g) (T.setFrames fs)) → (Q_rm3 Z a1 h0 n0) v T.heap locs → cells ≤ ({ frames := 1, cells := 0, slots := 0, locals := 12 } : Room).cells → slots ≤ ({ frames := 1, cells := 0, slots := 0, locals := 12 } : Room).slots → G T g := by subst hG; exact fun X h1 h2 h3 h4 h5 => own_out X hlk h1 h2 h3 h4 h5
  show OwnG p e below s ({ frames := 1, cells := 0, slots := 0, locals := 12 } : Room).cells ({ frames := 1, cells := 0, slots := 0, locals := 12 } : Room).slots (Q_rm3 Z a1 h0 n0) s₁ (entryFrame m #[(.ref a1)] 1)
  rw [← hG, ef_rm3 m a1]
  clear hG
  show G s₁ (mkF m 0 #[.val (.ref a1)] [])
  refine gb (fun _ k => XS.aloadN X0.here hx rfl (hb hby d3_0) rfl rfl k) ?_
  show G s₁ (mkF m 1 #[rv a1] [.ref a1])
  obtain ⟨T1, X1, e1, st1⟩ := initO X0 hx hZ hown (ow hw 17 rfl) (ow hw 18 rfl) (ow hw 19 rfl) e0 (g := (mkF m 1 #[rv a1] [.ref a1])) rfl (by rw [hml]; rfl) rfl (hb hby d3_1) (by decide) (W := 0) (by show 2 * 0 + _ ≤ _; exact Nat.le_of_eq rfl) (by decide)
  refine gb st1 ?_
  show G T1 (mkF m 4 #[rv a1] [])
  exact go X1 (v := none) (fun _ => rfl) (fun fs hr => X1.returnOut hx Bd.returns (hb hby d3_4) hr) (⟨rfl, rfl, e1⟩) (by decide) (by decide)
def Q_rm2 (Z : State) (a1 : Addr) (q1 : Int64) (h0 : Heap) (n0 : Nat) : Option Value → Heap → List Loc → Prop := fun v h L => v = none ∧ Fr n0 L ∧ Keep h0 h [a1] ∧ Exa Z h a1 "java/lang/Long" ∧ Fld Z h a1 "java/lang/Long" "value" "J" (.long q1)
set_option maxRecDepth 65536 in
set_option maxHeartbeats 40000000 in
theorem rm2 (l : Launch) (Z : State) (a0 : Array Value) (hw : ∀ d ∈ tables_1, d.before a0 Z = true) (ws : List Jvm.Cond) (a1 : Addr) (q1 : Int64) (h0 : Heap) (n0 : Nat) (O : Old Z n0 h0) (E_a1 : Exa Z h0 a1 "java/lang/Long") (F_value : Fld Z h0 a1 "java/lang/Long" "value" "J" (.long (0 : Int64))) (g_a1 : n0 ≤ a1) :
    MetFree l (⟨"java/lang/Long", "<init>", "(J)V"⟩ : MethodName) (head1 (Jvm.Cond.code (⟨"java/lang/Long", "<init>", "(J)V"⟩ : MethodName) jdk_35_method_26_code 3 none :: ws) ({ frames := 2, cells := 0, slots := 0, locals := 24 } : Room)) (fun a U => a = #[(.ref a1), (.long q1)] ∧ Z.Warmed39 U.vm ∧ U.heap = h0) (fun _ _ _ _ _ => True) (fun _ U o U' => ∃ v L, o = .returned v ∧ (Q_rm2 Z a1 q1 h0 n0) v U'.heap L ∧ FrameEnd U o U' L ({ frames := 2, cells := 0, slots := 0, locals := 24 } : Room).cells ({ frames := 2, cells := 0, slots := 0, locals := 24 } : Room).slots) := by
  refine MetFree.of_bodySF (plainFor_of_name pn_1) hisR ?_
  intro p e s m args below meth c s₁ Bd hml0 hP hK
  obtain ⟨rfl, hZ, hh⟩ := hP
  have hx := Bd.exec
  have hby := Bd.bytes
  have hml : c.maxLocals = 3 := hml0
  have hown : s.vm.findClass "java/lang/Long" = some m.cls := findClass_of_methodNamed Bd.named
  have hnm := (name_of_methodNamed Bd.named Bd.method).1
  have hlk := BodyLoose.notSynchronized Bd
  have X0 : Stand p l e ({ frames := 2, cells := 0, slots := 0, locals := 24 } : Room) s m #[(.ref a1), (.long q1)] below meth c s₁ [] 0 0 := Stand.of_body Bd
  have e0 : s₁.heap = h0 := by rw [← hh, Bd.state]; rfl
  have N := Fr.nil n0
  have K := Keep.refl h0 [a1]
  obtain ⟨G, hG⟩ : ∃ G : State → JFrame → Prop, G = OwnG p e below s ({ frames := 2, cells := 0, slots := 0, locals := 24 } : Room).cells ({ frames := 2, cells := 0, slots := 0, locals := 24 } : Room).slots (Q_rm2 Z a1 q1 h0 n0) := ⟨_, rfl⟩
  have gb : ∀ {T T' : State} {g g' : JFrame}, (∀ t, Steps p.tables e below (T'.setTop g') t → Steps p.tables e below (T.setTop g) t) → G T' g' → G T g := by subst hG; exact fun k h => own_by k h
  have go : ∀ {T : State} {locs : List Loc} {cells slots : Nat} {g : JFrame} {v : Option Value}, Stand p l e ({ frames := 2, cells := 0, slots := 0, locals := 24 } : Room) s m #[(.ref a1), (.long q1)] below meth c T locs cells slots → (meth.sig.returnType = none → v = none) → (∀ fs, (∀ (f : JFrame) (acts : List Action), f.method = m → f.locked = none → f.entered = [] → (doReturn e (T.setTop f) acts v).1 = T.setFrames fs) → Steps p.tables e below (T.setTop g) (T.setFrames fs)) → (Q_rm2 Z a1 q1 h0 n0) v T.heap locs → cells ≤ ({ frames := 2, cells := 0, slots := 0, locals := 24 } : Room).cells → slots ≤ ({ frames := 2, cells := 0, slots := 0, locals := 24 } : Room).slots → G T g := by subst hG; exact fun X h1 h2 h3 h4 h5 => own_out X hlk h1 h2 h3 h4 h5
  show OwnG p e below s ({ frames := 2, cells := 0, slots := 0, locals := 24 } : Room).cells ({ frames := 2, cells := 0, slots := 0, locals := 24 } : Room).slots (Q_rm2 Z a1 q1 h0 n0) s₁ (entryFrame m #[(.ref a1), (.long q1)] 3)
  rw [← hG, ef_rm2 m a1 q1]
  clear hG
  show G s₁ (mkF m 0 #[.val (.ref a1), .val (.long q1), .second] [])
  refine gb (fun _ k => XS.aloadN X0.here hx rfl (hb hby d2_0) rfl rfl k) ?_
  show G s₁ (mkF m 1 #[rv a1, jv q1, .second] [.ref a1])
  obtain ⟨_, _, ⟨T1, Lz1, kz1, nz1⟩, -, X1, ⟨Lc1, hQ1, lq1, yq1, zq1⟩, st1⟩ := X0.specialBack hx (y := (⟨"java/lang/Number", "<init>", "()V"⟩ : MethodName)) rfl hown (mvT hZ (ow hw 11 rfl)) (mvT hZ (ow hw 12 rfl)) (mvT hZ (ow hw 16 rfl)) (by decide) (backOf (W := 0) (rm3 l Z a0 hw [] a1 h0 n0 O) hZ (ow hw 16 rfl) (ow hw 15 rfl) (by decide) (by decide)) (g := (mkF m 1 #[rv a1, jv q1, .second] [.ref a1])) rfl (by rw [hml]; rfl) (Steps.refl _) (a := a1) (argsL := []) (rest := []) (lenOf pd_0 rfl) rfl (by show 2 * 0 + _ ≤ _; exact Nat.le_of_eq rfl) (hb hby d2_1) (fun _ _ => ⟨rfl, e0, (by decide : 0 + 0 ≤ _), (by decide : 0 + 0 ≤ _)⟩)
  dsimp only [Pt.U, Pt.locs, Pt.cells, Pt.slots] at X1 lq1 yq1 zq1 st1 hQ1
  subst lq1 yq1 zq1
  obtain ⟨rfl, rfl, e1⟩ := hQ1
  try rw [List.append_nil] at X1
  refine gb (fun _ k => st1.trans k) ?_
  show G T1 (mkF m 4 #[rv a1, jv q1, .second] [])
  refine gb (fun _ k => XS.aloadN X1.here hx rfl (hb hby d2_4) rfl rfl (XS.lloadN X1.here hx rfl (hb hby d2_5) rfl k)) ?_
  show G T1 (mkF m 6 #[rv a1, jv q1, .second] [.long q1, .ref a1])
  obtain ⟨T2, h2, X2, e2, W2, st2⟩ := putF X1 hx hZ hown (host := "") (Or.inl (ow hw 20 rfl)) Via.refl e1 F_value E_a1 (Or.inr ⟨(ow hw 21 rfl), rfl, hnm⟩) (ow hw 6 rfl) (ty := .long) (by decide) rfl rfl (g := (mkF m 6 #[rv a1, jv q1, .second] [.long q1, .ref a1])) rfl rfl (hb hby d2_6)
  refine gb st2 ?_
  have F_value := F_value.same W2
  have E_a1 := E_a1.wr W2
  have O := O.wr W2 g_a1
  have K := K.wr W2 (Or.inl (List.mem_of_getElem? (i := 0) rfl))
  have N := Fr.snoc X2 N g_a1
  show G T2 (mkF m 9 #[rv a1, jv q1, .second] [])
  exact go X2 (v := none) (fun _ => rfl) (fun fs hr => X2.returnOut hx Bd.returns (hb hby d2_9) hr) (by rw [e2]; exact ⟨rfl, N, K, E_a1, F_value⟩) (by decide) (by decide)
def Q_rm1 (Z : State) (q1 : Int64) (h0 : Heap) (n0 : Nat) (wc : Addr) : Option Value → Heap → List Loc → Prop := fun v h L => ∃ b : Addr, v = some (.ref b) ∧ Fr n0 L ∧ Keep h0 h [] ∧ Exa Z h b "java/lang/Long" ∧ Fld Z h b "java/lang/Long" "value" "J" (.long q1)
set_option maxRecDepth 65536 in
set_option maxHeartbeats 40000000 in
theorem rm1 (l : Launch) (Z : State) (a0 : Array Value) (hw : ∀ d ∈ tables_1, d.before a0 Z = true) (ws : List Jvm.Cond) (q1 : Int64) (h0 : Heap) (n0 : Nat) (O : Old Z n0 h0) (wc : Addr) (cc : Cell) (S_c : Sta Z Z.heap "java/lang/Long$LongCache" "cache" "[Ljava/lang/Long;" (.ref wc)) (BX : Bxs Z wc cc "java/lang/Long" "J" (256 : Int32) (fun j => .long (j - (128 : Int32)).toInt64)) :
    MetFree l (⟨"java/lang/Long", "valueOf", "(J)Ljava/lang/Long;"⟩ : MethodName) (head1 (Jvm.Cond.code (⟨"java/lang/Long", "valueOf", "(J)Ljava/lang/Long;"⟩ : MethodName) jdk_35_method_24_code 3 (some (.object "java/lang/Long")) :: ws) ({ frames := 3, cells := 1, slots := 1, locals := 39 } : Room)) (fun a U => a = #[(.long q1)] ∧ Z.Warmed39 U.vm ∧ U.heap = h0) (fun _ _ _ _ _ => True) (fun _ U o U' => ∃ v L, o = .returned v ∧ (Q_rm1 Z q1 h0 n0 wc) v U'.heap L ∧ FrameEnd U o U' L ({ frames := 3, cells := 1, slots := 1, locals := 39 } : Room).cells ({ frames := 3, cells := 1, slots := 1, locals := 39 } : Room).slots) := by
  refine MetFree.of_bodySF (plainFor_of_name pn_1) hisR ?_
  intro p e s m args below meth c s₁ Bd hml0 hP hK
  obtain ⟨rfl, hZ, hh⟩ := hP
  have hx := Bd.exec
  have hby := Bd.bytes
  have hml : c.maxLocals = 3 := hml0
  have hown : s.vm.findClass "java/lang/Long" = some m.cls := findClass_of_methodNamed Bd.named
  have hnm := (name_of_methodNamed Bd.named Bd.method).1
  have hlk := BodyLoose.notSynchronized Bd
  have X0 : Stand p l e ({ frames := 3, cells := 1, slots := 1, locals := 39 } : Room) s m #[(.long q1)] below meth c s₁ [] 0 0 := Stand.of_body Bd
  have e0 : s₁.heap = h0 := by rw [← hh, Bd.state]; rfl
  have N := Fr.nil n0
  have K := Keep.refl h0 []
  obtain ⟨G, hG⟩ : ∃ G : State → JFrame → Prop, G = OwnG p e below s ({ frames := 3, cells := 1, slots := 1, locals := 39 } : Room).cells ({ frames := 3, cells := 1, slots := 1, locals := 39 } : Room).slots (Q_rm1 Z q1 h0 n0 wc) := ⟨_, rfl⟩
  have gb : ∀ {T T' : State} {g g' : JFrame}, (∀ t, Steps p.tables e below (T'.setTop g') t → Steps p.tables e below (T.setTop g) t) → G T' g' → G T g := by subst hG; exact fun k h => own_by k h
  have go : ∀ {T : State} {locs : List Loc} {cells slots : Nat} {g : JFrame} {v : Option Value}, Stand p l e ({ frames := 3, cells := 1, slots := 1, locals := 39 } : Room) s m #[(.long q1)] below meth c T locs cells slots → (meth.sig.returnType = none → v = none) → (∀ fs, (∀ (f : JFrame) (acts : List Action), f.method = m → f.locked = none → f.entered = [] → (doReturn e (T.setTop f) acts v).1 = T.setFrames fs) → Steps p.tables e below (T.setTop g) (T.setFrames fs)) → (Q_rm1 Z q1 h0 n0 wc) v T.heap locs → cells ≤ ({ frames := 3, cells := 1, slots := 1, locals := 39 } : Room).cells → slots ≤ ({ frames := 3, cells := 1, slots := 1, locals := 39 } : Room).slots → G T g := by subst hG; exact fun X h1 h2 h3 h4 h5 => own_out X hlk h1 h2 h3 h4 h5
  show OwnG p e below s ({ frames := 3, cells := 1, slots := 1, locals := 39 } : Room).cells ({ frames := 3, cells := 1, slots := 1, locals := 39 } : Room).slots (Q_rm1 Z q1 h0 n0 wc) s₁ (entryFrame m #[(.long q1)] 3)
  rw [← hG, ef_rm1 m q1]
  clear hG
  show G s₁ (mkF m 0 #[.val (.long q1), .second, .unset] [])
  refine gb (fun _ k => XS.sipush X0.here hx rfl (hb hby d1_0) (XS.istoreN X0.here hx rfl (hb hby d1_3) rfl (l' := #[jv q1, .second, iv 128]) rfl (XS.lloadN X0.here hx rfl (hb hby d1_4) rfl k))) ?_
  show G s₁ (mkF m 5 #[jv q1, .second, iv 128] [.long q1])
  refine gb (X0.ldc2Long hx hown (mvT hZ (ow hw 4 rfl)) (g := (mkF m 5 #[jv q1, .second, iv 128] [.long q1])) rfl (hb hby d1_5)) ?_
  show G s₁ (mkF m 8 #[jv q1, .second, iv 128] [.long (-128), .long q1])
  refine gb (fun _ k => XS.lcmp X0.here hx rfl (hb hby d1_8) rfl k) ?_
  show G s₁ (mkF m 9 #[jv q1, .second, iv 128] [.int (lcmpW q1 (-128 : Int64))])
  by_cases hc9 : q1 < (-128 : Int64)
  · skip
    refine gb (fun _ k => XS.ifYes X0.here hx rfl (pc0 := 9) (pc' := 31) rfl (hb hby d1_9) rfl ((if0 _ _).trans (tlt ((own_lt _ _).mpr hc9)).1) (by decide) (by decide) k) ?_
    show G s₁ (mkF m 31 #[jv q1, .second, iv 128] [])
    obtain ⟨T1, h1, X1, e1, E1, A1, D1, U1, st1⟩ := newO X0 hx hZ hown (ow hw 5 rfl) (ow hw 6 rfl) (ow hw 2 rfl) e0 (g := (mkF m 31 #[jv q1, .second, iv 128] [])) rfl (hb hby d1_31) (by decide) (by decide)
    obtain ⟨b1, g1⟩ : ∃ z, z = h0.size := ⟨_, rfl⟩
    rw [← g1] at A1 D1 U1 st1
    have g_b1 : n0 ≤ b1 := Nat.le_trans (by have := O.2.1; rw [O.1] at this; exact this) (Nat.le_of_eq g1.symm)
    have sz_b1 : h0.size ≤ b1 := Nat.le_trans K.1 (Nat.le_of_eq g1.symm)
    have O := O.ext E1
    have K := K.ext E1
    have E_b1 := A1
    have F_value_b1 : Fld Z h1 b1 "java/lang/Long" "value" "J" (.long (0 : Int64)) := D1 (Or.inr (ow hw 21 rfl)) (ty := .long) (by decide)
    refine gb st1 ?_
    show G T1 (mkF m 34 #[jv q1, .second, iv 128] [.ref b1])
    refine gb (fun _ k => XS.dup X1.here hx rfl (hb hby d1_34) rfl rfl (XS.lloadN X1.here hx rfl (hb hby d1_35) rfl k)) ?_
    show G T1 (mkF m 36 #[jv q1, .second, iv 128] [.long q1, .ref b1, .ref b1])
    obtain ⟨_, _, ⟨T2, Lz2, kz2, nz2⟩, -, X2, ⟨Lc2, hQ2, lq2, yq2, zq2⟩, st2⟩ := X1.specialBack hx (y := (⟨"java/lang/Long", "<init>", "(J)V"⟩ : MethodName)) rfl hown (mvT hZ (ow hw 7 rfl)) (mvT hZ (ow hw 8 rfl)) (mvT hZ (ow hw 10 rfl)) (by decide) (backOf (W := 1) (rm2 l Z a0 hw [] b1 q1 h1 n0 O E_b1 F_value_b1 g_b1) hZ (ow hw 10 rfl) (ow hw 2 rfl) (by decide) (by decide)) (g := (mkF m 36 #[jv q1, .second, iv 128] [.long q1, .ref b1, .ref b1])) rfl (by rw [hml]; rfl) (Steps.refl _) (a := b1) (argsL := [(.long q1)]) (rest := [(.ref b1)]) (lenOf pd_1 rfl) rfl (by show 2 * 0 + _ ≤ _; exact Nat.le_of_eq rfl) (hb hby d1_36) (fun _ _ => ⟨rfl, e1, (by decide : 1 + 0 ≤ _), (by decide : 1 + 0 ≤ _)⟩)
    dsimp only [Pt.U, Pt.locs, Pt.cells, Pt.slots] at X2 lq2 yq2 zq2 st2 hQ2
    subst lq2 yq2 zq2
    obtain ⟨h2, e2⟩ : ∃ z, z = T2.heap := ⟨_, rfl⟩
    rw [← e2] at hQ2
    replace e2 := e2.symm
    obtain ⟨rfl, Nq2, Kq2, hR2⟩ := hQ2
    have N := Fr.app N Nq2
    have E_b1 := E_b1.keep Kq2
    obtain ⟨E_b1, F_value_b1⟩ := hR2
    have O := O.keep Kq2 (allS g_b1 all0)
    have K := K.trans Kq2 (allS (Or.inr sz_b1) all0)
    refine gb (fun _ k => st2.trans k) ?_
    show G T2 (mkF m 39 #[jv q1, .second, iv 128] [.ref b1])
    exact go X2 (v := (some (.ref b1))) (fun h => by rw [Bd.returns] at h; cases h) (fun fs hr => retOut X2 hx Bd.returns rfl (Or.inr (Or.inr (Or.inr (Or.inr ⟨rfl, rfl, rfl⟩)))) (hb hby d1_39) hr) (by rw [e2]; exact ⟨_, rfl, N, K, E_b1, F_value_b1⟩) (by decide) (by decide)
  · skip
    refine gb (fun _ k => XS.ifNo X0.here hx rfl (hb hby d1_9) rfl ((if0 _ _).trans (flt (fun q => hc9 ((own_lt _ _).mp q))).1) (XS.lloadN X0.here hx rfl (hb hby d1_12) rfl k)) ?_
    show G s₁ (mkF m 13 #[jv q1, .second, iv 128] [.long q1])
    refine gb (X0.ldc2Long hx hown (mvT hZ (ow hw 51 rfl)) (g := (mkF m 13 #[jv q1, .second, iv 128] [.long q1])) rfl (hb hby d1_13)) ?_
    show G s₁ (mkF m 16 #[jv q1, .second, iv 128] [.long 127, .long q1])
    refine gb (fun _ k => XS.lcmp X0.here hx rfl (hb hby d1_16) rfl k) ?_
    show G s₁ (mkF m 17 #[jv q1, .second, iv 128] [.int (lcmpW q1 (127 : Int64))])
    by_cases hc17 : (127 : Int64) < q1
    · skip
      refine gb (fun _ k => XS.ifYes X0.here hx rfl (pc0 := 17) (pc' := 31) rfl (hb hby d1_17) rfl ((if0 _ _).trans (tlt ((own_gt _ _).mpr hc17)).2.2.1) (by decide) (by decide) k) ?_
      show G s₁ (mkF m 31 #[jv q1, .second, iv 128] [])
      obtain ⟨T3, h3, X3, e3, E3, A3, D3, U3, st3⟩ := newO X0 hx hZ hown (ow hw 5 rfl) (ow hw 6 rfl) (ow hw 2 rfl) e0 (g := (mkF m 31 #[jv q1, .second, iv 128] [])) rfl (hb hby d1_31) (by decide) (by decide)
      obtain ⟨b3, g3⟩ : ∃ z, z = h0.size := ⟨_, rfl⟩
      rw [← g3] at A3 D3 U3 st3
      have g_b3 : n0 ≤ b3 := Nat.le_trans (by have := O.2.1; rw [O.1] at this; exact this) (Nat.le_of_eq g3.symm)
      have sz_b3 : h0.size ≤ b3 := Nat.le_trans K.1 (Nat.le_of_eq g3.symm)
      have O := O.ext E3
      have K := K.ext E3
      have E_b3 := A3
      have F_value_b3 : Fld Z h3 b3 "java/lang/Long" "value" "J" (.long (0 : Int64)) := D3 (Or.inr (ow hw 21 rfl)) (ty := .long) (by decide)
      refine gb st3 ?_
      show G T3 (mkF m 34 #[jv q1, .second, iv 128] [.ref b3])
      refine gb (fun _ k => XS.dup X3.here hx rfl (hb hby d1_34) rfl rfl (XS.lloadN X3.here hx rfl (hb hby d1_35) rfl k)) ?_
      show G T3 (mkF m 36 #[jv q1, .second, iv 128] [.long q1, .ref b3, .ref b3])
      obtain ⟨_, _, ⟨T4, Lz4, kz4, nz4⟩, -, X4, ⟨Lc4, hQ4, lq4, yq4, zq4⟩, st4⟩ := X3.specialBack hx (y := (⟨"java/lang/Long", "<init>", "(J)V"⟩ : MethodName)) rfl hown (mvT hZ (ow hw 7 rfl)) (mvT hZ (ow hw 8 rfl)) (mvT hZ (ow hw 10 rfl)) (by decide) (backOf (W := 1) (rm2 l Z a0 hw [] b3 q1 h3 n0 O E_b3 F_value_b3 g_b3) hZ (ow hw 10 rfl) (ow hw 2 rfl) (by decide) (by decide)) (g := (mkF m 36 #[jv q1, .second, iv 128] [.long q1, .ref b3, .ref b3])) rfl (by rw [hml]; rfl) (Steps.refl _) (a := b3) (argsL := [(.long q1)]) (rest := [(.ref b3)]) (lenOf pd_1 rfl) rfl (by show 2 * 0 + _ ≤ _; exact Nat.le_of_eq rfl) (hb hby d1_36) (fun _ _ => ⟨rfl, e3, (by decide : 1 + 0 ≤ _), (by decide : 1 + 0 ≤ _)⟩)
      dsimp only [Pt.U, Pt.locs, Pt.cells, Pt.slots] at X4 lq4 yq4 zq4 st4 hQ4
      subst lq4 yq4 zq4
      obtain ⟨h4, e4⟩ : ∃ z, z = T4.heap := ⟨_, rfl⟩
      rw [← e4] at hQ4
      replace e4 := e4.symm
      obtain ⟨rfl, Nq4, Kq4, hR4⟩ := hQ4
      have N := Fr.app N Nq4
      have E_b3 := E_b3.keep Kq4
      obtain ⟨E_b3, F_value_b3⟩ := hR4
      have O := O.keep Kq4 (allS g_b3 all0)
      have K := K.trans Kq4 (allS (Or.inr sz_b3) all0)
      refine gb (fun _ k => st4.trans k) ?_
      show G T4 (mkF m 39 #[jv q1, .second, iv 128] [.ref b3])
      exact go X4 (v := (some (.ref b3))) (fun h => by rw [Bd.returns] at h; cases h) (fun fs hr => retOut X4 hx Bd.returns rfl (Or.inr (Or.inr (Or.inr (Or.inr ⟨rfl, rfl, rfl⟩)))) (hb hby d1_39) hr) (by rw [e4]; exact ⟨_, rfl, N, K, E_b3, F_value_b3⟩) (by decide) (by decide)
    · skip
      refine gb (fun _ k => XS.ifNo X0.here hx rfl (hb hby d1_17) rfl ((if0 _ _).trans (flt (fun q => hc17 ((own_gt _ _).mp q))).2.2.1) k) ?_
      show G s₁ (mkF m 20 #[jv q1, .second, iv 128] [])
      obtain ⟨T5, X5, e5, st5⟩ := getS2 X0 hx hZ hown (host := "") (Or.inl (ow hw 52 rfl)) Via.refl e0 (S_c.ext O.2) (g := (mkF m 20 #[jv q1, .second, iv 128] [])) rfl (hb hby d1_20)
      refine gb st5 ?_
      show G T5 (mkF m 23 #[jv q1, .second, iv 128] [.ref wc])
      refine gb (fun _ k => XS.lloadN X5.here hx rfl (hb hby d1_23) rfl (XS.l2i X5.here hx rfl (hb hby d1_24) rfl (XS.sipush X5.here hx rfl (hb hby d1_25) (XS.iadd X5.here hx rfl (hb hby d1_28) rfl k)))) ?_
      show G T5 (mkF m 29 #[jv q1, .second, iv 128] [.int ((q1.toInt32) + (128 : Int32)), .ref wc])
      obtain ⟨hj1, hj2, hj3⟩ := own_cache hc9 hc17
      have hin : ¬ (((q1.toInt32) + (128 : Int32)) < 0 ∨ cc.slots.size ≤ (((q1.toInt32) + (128 : Int32))).toNatClampNeg) := inb_of BX.2.1 ⟨hj1, hj2⟩
      obtain ⟨bx, hb1, E_bx, F_bx⟩ := BX.2.2.2 _ hin
      have F_bx2 : Fld Z Z.heap bx "java/lang/Long" "value" "J" (.long q1) := by rw [← hj3]; exact F_bx
      have Arc := (BX.ext O.2).1
      refine gb (X5.aaload hx (j := ((q1.toInt32) + (128 : Int32))) (v := .ref bx) (by rw [e5]; exact Arc.1) (State.isArrayOf_alike hZ.alike Arc.2.1) rfl Arc.2.2 hin hb1 (g := (mkF m 29 #[jv q1, .second, iv 128] [.int ((q1.toInt32) + (128 : Int32)), .ref wc])) rfl rfl (hb hby d1_29)) ?_
      show G T5 (mkF m 30 #[jv q1, .second, iv 128] [.ref bx])
      exact go X5 (v := (some (.ref bx))) (fun h => by rw [Bd.returns] at h; cases h) (fun fs hr => retOut X5 hx Bd.returns rfl (Or.inr (Or.inr (Or.inr (Or.inr ⟨rfl, rfl, rfl⟩)))) (hb hby d1_30) hr) (by rw [e5]; exact ⟨_, rfl, N, K, E_bx.ext O.2, F_bx2.ext O.2⟩) (by decide) (by decide)
def Q_rm6 (Z : State) (a1 : Addr) (q1 : Int64) (h0 : Heap) (n0 : Nat) : Option Value → Heap → List Loc → Prop := fun v h L => v = some (.long q1) ∧ L = [] ∧ h = h0
set_option maxRecDepth 65536 in
set_option maxHeartbeats 40000000 in
theorem rm6 (l : Launch) (Z : State) (a0 : Array Value) (hw : ∀ d ∈ tables_1, d.before a0 Z = true) (ws : List Jvm.Cond) (a1 : Addr) (q1 : Int64) (h0 : Heap) (n0 : Nat) (O : Old Z n0 h0) (F_value : Fld Z h0 a1 "java/lang/Long" "value" "J" (.long q1)) :
    MetFree l (⟨"java/lang/Long", "longValue", "()J"⟩ : MethodName) (head1 (Jvm.Cond.code (⟨"java/lang/Long", "longValue", "()J"⟩ : MethodName) jdk_35_method_31_code 1 (some .long) :: ws) ({ frames := 0, cells := 0, slots := 0, locals := 0 } : Room)) (fun a U => a = #[(.ref a1)] ∧ Z.Warmed39 U.vm ∧ U.heap = h0) (fun _ _ _ _ _ => True) (fun _ U o U' => ∃ v L, o = .returned v ∧ (Q_rm6 Z a1 q1 h0 n0) v U'.heap L ∧ FrameEnd U o U' L ({ frames := 0, cells := 0, slots := 0, locals := 0 } : Room).cells ({ frames := 0, cells := 0, slots := 0, locals := 0 } : Room).slots) := by
  refine MetFree.of_bodySF (plainFor_of_name pn_1) hisR ?_
  intro p e s m args below meth c s₁ Bd hml0 hP hK
  obtain ⟨rfl, hZ, hh⟩ := hP
  have hx := Bd.exec
  have hby := Bd.bytes
  have hml : c.maxLocals = 1 := hml0
  have hown : s.vm.findClass "java/lang/Long" = some m.cls := findClass_of_methodNamed Bd.named
  have hnm := (name_of_methodNamed Bd.named Bd.method).1
  have hlk := BodyLoose.notSynchronized Bd
  have X0 : Stand p l e ({ frames := 0, cells := 0, slots := 0, locals := 0 } : Room) s m #[(.ref a1)] below meth c s₁ [] 0 0 := Stand.of_body Bd
  have e0 : s₁.heap = h0 := by rw [← hh, Bd.state]; rfl
  have N := Fr.nil n0
  obtain ⟨G, hG⟩ : ∃ G : State → JFrame → Prop, G = OwnG p e below s ({ frames := 0, cells := 0, slots := 0, locals := 0 } : Room).cells ({ frames := 0, cells := 0, slots := 0, locals := 0 } : Room).slots (Q_rm6 Z a1 q1 h0 n0) := ⟨_, rfl⟩
  have gb : ∀ {T T' : State} {g g' : JFrame}, (∀ t, Steps p.tables e below (T'.setTop g') t → Steps p.tables e below (T.setTop g) t) → G T' g' → G T g := by subst hG; exact fun k h => own_by k h
  have go : ∀ {T : State} {locs : List Loc} {cells slots : Nat} {g : JFrame} {v : Option Value}, Stand p l e ({ frames := 0, cells := 0, slots := 0, locals := 0 } : Room) s m #[(.ref a1)] below meth c T locs cells slots → (meth.sig.returnType = none → v = none) → (∀ fs, (∀ (f : JFrame) (acts : List Action), f.method = m → f.locked = none → f.entered = [] → (doReturn e (T.setTop f) acts v).1 = T.setFrames fs) → Steps p.tables e below (T.setTop g) (T.setFrames fs)) → (Q_rm6 Z a1 q1 h0 n0) v T.heap locs → cells ≤ ({ frames := 0, cells := 0, slots := 0, locals := 0 } : Room).cells → slots ≤ ({ frames := 0, cells := 0, slots := 0, locals := 0 } : Room).slots → G T g := by subst hG; exact fun X h1 h2 h3 h4 h5 => own_out X hlk h1 h2 h3 h4 h5
  show OwnG p e below s ({ frames := 0, cells := 0, slots := 0, locals := 0 } : Room).cells ({ frames := 0, cells := 0, slots := 0, locals := 0 } : Room).slots (Q_rm6 Z a1 q1 h0 n0) s₁ (entryFrame m #[(.ref a1)] 1)
  rw [← hG, ef_rm6 m a1]
  clear hG
  show G s₁ (mkF m 0 #[.val (.ref a1)] [])
  refine gb (fun _ k => XS.aloadN X0.here hx rfl (hb hby d6_0) rfl rfl k) ?_
  show G s₁ (mkF m 1 #[rv a1] [.ref a1])
  obtain ⟨T1, X1, e1, st1⟩ := getF X0 hx hZ hown (host := "") (Or.inl (ow hw 20 rfl)) Via.refl e0 F_value (g := (mkF m 1 #[rv a1] [.ref a1])) rfl rfl (hb hby d6_1)
  refine gb st1 ?_
  show G T1 (mkF m 4 #[rv a1] [.long q1])
  exact go X1 (v := (some (.long q1))) (fun h => by rw [Bd.returns] at h; cases h) (fun fs hr => retOut X1 hx Bd.returns rfl (Or.inr (Or.inl ⟨rfl, rfl, _, rfl⟩)) (hb hby d6_4) hr) (⟨rfl, rfl, e1⟩) (by decide) (by decide)
def Q_rm5_00 (Z : State) (a1 : Addr) (v8 v9 : Value) (h0 : Heap) (n0 : Nat) : Option Value → Heap → List Loc → Prop := fun v h L => v = none ∧ Fr n0 L ∧ Keep h0 h [a1] ∧ Exa Z h a1 "com/example/equipe/equipe/JobSpec" ∧ Fld Z h a1 "com/example/equipe/equipe/JobSpec" "delayMs" "Ljava/lang/Long;" .null
set_option maxRecDepth 65536 in
set_option maxHeartbeats 40000000 in
theorem rm5_00 (l : Launch) (Z : State) (a0 : Array Value) (hw : ∀ d ∈ tables_1, d.before a0 Z = true) (ws : List Jvm.Cond) (a1 : Addr) (v8 v9 : Value) (h0 : Heap) (n0 : Nat) (O : Old Z n0 h0) (hr_v8 : v8.isRef = true) (hr_v9 : v9.isRef = true) (E_a1 : Exa Z h0 a1 "com/example/equipe/equipe/JobSpec") (F_command : Fld Z h0 a1 "com/example/equipe/equipe/JobSpec" "command" "Ljava/util/List;" .null) (F_payload : Fld Z h0 a1 "com/example/equipe/equipe/JobSpec" "payload" "Ljava/lang/String;" .null) (F_maxAttempts : Fld Z h0 a1 "com/example/equipe/equipe/JobSpec" "maxAttempts" "Ljava/lang/Long;" .null) (F_timeLimitMs : Fld Z h0 a1 "com/example/equipe/equipe/JobSpec" "timeLimitMs" "Ljava/lang/Long;" .null) (F_priority : Fld Z h0 a1 "com/example/equipe/equipe/JobSpec" "priority" "J" (.long (0 : Int64))) (F_delayMs : Fld Z h0 a1 "com/example/equipe/equipe/JobSpec" "delayMs" "Ljava/lang/Long;" .null) (g_a1 : n0 ≤ a1) :
    MetFree l (⟨"com/example/equipe/equipe/JobSpec", "<init>", "(Ljava/util/List;Ljava/lang/String;Ljava/lang/Long;Ljava/lang/Long;Ljava/lang/Long;Ljava/lang/Long;)V"⟩ : MethodName) (head1 (Jvm.Cond.code (⟨"com/example/equipe/equipe/JobSpec", "<init>", "(Ljava/util/List;Ljava/lang/String;Ljava/lang/Long;Ljava/lang/Long;Ljava/lang/Long;Ljava/lang/Long;)V"⟩ : MethodName) prog_7_method_1_code 7 none :: ws) ({ frames := 1, cells := 0, slots := 0, locals := 12 } : Room)) (fun a U => a = #[(.ref a1), .null, .null, v8, v9, .null, .null] ∧ Z.Warmed39 U.vm ∧ U.heap = h0) (fun _ _ _ _ _ => True) (fun _ U o U' => ∃ v L, o = .returned v ∧ (Q_rm5_00 Z a1 v8 v9 h0 n0) v U'.heap L ∧ FrameEnd U o U' L ({ frames := 1, cells := 0, slots := 0, locals := 12 } : Room).cells ({ frames := 1, cells := 0, slots := 0, locals := 12 } : Room).slots) := by
  refine MetFree.of_bodySF (plainFor_of_name pn_2) hisR ?_
  intro p e s m args below meth c s₁ Bd hml0 hP hK
  obtain ⟨rfl, hZ, hh⟩ := hP
  have hx := Bd.exec
  have hby := Bd.bytes
  have hml : c.maxLocals = 7 := hml0
  have hown : s.vm.findClass "com/example/equipe/equipe/JobSpec" = some m.cls := findClass_of_methodNamed Bd.named
  have hnm := (name_of_methodNamed Bd.named Bd.method).1
  have hlk := BodyLoose.notSynchronized Bd
  have X0 : Stand p l e ({ frames := 1, cells := 0, slots := 0, locals := 12 } : Room) s m #[(.ref a1), .null, .null, v8, v9, .null, .null] below meth c s₁ [] 0 0 := Stand.of_body Bd
  have e0 : s₁.heap = h0 := by rw [← hh, Bd.state]; rfl
  have N := Fr.nil n0
  have K := Keep.refl h0 [a1]
  obtain ⟨G, hG⟩ : ∃ G : State → JFrame → Prop, G = OwnG p e below s ({ frames := 1, cells := 0, slots := 0, locals := 12 } : Room).cells ({ frames := 1, cells := 0, slots := 0, locals := 12 } : Room).slots (Q_rm5_00 Z a1 v8 v9 h0 n0) := ⟨_, rfl⟩
  have gb : ∀ {T T' : State} {g g' : JFrame}, (∀ t, Steps p.tables e below (T'.setTop g') t → Steps p.tables e below (T.setTop g) t) → G T' g' → G T g := by subst hG; exact fun k h => own_by k h
  have go : ∀ {T : State} {locs : List Loc} {cells slots : Nat} {g : JFrame} {v : Option Value}, Stand p l e ({ frames := 1, cells := 0, slots := 0, locals := 12 } : Room) s m #[(.ref a1), .null, .null, v8, v9, .null, .null] below meth c T locs cells slots → (meth.sig.returnType = none → v = none) → (∀ fs, (∀ (f : JFrame) (acts : List Action), f.method = m → f.locked = none → f.entered = [] → (doReturn e (T.setTop f) acts v).1 = T.setFrames fs) → Steps p.tables e below (T.setTop g) (T.setFrames fs)) → (Q_rm5_00 Z a1 v8 v9 h0 n0) v T.heap locs → cells ≤ ({ frames := 1, cells := 0, slots := 0, locals := 12 } : Room).cells → slots ≤ ({ frames := 1, cells := 0, slots := 0, locals := 12 } : Room).slots → G T g := by subst hG; exact fun X h1 h2 h3 h4 h5 => own_out X hlk h1 h2 h3 h4 h5
  show OwnG p e below s ({ frames := 1, cells := 0, slots := 0, locals := 12 } : Room).cells ({ frames := 1, cells := 0, slots := 0, locals := 12 } : Room).slots (Q_rm5_00 Z a1 v8 v9 h0 n0) s₁ (entryFrame m #[(.ref a1), .null, .null, v8, v9, .null, .null] 7)
  rw [← hG, ef_rm5_00 m a1 v8 v9 hr_v8 hr_v9]
  clear hG
  show G s₁ (mkF m 0 #[.val (.ref a1), .val .null, .val .null, .val v8, .val v9, .val .null, .val .null] [])
  refine gb (fun _ k => XS.aloadN X0.here hx rfl (hb hby d5_0) rfl rfl k) ?_
  show G s₁ (mkF m 1 #[rv a1, .val .null, .val .null, .val v8, .val v9, .val .null, .val .null] [.ref a1])
  obtain ⟨T1, X1, e1, st1⟩ := initO X0 hx hZ hown (ow hw 28 rfl) (ow hw 18 rfl) (ow hw 19 rfl) e0 (g := (mkF m 1 #[rv a1, .val .null, .val .null, .val v8, .val v9, .val .null, .val .null] [.ref a1])) rfl (by rw [hml]; rfl) rfl (hb hby d5_1) (by decide) (W := 0) (by show 2 * 0 + _ ≤ _; exact Nat.le_of_eq rfl) (by decide)
  refine gb st1 ?_
  show G T1 (mkF m 4 #[rv a1, .val .null, .val .null, .val v8, .val v9, .val .null, .val .null] [])
  refine gb (fun _ k => XS.aloadN X1.here hx rfl (hb hby d5_4) rfl rfl (XS.aloadN X1.here hx rfl (hb hby d5_5) rfl rfl (XS.ifnonnullNo X1.here hx rfl (hb hby d5_6) rfl (XS.aconstNull X1.here hx rfl (hb hby d5_9) (XS.goto X1.here hx rfl (pc0 := 10) (pc' := 17) rfl (hb hby d5_10) (by decide) (by decide) k))))) ?_
  show G T1 (mkF m 17 #[rv a1, .val .null, .val .null, .val v8, .val v9, .val .null, .val .null] [.null, .ref a1])
  obtain ⟨T2, h2, X2, e2, W2, st2⟩ := putF X1 hx hZ hown (host := "") (Or.inl (ow hw 29 rfl)) Via.refl e1 F_command E_a1 (Or.inr ⟨(ow hw 30 rfl), rfl, hnm⟩) (ow hw 23 rfl) (ty := (.object "java/util/List")) (by decide) rfl rfl (g := (mkF m 17 #[rv a1, .val .null, .val .null, .val v8, .val v9, .val .null, .val .null] [.null, .ref a1])) rfl rfl (hb hby d5_17)
  refine gb st2 ?_
  have F_command := F_command.same W2
  have E_a1 := E_a1.wr W2
  have F_payload := F_payload.other W2 (Or.inr (slot_ne (Or.inr (ow hw 32 rfl)) (Or.inr (ow hw 30 rfl)) (by decide) (t := (.object "java/lang/String")) (t' := (.object "java/util/List")) (by decide) (by decide)))
  have F_maxAttempts := F_maxAttempts.other W2 (Or.inr (slot_ne (Or.inr (ow hw 34 rfl)) (Or.inr (ow hw 30 rfl)) (by decide) (t := (.object "java/lang/Long")) (t' := (.object "java/util/List")) (by decide) (by decide)))
  have F_timeLimitMs := F_timeLimitMs.other W2 (Or.inr (slot_ne (Or.inr (ow hw 36 rfl)) (Or.inr (ow hw 30 rfl)) (by decide) (t := (.object "java/lang/Long")) (t' := (.object "java/util/List")) (by decide) (by decide)))
  have F_priority := F_priority.other W2 (Or.inr (slot_ne (Or.inr (ow hw 43 rfl)) (Or.inr (ow hw 30 rfl)) (by decide) (t := .long) (t' := (.object "java/util/List")) (by decide) (by decide)))
  have F_delayMs := F_delayMs.other W2 (Or.inr (slot_ne (Or.inr (ow hw 45 rfl)) (Or.inr (ow hw 30 rfl)) (by decide) (t := (.object "java/lang/Long")) (t' := (.object "java/util/List")) (by decide) (by decide)))
  have O := O.wr W2 g_a1
  have K := K.wr W2 (Or.inl (List.mem_of_getElem? (i := 0) rfl))
  have N := Fr.snoc X2 N g_a1
  show G T2 (mkF m 20 #[rv a1, .val .null, .val .null, .val v8, .val v9, .val .null, .val .null] [])
  refine gb (fun _ k => XS.aloadN X2.here hx rfl (hb hby d5_20) rfl rfl (XS.aloadN X2.here hx rfl (hb hby d5_21) rfl rfl k)) ?_
  show G T2 (mkF m 22 #[rv a1, .val .null, .val .null, .val v8, .val v9, .val .null, .val .null] [.null, .ref a1])
  obtain ⟨T3, h3, X3, e3, W3, st3⟩ := putF X2 hx hZ hown (host := "") (Or.inl (ow hw 31 rfl)) Via.refl e2 F_payload E_a1 (Or.inr ⟨(ow hw 32 rfl), rfl, hnm⟩) (ow hw 23 rfl) (ty := (.object "java/lang/String")) (by decide) rfl rfl (g := (mkF m 22 #[rv a1, .val .null, .val .null, .val v8, .val v9, .val .null, .val .null] [.null, .ref a1])) rfl rfl (hb hby d5_22)
  refine gb st3 ?_
  have F_payload := F_payload.same W3
  have E_a1 := E_a1.wr W3
  have F_maxAttempts := F_maxAttempts.other W3 (Or.inr (slot_ne (Or.inr (ow hw 34 rfl)) (Or.inr (ow hw 32 rfl)) (by decide) (t := (.object "java/lang/Long")) (t' := (.object "java/lang/String")) (by decide) (by decide)))
  have F_timeLimitMs := F_timeLimitMs.other W3 (Or.inr (slot_ne (Or.inr (ow hw 36 rfl)) (Or.inr (ow hw 32 rfl)) (by decide) (t := (.object "java/lang/Long")) (t' := (.object "java/lang/String")) (by decide) (by decide)))
  have F_priority := F_priority.other W3 (Or.inr (slot_ne (Or.inr (ow hw 43 rfl)) (Or.inr (ow hw 32 rfl)) (by decide) (t := .long) (t' := (.object "java/lang/String")) (by decide) (by decide)))
  have F_delayMs := F_delayMs.other W3 (Or.inr (slot_ne (Or.inr (ow hw 45 rfl)) (Or.inr (ow hw 32 rfl)) (by decide) (t := (.object "java/lang/Long")) (t' := (.object "java/lang/String")) (by decide) (by decide)))
  have F_command := F_command.other W3 (Or.inr (slot_ne (Or.inr (ow hw 30 rfl)) (Or.inr (ow hw 32 rfl)) (by decide) (t := (.object "java/util/List")) (t' := (.object "java/lang/String")) (by decide) (by decide)))
  have O := O.wr W3 g_a1
  have K := K.wr W3 (Or.inl (List.mem_of_getElem? (i := 0) rfl))
  have N := Fr.snoc X3 N g_a1
  show G T3 (mkF m 25 #[rv a1, .val .null, .val .null, .val v8, .val v9, .val .null, .val .null] [])
  refine gb (fun _ k => XS.aloadN X3.here hx rfl (hb hby d5_25) rfl rfl (XS.aloadN X3.here hx rfl (hb hby d5_26) rfl hr_v8 k)) ?_
  show G T3 (mkF m 27 #[rv a1, .val .null, .val .null, .val v8, .val v9, .val .null, .val .null] [v8, .ref a1])
  obtain ⟨T4, h4, X4, e4, W4, st4⟩ := putF X3 hx hZ hown (host := "") (Or.inl (ow hw 33 rfl)) Via.refl e3 F_maxAttempts E_a1 (Or.inr ⟨(ow hw 34 rfl), rfl, hnm⟩) (ow hw 23 rfl) (ty := (.object "java/lang/Long")) (by decide) (own_narR hr_v8) (own_fitR hr_v8) (g := (mkF m 27 #[rv a1, .val .null, .val .null, .val v8, .val v9, .val .null, .val .null] [v8, .ref a1])) rfl rfl (hb hby d5_27)
  refine gb st4 ?_
  have F_maxAttempts := F_maxAttempts.same W4
  have E_a1 := E_a1.wr W4
  have F_timeLimitMs := F_timeLimitMs.other W4 (Or.inr (slot_ne (Or.inr (ow hw 36 rfl)) (Or.inr (ow hw 34 rfl)) (by decide) (t := (.object "java/lang/Long")) (t' := (.object "java/lang/Long")) (by decide) (by decide)))
  have F_priority := F_priority.other W4 (Or.inr (slot_ne (Or.inr (ow hw 43 rfl)) (Or.inr (ow hw 34 rfl)) (by decide) (t := .long) (t' := (.object "java/lang/Long")) (by decide) (by decide)))
  have F_delayMs := F_delayMs.other W4 (Or.inr (slot_ne (Or.inr (ow hw 45 rfl)) (Or.inr (ow hw 34 rfl)) (by decide) (t := (.object "java/lang/Long")) (t' := (.object "java/lang/Long")) (by decide) (by decide)))
  have F_command := F_command.other W4 (Or.inr (slot_ne (Or.inr (ow hw 30 rfl)) (Or.inr (ow hw 34 rfl)) (by decide) (t := (.object "java/util/List")) (t' := (.object "java/lang/Long")) (by decide) (by decide)))
  have F_payload := F_payload.other W4 (Or.inr (slot_ne (Or.inr (ow hw 32 rfl)) (Or.inr (ow hw 34 rfl)) (by decide) (t := (.object "java/lang/String")) (t' := (.object "java/lang/Long")) (by decide) (by decide)))
  have O := O.wr W4 g_a1
  have K := K.wr W4 (Or.inl (List.mem_of_getElem? (i := 0) rfl))
  have N := Fr.snoc X4 N g_a1
  show G T4 (mkF m 30 #[rv a1, .val .null, .val .null, .val v8, .val v9, .val .null, .val .null] [])
  refine gb (fun _ k => XS.aloadN X4.here hx rfl (hb hby d5_30) rfl rfl (XS.aload X4.here hx rfl (hb hby d5_31) rfl hr_v9 k)) ?_
  show G T4 (mkF m 33 #[rv a1, .val .null, .val .null, .val v8, .val v9, .val .null, .val .null] [v9, .ref a1])
  obtain ⟨T5, h5, X5, e5, W5, st5⟩ := putF X4 hx hZ hown (host := "") (Or.inl (ow hw 35 rfl)) Via.refl e4 F_timeLimitMs E_a1 (Or.inr ⟨(ow hw 36 rfl), rfl, hnm⟩) (ow hw 23 rfl) (ty := (.object "java/lang/Long")) (by decide) (own_narR hr_v9) (own_fitR hr_v9) (g := (mkF m 33 #[rv a1, .val .null, .val .null, .val v8, .val v9, .val .null, .val .null] [v9, .ref a1])) rfl rfl (hb hby d5_33)
  refine gb st5 ?_
  have F_timeLimitMs := F_timeLimitMs.same W5
  have E_a1 := E_a1.wr W5
  have F_priority := F_priority.other W5 (Or.inr (slot_ne (Or.inr (ow hw 43 rfl)) (Or.inr (ow hw 36 rfl)) (by decide) (t := .long) (t' := (.object "java/lang/Long")) (by decide) (by decide)))
  have F_delayMs := F_delayMs.other W5 (Or.inr (slot_ne (Or.inr (ow hw 45 rfl)) (Or.inr (ow hw 36 rfl)) (by decide) (t := (.object "java/lang/Long")) (t' := (.object "java/lang/Long")) (by decide) (by decide)))
  have F_command := F_command.other W5 (Or.inr (slot_ne (Or.inr (ow hw 30 rfl)) (Or.inr (ow hw 36 rfl)) (by decide) (t := (.object "java/util/List")) (t' := (.object "java/lang/Long")) (by decide) (by decide)))
  have F_payload := F_payload.other W5 (Or.inr (slot_ne (Or.inr (ow hw 32 rfl)) (Or.inr (ow hw 36 rfl)) (by decide) (t := (.object "java/lang/String")) (t' := (.object "java/lang/Long")) (by decide) (by decide)))
  have F_maxAttempts := F_maxAttempts.other W5 (Or.inr (slot_ne (Or.inr (ow hw 34 rfl)) (Or.inr (ow hw 36 rfl)) (by decide) (t := (.object "java/lang/Long")) (t' := (.object "java/lang/Long")) (by decide) (by decide)))
  have O := O.wr W5 g_a1
  have K := K.wr W5 (Or.inl (List.mem_of_getElem? (i := 0) rfl))
  have N := Fr.snoc X5 N g_a1
  show G T5 (mkF m 36 #[rv a1, .val .null, .val .null, .val v8, .val v9, .val .null, .val .null] [])
  refine gb (fun _ k => XS.aloadN X5.here hx rfl (hb hby d5_36) rfl rfl (XS.aload X5.here hx rfl (hb hby d5_37) rfl rfl (XS.ifnonnullNo X5.here hx rfl (hb hby d5_39) rfl k))) ?_
  show G T5 (mkF m 42 #[rv a1, .val .null, .val .null, .val v8, .val v9, .val .null, .val .null] [.ref a1])
  refine gb (X5.ldc2Long hx hown (mvT hZ (ow hw 54 rfl)) (g := (mkF m 42 #[rv a1, .val .null, .val .null, .val v8, .val v9, .val .null, .val .null] [.ref a1])) rfl (hb hby d5_42)) ?_
  show G T5 (mkF m 45 #[rv a1, .val .null, .val .null, .val v8, .val v9, .val .null, .val .null] [.long 2147483648, .ref a1])
  refine gb (fun _ k => XS.goto X5.here hx rfl (pc0 := 45) (pc' := 53) rfl (hb hby d5_45) (by decide) (by decide) k) ?_
  show G T5 (mkF m 53 #[rv a1, .val .null, .val .null, .val v8, .val v9, .val .null, .val .null] [.long 2147483648, .ref a1])
  obtain ⟨T6, h6, X6, e6, W6, st6⟩ := putF X5 hx hZ hown (host := "") (Or.inl (ow hw 42 rfl)) Via.refl e5 F_priority E_a1 (Or.inr ⟨(ow hw 43 rfl), rfl, hnm⟩) (ow hw 23 rfl) (ty := .long) (by decide) rfl rfl (g := (mkF m 53 #[rv a1, .val .null, .val .null, .val v8, .val v9, .val .null, .val .null] [.long 2147483648, .ref a1])) rfl rfl (hb hby d5_53)
  refine gb st6 ?_
  have F_priority := F_priority.same W6
  have E_a1 := E_a1.wr W6
  have F_delayMs := F_delayMs.other W6 (Or.inr (slot_ne (Or.inr (ow hw 45 rfl)) (Or.inr (ow hw 43 rfl)) (by decide) (t := (.object "java/lang/Long")) (t' := .long) (by decide) (by decide)))
  have F_command := F_command.other W6 (Or.inr (slot_ne (Or.inr (ow hw 30 rfl)) (Or.inr (ow hw 43 rfl)) (by decide) (t := (.object "java/util/List")) (t' := .long) (by decide) (by decide)))
  have F_payload := F_payload.other W6 (Or.inr (slot_ne (Or.inr (ow hw 32 rfl)) (Or.inr (ow hw 43 rfl)) (by decide) (t := (.object "java/lang/String")) (t' := .long) (by decide) (by decide)))
  have F_maxAttempts := F_maxAttempts.other W6 (Or.inr (slot_ne (Or.inr (ow hw 34 rfl)) (Or.inr (ow hw 43 rfl)) (by decide) (t := (.object "java/lang/Long")) (t' := .long) (by decide) (by decide)))
  have F_timeLimitMs := F_timeLimitMs.other W6 (Or.inr (slot_ne (Or.inr (ow hw 36 rfl)) (Or.inr (ow hw 43 rfl)) (by decide) (t := (.object "java/lang/Long")) (t' := .long) (by decide) (by decide)))
  have O := O.wr W6 g_a1
  have K := K.wr W6 (Or.inl (List.mem_of_getElem? (i := 0) rfl))
  have N := Fr.snoc X6 N g_a1
  show G T6 (mkF m 56 #[rv a1, .val .null, .val .null, .val v8, .val v9, .val .null, .val .null] [])
  refine gb (fun _ k => XS.aloadN X6.here hx rfl (hb hby d5_56) rfl rfl (XS.aload X6.here hx rfl (hb hby d5_57) rfl rfl k)) ?_
  show G T6 (mkF m 59 #[rv a1, .val .null, .val .null, .val v8, .val v9, .val .null, .val .null] [.null, .ref a1])
  obtain ⟨T7, h7, X7, e7, W7, st7⟩ := putF X6 hx hZ hown (host := "") (Or.inl (ow hw 44 rfl)) Via.refl e6 F_delayMs E_a1 (Or.inr ⟨(ow hw 45 rfl), rfl, hnm⟩) (ow hw 23 rfl) (ty := (.object "java/lang/Long")) (by decide) rfl rfl (g := (mkF m 59 #[rv a1, .val .null, .val .null, .val v8, .val v9, .val .null, .val .null] [.null, .ref a1])) rfl rfl (hb hby d5_59)
  refine gb st7 ?_
  have F_delayMs := F_delayMs.same W7
  have E_a1 := E_a1.wr W7
  have F_command := F_command.other W7 (Or.inr (slot_ne (Or.inr (ow hw 30 rfl)) (Or.inr (ow hw 45 rfl)) (by decide) (t := (.object "java/util/List")) (t' := (.object "java/lang/Long")) (by decide) (by decide)))
  have F_payload := F_payload.other W7 (Or.inr (slot_ne (Or.inr (ow hw 32 rfl)) (Or.inr (ow hw 45 rfl)) (by decide) (t := (.object "java/lang/String")) (t' := (.object "java/lang/Long")) (by decide) (by decide)))
  have F_maxAttempts := F_maxAttempts.other W7 (Or.inr (slot_ne (Or.inr (ow hw 34 rfl)) (Or.inr (ow hw 45 rfl)) (by decide) (t := (.object "java/lang/Long")) (t' := (.object "java/lang/Long")) (by decide) (by decide)))
  have F_timeLimitMs := F_timeLimitMs.other W7 (Or.inr (slot_ne (Or.inr (ow hw 36 rfl)) (Or.inr (ow hw 45 rfl)) (by decide) (t := (.object "java/lang/Long")) (t' := (.object "java/lang/Long")) (by decide) (by decide)))
  have F_priority := F_priority.other W7 (Or.inr (slot_ne (Or.inr (ow hw 43 rfl)) (Or.inr (ow hw 45 rfl)) (by decide) (t := .long) (t' := (.object "java/lang/Long")) (by decide) (by decide)))
  have O := O.wr W7 g_a1
  have K := K.wr W7 (Or.inl (List.mem_of_getElem? (i := 0) rfl))
  have N := Fr.snoc X7 N g_a1
  show G T7 (mkF m 62 #[rv a1, .val .null, .val .null, .val v8, .val v9, .val .null, .val .null] [])
  exact go X7 (v := none) (fun _ => rfl) (fun fs hr => X7.returnOut hx Bd.returns (hb hby d5_62) hr) (by rw [e7]; exact ⟨rfl, N, K, E_a1, F_delayMs⟩) (by decide) (by decide)
def Q_rm5_01 (Z : State) (a1 : Addr) (v8 v9 : Value) (a6 : Addr) (h0 : Heap) (n0 : Nat) : Option Value → Heap → List Loc → Prop := fun v h L => v = none ∧ Fr n0 L ∧ Keep h0 h [a1] ∧ Exa Z h a1 "com/example/equipe/equipe/JobSpec" ∧ Fld Z h a1 "com/example/equipe/equipe/JobSpec" "delayMs" "Ljava/lang/Long;" (.ref a6)
set_option maxRecDepth 65536 in
set_option maxHeartbeats 40000000 in
theorem rm5_01 (l : Launch) (Z : State) (a0 : Array Value) (hw : ∀ d ∈ tables_1, d.before a0 Z = true) (ws : List Jvm.Cond) (a1 : Addr) (v8 v9 : Value) (a6 : Addr) (h0 : Heap) (n0 : Nat) (O : Old Z n0 h0) (hr_v8 : v8.isRef = true) (hr_v9 : v9.isRef = true) (E_a1 : Exa Z h0 a1 "com/example/equipe/equipe/JobSpec") (F_command : Fld Z h0 a1 "com/example/equipe/equipe/JobSpec" "command" "Ljava/util/List;" .null) (F_payload : Fld Z h0 a1 "com/example/equipe/equipe/JobSpec" "payload" "Ljava/lang/String;" .null) (F_maxAttempts : Fld Z h0 a1 "com/example/equipe/equipe/JobSpec" "maxAttempts" "Ljava/lang/Long;" .null) (F_timeLimitMs : Fld Z h0 a1 "com/example/equipe/equipe/JobSpec" "timeLimitMs" "Ljava/lang/Long;" .null) (F_priority : Fld Z h0 a1 "com/example/equipe/equipe/JobSpec" "priority" "J" (.long (0 : Int64))) (F_delayMs : Fld Z h0 a1 "com/example/equipe/equipe/JobSpec" "delayMs" "Ljava/lang/Long;" .null) (g_a1 : n0 ≤ a1) :
    MetFree l (⟨"com/example/equipe/equipe/JobSpec", "<init>", "(Ljava/util/List;Ljava/lang/String;Ljava/lang/Long;Ljava/lang/Long;Ljava/lang/Long;Ljava/lang/Long;)V"⟩ : MethodName) (head1 (Jvm.Cond.code (⟨"com/example/equipe/equipe/JobSpec", "<init>", "(Ljava/util/List;Ljava/lang/String;Ljava/lang/Long;Ljava/lang/Long;Ljava/lang/Long;Ljava/lang/Long;)V"⟩ : MethodName) prog_7_method_1_code 7 none :: ws) ({ frames := 1, cells := 0, slots := 0, locals := 12 } : Room)) (fun a U => a = #[(.ref a1), .null, .null, v8, v9, .null, (.ref a6)] ∧ Z.Warmed39 U.vm ∧ U.heap = h0) (fun _ _ _ _ _ => True) (fun _ U o U' => ∃ v L, o = .returned v ∧ (Q_rm5_01 Z a1 v8 v9 a6 h0 n0) v U'.heap L ∧ FrameEnd U o U' L ({ frames := 1, cells := 0, slots := 0, locals := 12 } : Room).cells ({ frames := 1, cells := 0, slots := 0, locals := 12 } : Room).slots) := by
  refine MetFree.of_bodySF (plainFor_of_name pn_2) hisR ?_
  intro p e s m args below meth c s₁ Bd hml0 hP hK
  obtain ⟨rfl, hZ, hh⟩ := hP
  have hx := Bd.exec
  have hby := Bd.bytes
  have hml : c.maxLocals = 7 := hml0
  have hown : s.vm.findClass "com/example/equipe/equipe/JobSpec" = some m.cls := findClass_of_methodNamed Bd.named
  have hnm := (name_of_methodNamed Bd.named Bd.method).1
  have hlk := BodyLoose.notSynchronized Bd
  have X0 : Stand p l e ({ frames := 1, cells := 0, slots := 0, locals := 12 } : Room) s m #[(.ref a1), .null, .null, v8, v9, .null, (.ref a6)] below meth c s₁ [] 0 0 := Stand.of_body Bd
  have e0 : s₁.heap = h0 := by rw [← hh, Bd.state]; rfl
  have N := Fr.nil n0
  have K := Keep.refl h0 [a1]
  obtain ⟨G, hG⟩ : ∃ G : State → JFrame → Prop, G = OwnG p e below s ({ frames := 1, cells := 0, slots := 0, locals := 12 } : Room).cells ({ frames := 1, cells := 0, slots := 0, locals := 12 } : Room).slots (Q_rm5_01 Z a1 v8 v9 a6 h0 n0) := ⟨_, rfl⟩
  have gb : ∀ {T T' : State} {g g' : JFrame}, (∀ t, Steps p.tables e below (T'.setTop g') t → Steps p.tables e below (T.setTop g) t) → G T' g' → G T g := by subst hG; exact fun k h => own_by k h
  have go : ∀ {T : State} {locs : List Loc} {cells slots : Nat} {g : JFrame} {v : Option Value}, Stand p l e ({ frames := 1, cells := 0, slots := 0, locals := 12 } : Room) s m #[(.ref a1), .null, .null, v8, v9, .null, (.ref a6)] below meth c T locs cells slots → (meth.sig.returnType = none → v = none) → (∀ fs, (∀ (f : JFrame) (acts : List Action), f.method = m → f.locked = none → f.entered = [] → (doReturn e (T.setTop f) acts v).1 = T.setFrames fs) → Steps p.tables e below (T.setTop g) (T.setFrames fs)) → (Q_rm5_01 Z a1 v8 v9 a6 h0 n0) v T.heap locs → cells ≤ ({ frames := 1, cells := 0, slots := 0, locals := 12 } : Room).cells → slots ≤ ({ frames := 1, cells := 0, slots := 0, locals := 12 } : Room).slots → G T g := by subst hG; exact fun X h1 h2 h3 h4 h5 => own_out X hlk h1 h2 h3 h4 h5
  show OwnG p e below s ({ frames := 1, cells := 0, slots := 0, locals := 12 } : Room).cells ({ frames := 1, cells := 0, slots := 0, locals := 12 } : Room).slots (Q_rm5_01 Z a1 v8 v9 a6 h0 n0) s₁ (entryFrame m #[(.ref a1), .null, .null, v8, v9, .null, (.ref a6)] 7)
  rw [← hG, ef_rm5_01 m a1 v8 v9 a6 hr_v8 hr_v9]
  clear hG
  show G s₁ (mkF m 0 #[.val (.ref a1), .val .null, .val .null, .val v8, .val v9, .val .null, .val (.ref a6)] [])
  refine gb (fun _ k => XS.aloadN X0.here hx rfl (hb hby d5_0) rfl rfl k) ?_
  show G s₁ (mkF m 1 #[rv a1, .val .null, .val .null, .val v8, .val v9, .val .null, rv a6] [.ref a1])
  obtain ⟨T1, X1, e1, st1⟩ := initO X0 hx hZ hown (ow hw 28 rfl) (ow hw 18 rfl) (ow hw 19 rfl) e0 (g := (mkF m 1 #[rv a1, .val .null, .val .null, .val v8, .val v9, .val .null, rv a6] [.ref a1])) rfl (by rw [hml]; rfl) rfl (hb hby d5_1) (by decide) (W := 0) (by show 2 * 0 + _ ≤ _; exact Nat.le_of_eq rfl) (by decide)
  refine gb st1 ?_
  show G T1 (mkF m 4 #[rv a1, .val .null, .val .null, .val v8, .val v9, .val .null, rv a6] [])
  refine gb (fun _ k => XS.aloadN X1.here hx rfl (hb hby d5_4) rfl rfl (XS.aloadN X1.here hx rfl (hb hby d5_5) rfl rfl (XS.ifnonnullNo X1.here hx rfl (hb hby d5_6) rfl (XS.aconstNull X1.here hx rfl (hb hby d5_9) (XS.goto X1.here hx rfl (pc0 := 10) (pc' := 17) rfl (hb hby d5_10) (by decide) (by decide) k))))) ?_
  show G T1 (mkF m 17 #[rv a1, .val .null, .val .null, .val v8, .val v9, .val .null, rv a6] [.null, .ref a1])
  obtain ⟨T2, h2, X2, e2, W2, st2⟩ := putF X1 hx hZ hown (host := "") (Or.inl (ow hw 29 rfl)) Via.refl e1 F_command E_a1 (Or.inr ⟨(ow hw 30 rfl), rfl, hnm⟩) (ow hw 23 rfl) (ty := (.object "java/util/List")) (by decide) rfl rfl (g := (mkF m 17 #[rv a1, .val .null, .val .null, .val v8, .val v9, .val .null, rv a6] [.null, .ref a1])) rfl rfl (hb hby d5_17)
  refine gb st2 ?_
  have F_command := F_command.same W2
  have E_a1 := E_a1.wr W2
  have F_payload := F_payload.other W2 (Or.inr (slot_ne (Or.inr (ow hw 32 rfl)) (Or.inr (ow hw 30 rfl)) (by decide) (t := (.object "java/lang/String")) (t' := (.object "java/util/List")) (by decide) (by decide)))
  have F_maxAttempts := F_maxAttempts.other W2 (Or.inr (slot_ne (Or.inr (ow hw 34 rfl)) (Or.inr (ow hw 30 rfl)) (by decide) (t := (.object "java/lang/Long")) (t' := (.object "java/util/List")) (by decide) (by decide)))
  have F_timeLimitMs := F_timeLimitMs.other W2 (Or.inr (slot_ne (Or.inr (ow hw 36 rfl)) (Or.inr (ow hw 30 rfl)) (by decide) (t := (.object "java/lang/Long")) (t' := (.object "java/util/List")) (by decide) (by decide)))
  have F_priority := F_priority.other W2 (Or.inr (slot_ne (Or.inr (ow hw 43 rfl)) (Or.inr (ow hw 30 rfl)) (by decide) (t := .long) (t' := (.object "java/util/List")) (by decide) (by decide)))
  have F_delayMs := F_delayMs.other W2 (Or.inr (slot_ne (Or.inr (ow hw 45 rfl)) (Or.inr (ow hw 30 rfl)) (by decide) (t := (.object "java/lang/Long")) (t' := (.object "java/util/List")) (by decide) (by decide)))
  have O := O.wr W2 g_a1
  have K := K.wr W2 (Or.inl (List.mem_of_getElem? (i := 0) rfl))
  have N := Fr.snoc X2 N g_a1
  show G T2 (mkF m 20 #[rv a1, .val .null, .val .null, .val v8, .val v9, .val .null, rv a6] [])
  refine gb (fun _ k => XS.aloadN X2.here hx rfl (hb hby d5_20) rfl rfl (XS.aloadN X2.here hx rfl (hb hby d5_21) rfl rfl k)) ?_
  show G T2 (mkF m 22 #[rv a1, .val .null, .val .null, .val v8, .val v9, .val .null, rv a6] [.null, .ref a1])
  obtain ⟨T3, h3, X3, e3, W3, st3⟩ := putF X2 hx hZ hown (host := "") (Or.inl (ow hw 31 rfl)) Via.refl e2 F_payload E_a1 (Or.inr ⟨(ow hw 32 rfl), rfl, hnm⟩) (ow hw 23 rfl) (ty := (.object "java/lang/String")) (by decide) rfl rfl (g := (mkF m 22 #[rv a1, .val .null, .val .null, .val v8, .val v9, .val .null, rv a6] [.null, .ref a1])) rfl rfl (hb hby d5_22)
  refine gb st3 ?_
  have F_payload := F_payload.same W3
  have E_a1 := E_a1.wr W3
  have F_maxAttempts := F_maxAttempts.other W3 (Or.inr (slot_ne (Or.inr (ow hw 34 rfl)) (Or.inr (ow hw 32 rfl)) (by decide) (t := (.object "java/lang/Long")) (t' := (.object "java/lang/String")) (by decide) (by decide)))
  have F_timeLimitMs := F_timeLimitMs.other W3 (Or.inr (slot_ne (Or.inr (ow hw 36 rfl)) (Or.inr (ow hw 32 rfl)) (by decide) (t := (.object "java/lang/Long")) (t' := (.object "java/lang/String")) (by decide) (by decide)))
  have F_priority := F_priority.other W3 (Or.inr (slot_ne (Or.inr (ow hw 43 rfl)) (Or.inr (ow hw 32 rfl)) (by decide) (t := .long) (t' := (.object "java/lang/String")) (by decide) (by decide)))
  have F_delayMs := F_delayMs.other W3 (Or.inr (slot_ne (Or.inr (ow hw 45 rfl)) (Or.inr (ow hw 32 rfl)) (by decide) (t := (.object "java/lang/Long")) (t' := (.object "java/lang/String")) (by decide) (by decide)))
  have F_command := F_command.other W3 (Or.inr (slot_ne (Or.inr (ow hw 30 rfl)) (Or.inr (ow hw 32 rfl)) (by decide) (t := (.object "java/util/List")) (t' := (.object "java/lang/String")) (by decide) (by decide)))
  have O := O.wr W3 g_a1
  have K := K.wr W3 (Or.inl (List.mem_of_getElem? (i := 0) rfl))
  have N := Fr.snoc X3 N g_a1
  show G T3 (mkF m 25 #[rv a1, .val .null, .val .null, .val v8, .val v9, .val .null, rv a6] [])
  refine gb (fun _ k => XS.aloadN X3.here hx rfl (hb hby d5_25) rfl rfl (XS.aloadN X3.here hx rfl (hb hby d5_26) rfl hr_v8 k)) ?_
  show G T3 (mkF m 27 #[rv a1, .val .null, .val .null, .val v8, .val v9, .val .null, rv a6] [v8, .ref a1])
  obtain ⟨T4, h4, X4, e4, W4, st4⟩ := putF X3 hx hZ hown (host := "") (Or.inl (ow hw 33 rfl)) Via.refl e3 F_maxAttempts E_a1 (Or.inr ⟨(ow hw 34 rfl), rfl, hnm⟩) (ow hw 23 rfl) (ty := (.object "java/lang/Long")) (by decide) (own_narR hr_v8) (own_fitR hr_v8) (g := (mkF m 27 #[rv a1, .val .null, .val .null, .val v8, .val v9, .val .null, rv a6] [v8, .ref a1])) rfl rfl (hb hby d5_27)
  refine gb st4 ?_
  have F_maxAttempts := F_maxAttempts.same W4
  have E_a1 := E_a1.wr W4
  have F_timeLimitMs := F_timeLimitMs.other W4 (Or.inr (slot_ne (Or.inr (ow hw 36 rfl)) (Or.inr (ow hw 34 rfl)) (by decide) (t := (.object "java/lang/Long")) (t' := (.object "java/lang/Long")) (by decide) (by decide)))
  have F_priority := F_priority.other W4 (Or.inr (slot_ne (Or.inr (ow hw 43 rfl)) (Or.inr (ow hw 34 rfl)) (by decide) (t := .long) (t' := (.object "java/lang/Long")) (by decide) (by decide)))
  have F_delayMs := F_delayMs.other W4 (Or.inr (slot_ne (Or.inr (ow hw 45 rfl)) (Or.inr (ow hw 34 rfl)) (by decide) (t := (.object "java/lang/Long")) (t' := (.object "java/lang/Long")) (by decide) (by decide)))
  have F_command := F_command.other W4 (Or.inr (slot_ne (Or.inr (ow hw 30 rfl)) (Or.inr (ow hw 34 rfl)) (by decide) (t := (.object "java/util/List")) (t' := (.object "java/lang/Long")) (by decide) (by decide)))
  have F_payload := F_payload.other W4 (Or.inr (slot_ne (Or.inr (ow hw 32 rfl)) (Or.inr (ow hw 34 rfl)) (by decide) (t := (.object "java/lang/String")) (t' := (.object "java/lang/Long")) (by decide) (by decide)))
  have O := O.wr W4 g_a1
  have K := K.wr W4 (Or.inl (List.mem_of_getElem? (i := 0) rfl))
  have N := Fr.snoc X4 N g_a1
  show G T4 (mkF m 30 #[rv a1, .val .null, .val .null, .val v8, .val v9, .val .null, rv a6] [])
  refine gb (fun _ k => XS.aloadN X4.here hx rfl (hb hby d5_30) rfl rfl (XS.aload X4.here hx rfl (hb hby d5_31) rfl hr_v9 k)) ?_
  show G T4 (mkF m 33 #[rv a1, .val .null, .val .null, .val v8, .val v9, .val .null, rv a6] [v9, .ref a1])
  obtain ⟨T5, h5, X5, e5, W5, st5⟩ := putF X4 hx hZ hown (host := "") (Or.inl (ow hw 35 rfl)) Via.refl e4 F_timeLimitMs E_a1 (Or.inr ⟨(ow hw 36 rfl), rfl, hnm⟩) (ow hw 23 rfl) (ty := (.object "java/lang/Long")) (by decide) (own_narR hr_v9) (own_fitR hr_v9) (g := (mkF m 33 #[rv a1, .val .null, .val .null, .val v8, .val v9, .val .null, rv a6] [v9, .ref a1])) rfl rfl (hb hby d5_33)
  refine gb st5 ?_
  have F_timeLimitMs := F_timeLimitMs.same W5
  have E_a1 := E_a1.wr W5
  have F_priority := F_priority.other W5 (Or.inr (slot_ne (Or.inr (ow hw 43 rfl)) (Or.inr (ow hw 36 rfl)) (by decide) (t := .long) (t' := (.object "java/lang/Long")) (by decide) (by decide)))
  have F_delayMs := F_delayMs.other W5 (Or.inr (slot_ne (Or.inr (ow hw 45 rfl)) (Or.inr (ow hw 36 rfl)) (by decide) (t := (.object "java/lang/Long")) (t' := (.object "java/lang/Long")) (by decide) (by decide)))
  have F_command := F_command.other W5 (Or.inr (slot_ne (Or.inr (ow hw 30 rfl)) (Or.inr (ow hw 36 rfl)) (by decide) (t := (.object "java/util/List")) (t' := (.object "java/lang/Long")) (by decide) (by decide)))
  have F_payload := F_payload.other W5 (Or.inr (slot_ne (Or.inr (ow hw 32 rfl)) (Or.inr (ow hw 36 rfl)) (by decide) (t := (.object "java/lang/String")) (t' := (.object "java/lang/Long")) (by decide) (by decide)))
  have F_maxAttempts := F_maxAttempts.other W5 (Or.inr (slot_ne (Or.inr (ow hw 34 rfl)) (Or.inr (ow hw 36 rfl)) (by decide) (t := (.object "java/lang/Long")) (t' := (.object "java/lang/Long")) (by decide) (by decide)))
  have O := O.wr W5 g_a1
  have K := K.wr W5 (Or.inl (List.mem_of_getElem? (i := 0) rfl))
  have N := Fr.snoc X5 N g_a1
  show G T5 (mkF m 36 #[rv a1, .val .null, .val .null, .val v8, .val v9, .val .null, rv a6] [])
  refine gb (fun _ k => XS.aloadN X5.here hx rfl (hb hby d5_36) rfl rfl (XS.aload X5.here hx rfl (hb hby d5_37) rfl rfl (XS.ifnonnullNo X5.here hx rfl (hb hby d5_39) rfl k))) ?_
  show G T5 (mkF m 42 #[rv a1, .val .null, .val .null, .val v8, .val v9, .val .null, rv a6] [.ref a1])
  refine gb (X5.ldc2Long hx hown (mvT hZ (ow hw 54 rfl)) (g := (mkF m 42 #[rv a1, .val .null, .val .null, .val v8, .val v9, .val .null, rv a6] [.ref a1])) rfl (hb hby d5_42)) ?_
  show G T5 (mkF m 45 #[rv a1, .val .null, .val .null, .val v8, .val v9, .val .null, rv a6] [.long 2147483648, .ref a1])
  refine gb (fun _ k => XS.goto X5.here hx rfl (pc0 := 45) (pc' := 53) rfl (hb hby d5_45) (by decide) (by decide) k) ?_
  show G T5 (mkF m 53 #[rv a1, .val .null, .val .null, .val v8, .val v9, .val .null, rv a6] [.long 2147483648, .ref a1])
  obtain ⟨T6, h6, X6, e6, W6, st6⟩ := putF X5 hx hZ hown (host := "") (Or.inl (ow hw 42 rfl)) Via.refl e5 F_priority E_a1 (Or.inr ⟨(ow hw 43 rfl), rfl, hnm⟩) (ow hw 23 rfl) (ty := .long) (by decide) rfl rfl (g := (mkF m 53 #[rv a1, .val .null, .val .null, .val v8, .val v9, .val .null, rv a6] [.long 2147483648, .ref a1])) rfl rfl (hb hby d5_53)
  refine gb st6 ?_
  have F_priority := F_priority.same W6
  have E_a1 := E_a1.wr W6
  have F_delayMs := F_delayMs.other W6 (Or.inr (slot_ne (Or.inr (ow hw 45 rfl)) (Or.inr (ow hw 43 rfl)) (by decide) (t := (.object "java/lang/Long")) (t' := .long) (by decide) (by decide)))
  have F_command := F_command.other W6 (Or.inr (slot_ne (Or.inr (ow hw 30 rfl)) (Or.inr (ow hw 43 rfl)) (by decide) (t := (.object "java/util/List")) (t' := .long) (by decide) (by decide)))
  have F_payload := F_payload.other W6 (Or.inr (slot_ne (Or.inr (ow hw 32 rfl)) (Or.inr (ow hw 43 rfl)) (by decide) (t := (.object "java/lang/String")) (t' := .long) (by decide) (by decide)))
  have F_maxAttempts := F_maxAttempts.other W6 (Or.inr (slot_ne (Or.inr (ow hw 34 rfl)) (Or.inr (ow hw 43 rfl)) (by decide) (t := (.object "java/lang/Long")) (t' := .long) (by decide) (by decide)))
  have F_timeLimitMs := F_timeLimitMs.other W6 (Or.inr (slot_ne (Or.inr (ow hw 36 rfl)) (Or.inr (ow hw 43 rfl)) (by decide) (t := (.object "java/lang/Long")) (t' := .long) (by decide) (by decide)))
  have O := O.wr W6 g_a1
  have K := K.wr W6 (Or.inl (List.mem_of_getElem? (i := 0) rfl))
  have N := Fr.snoc X6 N g_a1
  show G T6 (mkF m 56 #[rv a1, .val .null, .val .null, .val v8, .val v9, .val .null, rv a6] [])
  refine gb (fun _ k => XS.aloadN X6.here hx rfl (hb hby d5_56) rfl rfl (XS.aload X6.here hx rfl (hb hby d5_57) rfl rfl k)) ?_
  show G T6 (mkF m 59 #[rv a1, .val .null, .val .null, .val v8, .val v9, .val .null, rv a6] [.ref a6, .ref a1])
  obtain ⟨T7, h7, X7, e7, W7, st7⟩ := putF X6 hx hZ hown (host := "") (Or.inl (ow hw 44 rfl)) Via.refl e6 F_delayMs E_a1 (Or.inr ⟨(ow hw 45 rfl), rfl, hnm⟩) (ow hw 23 rfl) (ty := (.object "java/lang/Long")) (by decide) rfl rfl (g := (mkF m 59 #[rv a1, .val .null, .val .null, .val v8, .val v9, .val .null, rv a6] [.ref a6, .ref a1])) rfl rfl (hb hby d5_59)
  refine gb st7 ?_
  have F_delayMs := F_delayMs.same W7
  have E_a1 := E_a1.wr W7
  have F_command := F_command.other W7 (Or.inr (slot_ne (Or.inr (ow hw 30 rfl)) (Or.inr (ow hw 45 rfl)) (by decide) (t := (.object "java/util/List")) (t' := (.object "java/lang/Long")) (by decide) (by decide)))
  have F_payload := F_payload.other W7 (Or.inr (slot_ne (Or.inr (ow hw 32 rfl)) (Or.inr (ow hw 45 rfl)) (by decide) (t := (.object "java/lang/String")) (t' := (.object "java/lang/Long")) (by decide) (by decide)))
  have F_maxAttempts := F_maxAttempts.other W7 (Or.inr (slot_ne (Or.inr (ow hw 34 rfl)) (Or.inr (ow hw 45 rfl)) (by decide) (t := (.object "java/lang/Long")) (t' := (.object "java/lang/Long")) (by decide) (by decide)))
  have F_timeLimitMs := F_timeLimitMs.other W7 (Or.inr (slot_ne (Or.inr (ow hw 36 rfl)) (Or.inr (ow hw 45 rfl)) (by decide) (t := (.object "java/lang/Long")) (t' := (.object "java/lang/Long")) (by decide) (by decide)))
  have F_priority := F_priority.other W7 (Or.inr (slot_ne (Or.inr (ow hw 43 rfl)) (Or.inr (ow hw 45 rfl)) (by decide) (t := .long) (t' := (.object "java/lang/Long")) (by decide) (by decide)))
  have O := O.wr W7 g_a1
  have K := K.wr W7 (Or.inl (List.mem_of_getElem? (i := 0) rfl))
  have N := Fr.snoc X7 N g_a1
  show G T7 (mkF m 62 #[rv a1, .val .null, .val .null, .val v8, .val v9, .val .null, rv a6] [])
  exact go X7 (v := none) (fun _ => rfl) (fun fs hr => X7.returnOut hx Bd.returns (hb hby d5_62) hr) (by rw [e7]; exact ⟨rfl, N, K, E_a1, F_delayMs⟩) (by decide) (by decide)
def Q_rm5_10 (Z : State) (a1 : Addr) (v8 v9 : Value) (a5 : Addr) (q5 : Int64) (h0 : Heap) (n0 : Nat) : Option Value → Heap → List Loc → Prop := fun v h L => v = none ∧ Fr n0 L ∧ Keep h0 h [a1] ∧ Exa Z h a1 "com/example/equipe/equipe/JobSpec" ∧ Fld Z h a1 "com/example/equipe/equipe/JobSpec" "delayMs" "Ljava/lang/Long;" .null
set_option maxRecDepth 65536 in
set_option maxHeartbeats 40000000 in
theorem rm5_10 (l : Launch) (Z : State) (a0 : Array Value) (hw : ∀ d ∈ tables_1, d.before a0 Z = true) (ws : List Jvm.Cond) (a1 : Addr) (v8 v9 : Value) (a5 : Addr) (q5 : Int64) (h0 : Heap) (n0 : Nat) (O : Old Z n0 h0) (hr_v8 : v8.isRef = true) (hr_v9 : v9.isRef = true) (E_a1 : Exa Z h0 a1 "com/example/equipe/equipe/JobSpec") (F_command : Fld Z h0 a1 "com/example/equipe/equipe/JobSpec" "command" "Ljava/util/List;" .null) (F_payload : Fld Z h0 a1 "com/example/equipe/equipe/JobSpec" "payload" "Ljava/lang/String;" .null) (F_maxAttempts : Fld Z h0 a1 "com/example/equipe/equipe/JobSpec" "maxAttempts" "Ljava/lang/Long;" .null) (F_timeLimitMs : Fld Z h0 a1 "com/example/equipe/equipe/JobSpec" "timeLimitMs" "Ljava/lang/Long;" .null) (F_priority : Fld Z h0 a1 "com/example/equipe/equipe/JobSpec" "priority" "J" (.long (0 : Int64))) (F_delayMs : Fld Z h0 a1 "com/example/equipe/equipe/JobSpec" "delayMs" "Ljava/lang/Long;" .null) (g_a1 : n0 ≤ a1) (E_a5 : Exa Z h0 a5 "java/lang/Long") (F_v5 : Fld Z h0 a5 "java/lang/Long" "value" "J" (.long q5)) (ne_a5_a1 : a5 ≠ a1) :
    MetFree l (⟨"com/example/equipe/equipe/JobSpec", "<init>", "(Ljava/util/List;Ljava/lang/String;Ljava/lang/Long;Ljava/lang/Long;Ljava/lang/Long;Ljava/lang/Long;)V"⟩ : MethodName) (head1 (Jvm.Cond.code (⟨"com/example/equipe/equipe/JobSpec", "<init>", "(Ljava/util/List;Ljava/lang/String;Ljava/lang/Long;Ljava/lang/Long;Ljava/lang/Long;Ljava/lang/Long;)V"⟩ : MethodName) prog_7_method_1_code 7 none :: ws) ({ frames := 1, cells := 0, slots := 0, locals := 13 } : Room)) (fun a U => a = #[(.ref a1), .null, .null, v8, v9, (.ref a5), .null] ∧ Z.Warmed39 U.vm ∧ U.heap = h0) (fun _ _ _ _ _ => True) (fun _ U o U' => ∃ v L, o = .returned v ∧ (Q_rm5_10 Z a1 v8 v9 a5 q5 h0 n0) v U'.heap L ∧ FrameEnd U o U' L ({ frames := 1, cells := 0, slots := 0, locals := 13 } : Room).cells ({ frames := 1, cells := 0, slots := 0, locals := 13 } : Room).slots) := by
  refine MetFree.of_bodySF (plainFor_of_name pn_2) hisR ?_
  intro p e s m args below meth c s₁ Bd hml0 hP hK
  obtain ⟨rfl, hZ, hh⟩ := hP
  have hx := Bd.exec
  have hby := Bd.bytes
  have hml : c.maxLocals = 7 := hml0
  have hown : s.vm.findClass "com/example/equipe/equipe/JobSpec" = some m.cls := findClass_of_methodNamed Bd.named
  have hnm := (name_of_methodNamed Bd.named Bd.method).1
  have hlk := BodyLoose.notSynchronized Bd
  have X0 : Stand p l e ({ frames := 1, cells := 0, slots := 0, locals := 13 } : Room) s m #[(.ref a1), .null, .null, v8, v9, (.ref a5), .null] below meth c s₁ [] 0 0 := Stand.of_body Bd
  have e0 : s₁.heap = h0 := by rw [← hh, Bd.state]; rfl
  have N := Fr.nil n0
  have K := Keep.refl h0 [a1]
  obtain ⟨G, hG⟩ : ∃ G : State → JFrame → Prop, G = OwnG p e below s ({ frames := 1, cells := 0, slots := 0, locals := 13 } : Room).cells ({ frames := 1, cells := 0, slots := 0, locals := 13 } : Room).slots (Q_rm5_10 Z a1 v8 v9 a5 q5 h0 n0) := ⟨_, rfl⟩
  have gb : ∀ {T T' : State} {g g' : JFrame}, (∀ t, Steps p.tables e below (T'.setTop g') t → Steps p.tables e below (T.setTop g) t) → G T' g' → G T g := by subst hG; exact fun k h => own_by k h
  have go : ∀ {T : State} {locs : List Loc} {cells slots : Nat} {g : JFrame} {v : Option Value}, Stand p l e ({ frames := 1, cells := 0, slots := 0, locals := 13 } : Room) s m #[(.ref a1), .null, .null, v8, v9, (.ref a5), .null] below meth c T locs cells slots → (meth.sig.returnType = none → v = none) → (∀ fs, (∀ (f : JFrame) (acts : List Action), f.method = m → f.locked = none → f.entered = [] → (doReturn e (T.setTop f) acts v).1 = T.setFrames fs) → Steps p.tables e below (T.setTop g) (T.setFrames fs)) → (Q_rm5_10 Z a1 v8 v9 a5 q5 h0 n0) v T.heap locs → cells ≤ ({ frames := 1, cells := 0, slots := 0, locals := 13 } : Room).cells → slots ≤ ({ frames := 1, cells := 0, slots := 0, locals := 13 } : Room).slots → G T g := by subst hG; exact fun X h1 h2 h3 h4 h5 => own_out X hlk h1 h2 h3 h4 h5
  show OwnG p e below s ({ frames := 1, cells := 0, slots := 0, locals := 13 } : Room).cells ({ frames := 1, cells := 0, slots := 0, locals := 13 } : Room).slots (Q_rm5_10 Z a1 v8 v9 a5 q5 h0 n0) s₁ (entryFrame m #[(.ref a1), .null, .null, v8, v9, (.ref a5), .null] 7)
  rw [← hG, ef_rm5_10 m a1 v8 v9 a5 hr_v8 hr_v9]
  clear hG
  show G s₁ (mkF m 0 #[.val (.ref a1), .val .null, .val .null, .val v8, .val v9, .val (.ref a5), .val .null] [])
  refine gb (fun _ k => XS.aloadN X0.here hx rfl (hb hby d5_0) rfl rfl k) ?_
  show G s₁ (mkF m 1 #[rv a1, .val .null, .val .null, .val v8, .val v9, rv a5, .val .null] [.ref a1])
  obtain ⟨T1, X1, e1, st1⟩ := initO X0 hx hZ hown (ow hw 28 rfl) (ow hw 18 rfl) (ow hw 19 rfl) e0 (g := (mkF m 1 #[rv a1, .val .null, .val .null, .val v8, .val v9, rv a5, .val .null] [.ref a1])) rfl (by rw [hml]; rfl) rfl (hb hby d5_1) (by decide) (W := 0) (by show 2 * 0 + _ ≤ _; exact Nat.le_of_eq rfl) (by decide)
  refine gb st1 ?_
  show G T1 (mkF m 4 #[rv a1, .val .null, .val .null, .val v8, .val v9, rv a5, .val .null] [])
  refine gb (fun _ k => XS.aloadN X1.here hx rfl (hb hby d5_4) rfl rfl (XS.aloadN X1.here hx rfl (hb hby d5_5) rfl rfl (XS.ifnonnullNo X1.here hx rfl (hb hby d5_6) rfl (XS.aconstNull X1.here hx rfl (hb hby d5_9) (XS.goto X1.here hx rfl (pc0 := 10) (pc' := 17) rfl (hb hby d5_10) (by decide) (by decide) k))))) ?_
  show G T1 (mkF m 17 #[rv a1, .val .null, .val .null, .val v8, .val v9, rv a5, .val .null] [.null, .ref a1])
  obtain ⟨T2, h2, X2, e2, W2, st2⟩ := putF X1 hx hZ hown (host := "") (Or.inl (ow hw 29 rfl)) Via.refl e1 F_command E_a1 (Or.inr ⟨(ow hw 30 rfl), rfl, hnm⟩) (ow hw 23 rfl) (ty := (.object "java/util/List")) (by decide) rfl rfl (g := (mkF m 17 #[rv a1, .val .null, .val .null, .val v8, .val v9, rv a5, .val .null] [.null, .ref a1])) rfl rfl (hb hby d5_17)
  refine gb st2 ?_
  have F_command := F_command.same W2
  have E_a1 := E_a1.wr W2
  have F_payload := F_payload.other W2 (Or.inr (slot_ne (Or.inr (ow hw 32 rfl)) (Or.inr (ow hw 30 rfl)) (by decide) (t := (.object "java/lang/String")) (t' := (.object "java/util/List")) (by decide) (by decide)))
  have F_maxAttempts := F_maxAttempts.other W2 (Or.inr (slot_ne (Or.inr (ow hw 34 rfl)) (Or.inr (ow hw 30 rfl)) (by decide) (t := (.object "java/lang/Long")) (t' := (.object "java/util/List")) (by decide) (by decide)))
  have F_timeLimitMs := F_timeLimitMs.other W2 (Or.inr (slot_ne (Or.inr (ow hw 36 rfl)) (Or.inr (ow hw 30 rfl)) (by decide) (t := (.object "java/lang/Long")) (t' := (.object "java/util/List")) (by decide) (by decide)))
  have F_priority := F_priority.other W2 (Or.inr (slot_ne (Or.inr (ow hw 43 rfl)) (Or.inr (ow hw 30 rfl)) (by decide) (t := .long) (t' := (.object "java/util/List")) (by decide) (by decide)))
  have F_delayMs := F_delayMs.other W2 (Or.inr (slot_ne (Or.inr (ow hw 45 rfl)) (Or.inr (ow hw 30 rfl)) (by decide) (t := (.object "java/lang/Long")) (t' := (.object "java/util/List")) (by decide) (by decide)))
  have E_a5 := E_a5.wr W2
  have F_v5 := F_v5.other W2 (Or.inl ne_a5_a1)
  have O := O.wr W2 g_a1
  have K := K.wr W2 (Or.inl (List.mem_of_getElem? (i := 0) rfl))
  have N := Fr.snoc X2 N g_a1
  show G T2 (mkF m 20 #[rv a1, .val .null, .val .null, .val v8, .val v9, rv a5, .val .null] [])
  refine gb (fun _ k => XS.aloadN X2.here hx rfl (hb hby d5_20) rfl rfl (XS.aloadN X2.here hx rfl (hb hby d5_21) rfl rfl k)) ?_
  show G T2 (mkF m 22 #[rv a1, .val .null, .val .null, .val v8, .val v9, rv a5, .val .null] [.null, .ref a1])
  obtain ⟨T3, h3, X3, e3, W3, st3⟩ := putF X2 hx hZ hown (host := "") (Or.inl (ow hw 31 rfl)) Via.refl e2 F_payload E_a1 (Or.inr ⟨(ow hw 32 rfl), rfl, hnm⟩) (ow hw 23 rfl) (ty := (.object "java/lang/String")) (by decide) rfl rfl (g := (mkF m 22 #[rv a1, .val .null, .val .null, .val v8, .val v9, rv a5, .val .null] [.null, .ref a1])) rfl rfl (hb hby d5_22)
  refine gb st3 ?_
  have F_payload := F_payload.same W3
  have E_a1 := E_a1.wr W3
  have F_maxAttempts := F_maxAttempts.other W3 (Or.inr (slot_ne (Or.inr (ow hw 34 rfl)) (Or.inr (ow hw 32 rfl)) (by decide) (t := (.object "java/lang/Long")) (t' := (.object "java/lang/String")) (by decide) (by decide)))
  have F_timeLimitMs := F_timeLimitMs.other W3 (Or.inr (slot_ne (Or.inr (ow hw 36 rfl)) (Or.inr (ow hw 32 rfl)) (by decide) (t := (.object "java/lang/Long")) (t' := (.object "java/lang/String")) (by decide) (by decide)))
  have F_priority := F_priority.other W3 (Or.inr (slot_ne (Or.inr (ow hw 43 rfl)) (Or.inr (ow hw 32 rfl)) (by decide) (t := .long) (t' := (.object "java/lang/String")) (by decide) (by decide)))
  have F_delayMs := F_delayMs.other W3 (Or.inr (slot_ne (Or.inr (ow hw 45 rfl)) (Or.inr (ow hw 32 rfl)) (by decide) (t := (.object "java/lang/Long")) (t' := (.object "java/lang/String")) (by decide) (by decide)))
  have E_a5 := E_a5.wr W3
  have F_v5 := F_v5.other W3 (Or.inl ne_a5_a1)
  have F_command := F_command.other W3 (Or.inr (slot_ne (Or.inr (ow hw 30 rfl)) (Or.inr (ow hw 32 rfl)) (by decide) (t := (.object "java/util/List")) (t' := (.object "java/lang/String")) (by decide) (by decide)))
  have O := O.wr W3 g_a1
  have K := K.wr W3 (Or.inl (List.mem_of_getElem? (i := 0) rfl))
  have N := Fr.snoc X3 N g_a1
  show G T3 (mkF m 25 #[rv a1, .val .null, .val .null, .val v8, .val v9, rv a5, .val .null] [])
  refine gb (fun _ k => XS.aloadN X3.here hx rfl (hb hby d5_25) rfl rfl (XS.aloadN X3.here hx rfl (hb hby d5_26) rfl hr_v8 k)) ?_
  show G T3 (mkF m 27 #[rv a1, .val .null, .val .null, .val v8, .val v9, rv a5, .val .null] [v8, .ref a1])
  obtain ⟨T4, h4, X4, e4, W4, st4⟩ := putF X3 hx hZ hown (host := "") (Or.inl (ow hw 33 rfl)) Via.refl e3 F_maxAttempts E_a1 (Or.inr ⟨(ow hw 34 rfl), rfl, hnm⟩) (ow hw 23 rfl) (ty := (.object "java/lang/Long")) (by decide) (own_narR hr_v8) (own_fitR hr_v8) (g := (mkF m 27 #[rv a1, .val .null, .val .null, .val v8, .val v9, rv a5, .val .null] [v8, .ref a1])) rfl rfl (hb hby d5_27)
  refine gb st4 ?_
  have F_maxAttempts := F_maxAttempts.same W4
  have E_a1 := E_a1.wr W4
  have F_timeLimitMs := F_timeLimitMs.other W4 (Or.inr (slot_ne (Or.inr (ow hw 36 rfl)) (Or.inr (ow hw 34 rfl)) (by decide) (t := (.object "java/lang/Long")) (t' := (.object "java/lang/Long")) (by decide) (by decide)))
  have F_priority := F_priority.other W4 (Or.inr (slot_ne (Or.inr (ow hw 43 rfl)) (Or.inr (ow hw 34 rfl)) (by decide) (t := .long) (t' := (.object "java/lang/Long")) (by decide) (by decide)))
  have F_delayMs := F_delayMs.other W4 (Or.inr (slot_ne (Or.inr (ow hw 45 rfl)) (Or.inr (ow hw 34 rfl)) (by decide) (t := (.object "java/lang/Long")) (t' := (.object "java/lang/Long")) (by decide) (by decide)))
  have E_a5 := E_a5.wr W4
  have F_v5 := F_v5.other W4 (Or.inl ne_a5_a1)
  have F_command := F_command.other W4 (Or.inr (slot_ne (Or.inr (ow hw 30 rfl)) (Or.inr (ow hw 34 rfl)) (by decide) (t := (.object "java/util/List")) (t' := (.object "java/lang/Long")) (by decide) (by decide)))
  have F_payload := F_payload.other W4 (Or.inr (slot_ne (Or.inr (ow hw 32 rfl)) (Or.inr (ow hw 34 rfl)) (by decide) (t := (.object "java/lang/String")) (t' := (.object "java/lang/Long")) (by decide) (by decide)))
  have O := O.wr W4 g_a1
  have K := K.wr W4 (Or.inl (List.mem_of_getElem? (i := 0) rfl))
  have N := Fr.snoc X4 N g_a1
  show G T4 (mkF m 30 #[rv a1, .val .null, .val .null, .val v8, .val v9, rv a5, .val .null] [])
  refine gb (fun _ k => XS.aloadN X4.here hx rfl (hb hby d5_30) rfl rfl (XS.aload X4.here hx rfl (hb hby d5_31) rfl hr_v9 k)) ?_
  show G T4 (mkF m 33 #[rv a1, .val .null, .val .null, .val v8, .val v9, rv a5, .val .null] [v9, .ref a1])
  obtain ⟨T5, h5, X5, e5, W5, st5⟩ := putF X4 hx hZ hown (host := "") (Or.inl (ow hw 35 rfl)) Via.refl e4 F_timeLimitMs E_a1 (Or.inr ⟨(ow hw 36 rfl), rfl, hnm⟩) (ow hw 23 rfl) (ty := (.object "java/lang/Long")) (by decide) (own_narR hr_v9) (own_fitR hr_v9) (g := (mkF m 33 #[rv a1, .val .null, .val .null, .val v8, .val v9, rv a5, .val .null] [v9, .ref a1])) rfl rfl (hb hby d5_33)
  refine gb st5 ?_
  have F_timeLimitMs := F_timeLimitMs.same W5
  have E_a1 := E_a1.wr W5
  have F_priority := F_priority.other W5 (Or.inr (slot_ne (Or.inr (ow hw 43 rfl)) (Or.inr (ow hw 36 rfl)) (by decide) (t := .long) (t' := (.object "java/lang/Long")) (by decide) (by decide)))
  have F_delayMs := F_delayMs.other W5 (Or.inr (slot_ne (Or.inr (ow hw 45 rfl)) (Or.inr (ow hw 36 rfl)) (by decide) (t := (.object "java/lang/Long")) (t' := (.object "java/lang/Long")) (by decide) (by decide)))
  have E_a5 := E_a5.wr W5
  have F_v5 := F_v5.other W5 (Or.inl ne_a5_a1)
  have F_command := F_command.other W5 (Or.inr (slot_ne (Or.inr (ow hw 30 rfl)) (Or.inr (ow hw 36 rfl)) (by decide) (t := (.object "java/util/List")) (t' := (.object "java/lang/Long")) (by decide) (by decide)))
  have F_payload := F_payload.other W5 (Or.inr (slot_ne (Or.inr (ow hw 32 rfl)) (Or.inr (ow hw 36 rfl)) (by decide) (t := (.object "java/lang/String")) (t' := (.object "java/lang/Long")) (by decide) (by decide)))
  have F_maxAttempts := F_maxAttempts.other W5 (Or.inr (slot_ne (Or.inr (ow hw 34 rfl)) (Or.inr (ow hw 36 rfl)) (by decide) (t := (.object "java/lang/Long")) (t' := (.object "java/lang/Long")) (by decide) (by decide)))
  have O := O.wr W5 g_a1
  have K := K.wr W5 (Or.inl (List.mem_of_getElem? (i := 0) rfl))
  have N := Fr.snoc X5 N g_a1
  show G T5 (mkF m 36 #[rv a1, .val .null, .val .null, .val v8, .val v9, rv a5, .val .null] [])
  refine gb (fun _ k => XS.aloadN X5.here hx rfl (hb hby d5_36) rfl rfl (XS.aload X5.here hx rfl (hb hby d5_37) rfl rfl (XS.ifnonnullYes X5.here hx rfl (pc0 := 39) (pc' := 48) rfl (hb hby d5_39) rfl (by decide) (by decide) (XS.aload X5.here hx rfl (hb hby d5_48) rfl rfl k)))) ?_
  show G T5 (mkF m 50 #[rv a1, .val .null, .val .null, .val v8, .val v9, rv a5, .val .null] [.ref a5, .ref a1])
  obtain ⟨cq6, kq6, q6a, q6b, q6c⟩ := isOf hZ e5 E_a5
  obtain ⟨_, _, ⟨T6, Lz6, kz6, nz6⟩, -, X6, ⟨Lc6, hQ6, lq6, yq6, zq6⟩, st6⟩ := X5.virtualBack hx (y := (⟨"java/lang/Long", "longValue", "()J"⟩ : MethodName)) (z := (⟨"java/lang/Long", "longValue", "()J"⟩ : MethodName)) hown (mvT hZ (ow hw 37 rfl)) (mvT hZ (ow hw 38 rfl)) (notFace_of_selects (args := #[]) (mvT hZ (ow hw 40 rfl))) (mvT hZ (ow hw 40 rfl)) (mvT hZ (ow hw 39 rfl)) (by decide) (backOf (W := 1) (rm6 l Z a0 hw [] a5 q5 h5 n0 O F_v5) hZ (ow hw 41 rfl) (ow hw 2 rfl) (by decide) (by decide)) q6a q6c (g := (mkF m 50 #[rv a1, .val .null, .val .null, .val v8, .val v9, rv a5, .val .null] [.ref a5, .ref a1])) rfl (by rw [hml]; rfl) (Steps.refl _) (argsL := []) (rest := [(.ref a1)]) (lenOf pd_2 rfl) rfl (by show 2 * 0 + _ ≤ _; exact Nat.le_of_eq rfl) (hb hby d5_50) (fun _ _ => ⟨rfl, e5, (by decide : 0 + 0 ≤ _), (by decide : 0 + 0 ≤ _)⟩)
  dsimp only [Pt.U, Pt.locs, Pt.cells, Pt.slots] at X6 lq6 yq6 zq6 st6 hQ6
  subst lq6 yq6 zq6
  obtain ⟨rfl, rfl, e6⟩ := hQ6
  try rw [List.append_nil] at X6
  refine gb (fun _ k => st6.trans k) ?_
  show G T6 (mkF m 53 #[rv a1, .val .null, .val .null, .val v8, .val v9, rv a5, .val .null] [.long q5, .ref a1])
  obtain ⟨T7, h7, X7, e7, W7, st7⟩ := putF X6 hx hZ hown (host := "") (Or.inl (ow hw 42 rfl)) Via.refl e6 F_priority E_a1 (Or.inr ⟨(ow hw 43 rfl), rfl, hnm⟩) (ow hw 23 rfl) (ty := .long) (by decide) rfl rfl (g := (mkF m 53 #[rv a1, .val .null, .val .null, .val v8, .val v9, rv a5, .val .null] [.long q5, .ref a1])) rfl rfl (hb hby d5_53)
  refine gb st7 ?_
  have F_priority := F_priority.same W7
  have E_a1 := E_a1.wr W7
  have F_delayMs := F_delayMs.other W7 (Or.inr (slot_ne (Or.inr (ow hw 45 rfl)) (Or.inr (ow hw 43 rfl)) (by decide) (t := (.object "java/lang/Long")) (t' := .long) (by decide) (by decide)))
  have E_a5 := E_a5.wr W7
  have F_v5 := F_v5.other W7 (Or.inl ne_a5_a1)
  have F_command := F_command.other W7 (Or.inr (slot_ne (Or.inr (ow hw 30 rfl)) (Or.inr (ow hw 43 rfl)) (by decide) (t := (.object "java/util/List")) (t' := .long) (by decide) (by decide)))
  have F_payload := F_payload.other W7 (Or.inr (slot_ne (Or.inr (ow hw 32 rfl)) (Or.inr (ow hw 43 rfl)) (by decide) (t := (.object "java/lang/String")) (t' := .long) (by decide) (by decide)))
  have F_maxAttempts := F_maxAttempts.other W7 (Or.inr (slot_ne (Or.inr (ow hw 34 rfl)) (Or.inr (ow hw 43 rfl)) (by decide) (t := (.object "java/lang/Long")) (t' := .long) (by decide) (by decide)))
  have F_timeLimitMs := F_timeLimitMs.other W7 (Or.inr (slot_ne (Or.inr (ow hw 36 rfl)) (Or.inr (ow hw 43 rfl)) (by decide) (t := (.object "java/lang/Long")) (t' := .long) (by decide) (by decide)))
  have O := O.wr W7 g_a1
  have K := K.wr W7 (Or.inl (List.mem_of_getElem? (i := 0) rfl))
  have N := Fr.snoc X7 N g_a1
  show G T7 (mkF m 56 #[rv a1, .val .null, .val .null, .val v8, .val v9, rv a5, .val .null] [])
  refine gb (fun _ k => XS.aloadN X7.here hx rfl (hb hby d5_56) rfl rfl (XS.aload X7.here hx rfl (hb hby d5_57) rfl rfl k)) ?_
  show G T7 (mkF m 59 #[rv a1, .val .null, .val .null, .val v8, .val v9, rv a5, .val .null] [.null, .ref a1])
  obtain ⟨T8, h8, X8, e8, W8, st8⟩ := putF X7 hx hZ hown (host := "") (Or.inl (ow hw 44 rfl)) Via.refl e7 F_delayMs E_a1 (Or.inr ⟨(ow hw 45 rfl), rfl, hnm⟩) (ow hw 23 rfl) (ty := (.object "java/lang/Long")) (by decide) rfl rfl (g := (mkF m 59 #[rv a1, .val .null, .val .null, .val v8, .val v9, rv a5, .val .null] [.null, .ref a1])) rfl rfl (hb hby d5_59)
  refine gb st8 ?_
  have F_delayMs := F_delayMs.same W8
  have E_a1 := E_a1.wr W8
  have E_a5 := E_a5.wr W8
  have F_v5 := F_v5.other W8 (Or.inl ne_a5_a1)
  have F_command := F_command.other W8 (Or.inr (slot_ne (Or.inr (ow hw 30 rfl)) (Or.inr (ow hw 45 rfl)) (by decide) (t := (.object "java/util/List")) (t' := (.object "java/lang/Long")) (by decide) (by decide)))
  have F_payload := F_payload.other W8 (Or.inr (slot_ne (Or.inr (ow hw 32 rfl)) (Or.inr (ow hw 45 rfl)) (by decide) (t := (.object "java/lang/String")) (t' := (.object "java/lang/Long")) (by decide) (by decide)))
  have F_maxAttempts := F_maxAttempts.other W8 (Or.inr (slot_ne (Or.inr (ow hw 34 rfl)) (Or.inr (ow hw 45 rfl)) (by decide) (t := (.object "java/lang/Long")) (t' := (.object "java/lang/Long")) (by decide) (by decide)))
  have F_timeLimitMs := F_timeLimitMs.other W8 (Or.inr (slot_ne (Or.inr (ow hw 36 rfl)) (Or.inr (ow hw 45 rfl)) (by decide) (t := (.object "java/lang/Long")) (t' := (.object "java/lang/Long")) (by decide) (by decide)))
  have F_priority := F_priority.other W8 (Or.inr (slot_ne (Or.inr (ow hw 43 rfl)) (Or.inr (ow hw 45 rfl)) (by decide) (t := .long) (t' := (.object "java/lang/Long")) (by decide) (by decide)))
  have O := O.wr W8 g_a1
  have K := K.wr W8 (Or.inl (List.mem_of_getElem? (i := 0) rfl))
  have N := Fr.snoc X8 N g_a1
  show G T8 (mkF m 62 #[rv a1, .val .null, .val .null, .val v8, .val v9, rv a5, .val .null] [])
  exact go X8 (v := none) (fun _ => rfl) (fun fs hr => X8.returnOut hx Bd.returns (hb hby d5_62) hr) (by rw [e8]; exact ⟨rfl, N, K, E_a1, F_delayMs⟩) (by decide) (by decide)
def Q_rm5_11 (Z : State) (a1 : Addr) (v8 v9 : Value) (a5 : Addr) (q5 : Int64) (a6 : Addr) (h0 : Heap) (n0 : Nat) : Option Value → Heap → List Loc → Prop := fun v h L => v = none ∧ Fr n0 L ∧ Keep h0 h [a1] ∧ Exa Z h a1 "com/example/equipe/equipe/JobSpec" ∧ Fld Z h a1 "com/example/equipe/equipe/JobSpec" "delayMs" "Ljava/lang/Long;" (.ref a6)
set_option maxRecDepth 65536 in
set_option maxHeartbeats 40000000 in
theorem rm5_11 (l : Launch) (Z : State) (a0 : Array Value) (hw : ∀ d ∈ tables_1, d.before a0 Z = true) (ws : List Jvm.Cond) (a1 : Addr) (v8 v9 : Value) (a5 : Addr) (q5 : Int64) (a6 : Addr) (h0 : Heap) (n0 : Nat) (O : Old Z n0 h0) (hr_v8 : v8.isRef = true) (hr_v9 : v9.isRef = true) (E_a1 : Exa Z h0 a1 "com/example/equipe/equipe/JobSpec") (F_command : Fld Z h0 a1 "com/example/equipe/equipe/JobSpec" "command" "Ljava/util/List;" .null) (F_payload : Fld Z h0 a1 "com/example/equipe/equipe/JobSpec" "payload" "Ljava/lang/String;" .null) (F_maxAttempts : Fld Z h0 a1 "com/example/equipe/equipe/JobSpec" "maxAttempts" "Ljava/lang/Long;" .null) (F_timeLimitMs : Fld Z h0 a1 "com/example/equipe/equipe/JobSpec" "timeLimitMs" "Ljava/lang/Long;" .null) (F_priority : Fld Z h0 a1 "com/example/equipe/equipe/JobSpec" "priority" "J" (.long (0 : Int64))) (F_delayMs : Fld Z h0 a1 "com/example/equipe/equipe/JobSpec" "delayMs" "Ljava/lang/Long;" .null) (g_a1 : n0 ≤ a1) (E_a5 : Exa Z h0 a5 "java/lang/Long") (F_v5 : Fld Z h0 a5 "java/lang/Long" "value" "J" (.long q5)) (ne_a5_a1 : a5 ≠ a1) :
    MetFree l (⟨"com/example/equipe/equipe/JobSpec", "<init>", "(Ljava/util/List;Ljava/lang/String;Ljava/lang/Long;Ljava/lang/Long;Ljava/lang/Long;Ljava/lang/Long;)V"⟩ : MethodName) (head1 (Jvm.Cond.code (⟨"com/example/equipe/equipe/JobSpec", "<init>", "(Ljava/util/List;Ljava/lang/String;Ljava/lang/Long;Ljava/lang/Long;Ljava/lang/Long;Ljava/lang/Long;)V"⟩ : MethodName) prog_7_method_1_code 7 none :: ws) ({ frames := 1, cells := 0, slots := 0, locals := 13 } : Room)) (fun a U => a = #[(.ref a1), .null, .null, v8, v9, (.ref a5), (.ref a6)] ∧ Z.Warmed39 U.vm ∧ U.heap = h0) (fun _ _ _ _ _ => True) (fun _ U o U' => ∃ v L, o = .returned v ∧ (Q_rm5_11 Z a1 v8 v9 a5 q5 a6 h0 n0) v U'.heap L ∧ FrameEnd U o U' L ({ frames := 1, cells := 0, slots := 0, locals := 13 } : Room).cells ({ frames := 1, cells := 0, slots := 0, locals := 13 } : Room).slots) := by
  refine MetFree.of_bodySF (plainFor_of_name pn_2) hisR ?_
  intro p e s m args below meth c s₁ Bd hml0 hP hK
  obtain ⟨rfl, hZ, hh⟩ := hP
  have hx := Bd.exec
  have hby := Bd.bytes
  have hml : c.maxLocals = 7 := hml0
  have hown : s.vm.findClass "com/example/equipe/equipe/JobSpec" = some m.cls := findClass_of_methodNamed Bd.named
  have hnm := (name_of_methodNamed Bd.named Bd.method).1
  have hlk := BodyLoose.notSynchronized Bd
  have X0 : Stand p l e ({ frames := 1, cells := 0, slots := 0, locals := 13 } : Room) s m #[(.ref a1), .null, .null, v8, v9, (.ref a5), (.ref a6)] below meth c s₁ [] 0 0 := Stand.of_body Bd
  have e0 : s₁.heap = h0 := by rw [← hh, Bd.state]; rfl
  have N := Fr.nil n0
  have K := Keep.refl h0 [a1]
  obtain ⟨G, hG⟩ : ∃ G : State → JFrame → Prop, G = OwnG p e below s ({ frames := 1, cells := 0, slots := 0, locals := 13 } : Room).cells ({ frames := 1, cells := 0, slots := 0, locals := 13 } : Room).slots (Q_rm5_11 Z a1 v8 v9 a5 q5 a6 h0 n0) := ⟨_, rfl⟩
  have gb : ∀ {T T' : State} {g g' : JFrame}, (∀ t, Steps p.tables e below (T'.setTop g') t → Steps p.tables e below (T.setTop g) t) → G T' g' → G T g := by subst hG; exact fun k h => own_by k h
  have go : ∀ {T : State} {locs : List Loc} {cells slots : Nat} {g : JFrame} {v : Option Value}, Stand p l e ({ frames := 1, cells := 0, slots := 0, locals := 13 } : Room) s m #[(.ref a1), .null, .null, v8, v9, (.ref a5), (.ref a6)] below meth c T locs cells slots → (meth.sig.returnType = none → v = none) → (∀ fs, (∀ (f : JFrame) (acts : List Action), f.method = m → f.locked = none → f.entered = [] → (doReturn e (T.setTop f) acts v).1 = T.setFrames fs) → Steps p.tables e below (T.setTop g) (T.setFrames fs)) → (Q_rm5_11 Z a1 v8 v9 a5 q5 a6 h0 n0) v T.heap locs → cells ≤ ({ frames := 1, cells := 0, slots := 0, locals := 13 } : Room).cells → slots ≤ ({ frames := 1, cells := 0, slots := 0, locals := 13 } : Room).slots → G T g := by subst hG; exact fun X h1 h2 h3 h4 h5 => own_out X hlk h1 h2 h3 h4 h5
  show OwnG p e below s ({ frames := 1, cells := 0, slots := 0, locals := 13 } : Room).cells ({ frames := 1, cells := 0, slots := 0, locals := 13 } : Room).slots (Q_rm5_11 Z a1 v8 v9 a5 q5 a6 h0 n0) s₁ (entryFrame m #[(.ref a1), .null, .null, v8, v9, (.ref a5), (.ref a6)] 7)
  rw [← hG, ef_rm5_11 m a1 v8 v9 a5 a6 hr_v8 hr_v9]
  clear hG
  show G s₁ (mkF m 0 #[.val (.ref a1), .val .null, .val .null, .val v8, .val v9, .val (.ref a5), .val (.ref a6)] [])
  refine gb (fun _ k => XS.aloadN X0.here hx rfl (hb hby d5_0) rfl rfl k) ?_
  show G s₁ (mkF m 1 #[rv a1, .val .null, .val .null, .val v8, .val v9, rv a5, rv a6] [.ref a1])
  obtain ⟨T1, X1, e1, st1⟩ := initO X0 hx hZ hown (ow hw 28 rfl) (ow hw 18 rfl) (ow hw 19 rfl) e0 (g := (mkF m 1 #[rv a1, .val .null, .val .null, .val v8, .val v9, rv a5, rv a6] [.ref a1])) rfl (by rw [hml]; rfl) rfl (hb hby d5_1) (by decide) (W := 0) (by show 2 * 0 + _ ≤ _; exact Nat.le_of_eq rfl) (by decide)
  refine gb st1 ?_
  show G T1 (mkF m 4 #[rv a1, .val .null, .val .null, .val v8, .val v9, rv a5, rv a6] [])
  refine gb (fun _ k => XS.aloadN X1.here hx rfl (hb hby d5_4) rfl rfl (XS.aloadN X1.here hx rfl (hb hby d5_5) rfl rfl (XS.ifnonnullNo X1.here hx rfl (hb hby d5_6) rfl (XS.aconstNull X1.here hx rfl (hb hby d5_9) (XS.goto X1.here hx rfl (pc0 := 10) (pc' := 17) rfl (hb hby d5_10) (by decide) (by decide) k))))) ?_
  show G T1 (mkF m 17 #[rv a1, .val .null, .val .null, .val v8, .val v9, rv a5, rv a6] [.null, .ref a1])
  obtain ⟨T2, h2, X2, e2, W2, st2⟩ := putF X1 hx hZ hown (host := "") (Or.inl (ow hw 29 rfl)) Via.refl e1 F_command E_a1 (Or.inr ⟨(ow hw 30 rfl), rfl, hnm⟩) (ow hw 23 rfl) (ty := (.object "java/util/List")) (by decide) rfl rfl (g := (mkF m 17 #[rv a1, .val .null, .val .null, .val v8, .val v9, rv a5, rv a6] [.null, .ref a1])) rfl rfl (hb hby d5_17)
  refine gb st2 ?_
  have F_command := F_command.same W2
  have E_a1 := E_a1.wr W2
  have F_payload := F_payload.other W2 (Or.inr (slot_ne (Or.inr (ow hw 32 rfl)) (Or.inr (ow hw 30 rfl)) (by decide) (t := (.object "java/lang/String")) (t' := (.object "java/util/List")) (by decide) (by decide)))
  have F_maxAttempts := F_maxAttempts.other W2 (Or.inr (slot_ne (Or.inr (ow hw 34 rfl)) (Or.inr (ow hw 30 rfl)) (by decide) (t := (.object "java/lang/Long")) (t' := (.object "java/util/List")) (by decide) (by decide)))
  have F_timeLimitMs := F_timeLimitMs.other W2 (Or.inr (slot_ne (Or.inr (ow hw 36 rfl)) (Or.inr (ow hw 30 rfl)) (by decide) (t := (.object "java/lang/Long")) (t' := (.object "java/util/List")) (by decide) (by decide)))
  have F_priority := F_priority.other W2 (Or.inr (slot_ne (Or.inr (ow hw 43 rfl)) (Or.inr (ow hw 30 rfl)) (by decide) (t := .long) (t' := (.object "java/util/List")) (by decide) (by decide)))
  have F_delayMs := F_delayMs.other W2 (Or.inr (slot_ne (Or.inr (ow hw 45 rfl)) (Or.inr (ow hw 30 rfl)) (by decide) (t := (.object "java/lang/Long")) (t' := (.object "java/util/List")) (by decide) (by decide)))
  have E_a5 := E_a5.wr W2
  have F_v5 := F_v5.other W2 (Or.inl ne_a5_a1)
  have O := O.wr W2 g_a1
  have K := K.wr W2 (Or.inl (List.mem_of_getElem? (i := 0) rfl))
  have N := Fr.snoc X2 N g_a1
  show G T2 (mkF m 20 #[rv a1, .val .null, .val .null, .val v8, .val v9, rv a5, rv a6] [])
  refine gb (fun _ k => XS.aloadN X2.here hx rfl (hb hby d5_20) rfl rfl (XS.aloadN X2.here hx rfl (hb hby d5_21) rfl rfl k)) ?_
  show G T2 (mkF m 22 #[rv a1, .val .null, .val .null, .val v8, .val v9, rv a5, rv a6] [.null, .ref a1])
  obtain ⟨T3, h3, X3, e3, W3, st3⟩ := putF X2 hx hZ hown (host := "") (Or.inl (ow hw 31 rfl)) Via.refl e2 F_payload E_a1 (Or.inr ⟨(ow hw 32 rfl), rfl, hnm⟩) (ow hw 23 rfl) (ty := (.object "java/lang/String")) (by decide) rfl rfl (g := (mkF m 22 #[rv a1, .val .null, .val .null, .val v8, .val v9, rv a5, rv a6] [.null, .ref a1])) rfl rfl (hb hby d5_22)
  refine gb st3 ?_
  have F_payload := F_payload.same W3
  have E_a1 := E_a1.wr W3
  have F_maxAttempts := F_maxAttempts.other W3 (Or.inr (slot_ne (Or.inr (ow hw 34 rfl)) (Or.inr (ow hw 32 rfl)) (by decide) (t := (.object "java/lang/Long")) (t' := (.object "java/lang/String")) (by decide) (by decide)))
  have F_timeLimitMs := F_timeLimitMs.other W3 (Or.inr (slot_ne (Or.inr (ow hw 36 rfl)) (Or.inr (ow hw 32 rfl)) (by decide) (t := (.object "java/lang/Long")) (t' := (.object "java/lang/String")) (by decide) (by decide)))
  have F_priority := F_priority.other W3 (Or.inr (slot_ne (Or.inr (ow hw 43 rfl)) (Or.inr (ow hw 32 rfl)) (by decide) (t := .long) (t' := (.object "java/lang/String")) (by decide) (by decide)))
  have F_delayMs := F_delayMs.other W3 (Or.inr (slot_ne (Or.inr (ow hw 45 rfl)) (Or.inr (ow hw 32 rfl)) (by decide) (t := (.object "java/lang/Long")) (t' := (.object "java/lang/String")) (by decide) (by decide)))
  have E_a5 := E_a5.wr W3
  have F_v5 := F_v5.other W3 (Or.inl ne_a5_a1)
  have F_command := F_command.other W3 (Or.inr (slot_ne (Or.inr (ow hw 30 rfl)) (Or.inr (ow hw 32 rfl)) (by decide) (t := (.object "java/util/List")) (t' := (.object "java/lang/String")) (by decide) (by decide)))
  have O := O.wr W3 g_a1
  have K := K.wr W3 (Or.inl (List.mem_of_getElem? (i := 0) rfl))
  have N := Fr.snoc X3 N g_a1
  show G T3 (mkF m 25 #[rv a1, .val .null, .val .null, .val v8, .val v9, rv a5, rv a6] [])
  refine gb (fun _ k => XS.aloadN X3.here hx rfl (hb hby d5_25) rfl rfl (XS.aloadN X3.here hx rfl (hb hby d5_26) rfl hr_v8 k)) ?_
  show G T3 (mkF m 27 #[rv a1, .val .null, .val .null, .val v8, .val v9, rv a5, rv a6] [v8, .ref a1])
  obtain ⟨T4, h4, X4, e4, W4, st4⟩ := putF X3 hx hZ hown (host := "") (Or.inl (ow hw 33 rfl)) Via.refl e3 F_maxAttempts E_a1 (Or.inr ⟨(ow hw 34 rfl), rfl, hnm⟩) (ow hw 23 rfl) (ty := (.object "java/lang/Long")) (by decide) (own_narR hr_v8) (own_fitR hr_v8) (g := (mkF m 27 #[rv a1, .val .null, .val .null, .val v8, .val v9, rv a5, rv a6] [v8, .ref a1])) rfl rfl (hb hby d5_27)
  refine gb st4 ?_
  have F_maxAttempts := F_maxAttempts.same W4
  have E_a1 := E_a1.wr W4
  have F_timeLimitMs := F_timeLimitMs.other W4 (Or.inr (slot_ne (Or.inr (ow hw 36 rfl)) (Or.inr (ow hw 34 rfl)) (by decide) (t := (.object "java/lang/Long")) (t' := (.object "java/lang/Long")) (by decide) (by decide)))
  have F_priority := F_priority.other W4 (Or.inr (slot_ne (Or.inr (ow hw 43 rfl)) (Or.inr (ow hw 34 rfl)) (by decide) (t := .long) (t' := (.object "java/lang/Long")) (by decide) (by decide)))
  have F_delayMs := F_delayMs.other W4 (Or.inr (slot_ne (Or.inr (ow hw 45 rfl)) (Or.inr (ow hw 34 rfl)) (by decide) (t := (.object "java/lang/Long")) (t' := (.object "java/lang/Long")) (by decide) (by decide)))
  have E_a5 := E_a5.wr W4
  have F_v5 := F_v5.other W4 (Or.inl ne_a5_a1)
  have F_command := F_command.other W4 (Or.inr (slot_ne (Or.inr (ow hw 30 rfl)) (Or.inr (ow hw 34 rfl)) (by decide) (t := (.object "java/util/List")) (t' := (.object "java/lang/Long")) (by decide) (by decide)))
  have F_payload := F_payload.other W4 (Or.inr (slot_ne (Or.inr (ow hw 32 rfl)) (Or.inr (ow hw 34 rfl)) (by decide) (t := (.object "java/lang/String")) (t' := (.object "java/lang/Long")) (by decide) (by decide)))
  have O := O.wr W4 g_a1
  have K := K.wr W4 (Or.inl (List.mem_of_getElem? (i := 0) rfl))
  have N := Fr.snoc X4 N g_a1
  show G T4 (mkF m 30 #[rv a1, .val .null, .val .null, .val v8, .val v9, rv a5, rv a6] [])
  refine gb (fun _ k => XS.aloadN X4.here hx rfl (hb hby d5_30) rfl rfl (XS.aload X4.here hx rfl (hb hby d5_31) rfl hr_v9 k)) ?_
  show G T4 (mkF m 33 #[rv a1, .val .null, .val .null, .val v8, .val v9, rv a5, rv a6] [v9, .ref a1])
  obtain ⟨T5, h5, X5, e5, W5, st5⟩ := putF X4 hx hZ hown (host := "") (Or.inl (ow hw 35 rfl)) Via.refl e4 F_timeLimitMs E_a1 (Or.inr ⟨(ow hw 36 rfl), rfl, hnm⟩) (ow hw 23 rfl) (ty := (.object "java/lang/Long")) (by decide) (own_narR hr_v9) (own_fitR hr_v9) (g := (mkF m 33 #[rv a1, .val .null, .val .null, .val v8, .val v9, rv a5, rv a6] [v9, .ref a1])) rfl rfl (hb hby d5_33)
  refine gb st5 ?_
  have F_timeLimitMs := F_timeLimitMs.same W5
  have E_a1 := E_a1.wr W5
  have F_priority := F_priority.other W5 (Or.inr (slot_ne (Or.inr (ow hw 43 rfl)) (Or.inr (ow hw 36 rfl)) (by decide) (t := .long) (t' := (.object "java/lang/Long")) (by decide) (by decide)))
  have F_delayMs := F_delayMs.other W5 (Or.inr (slot_ne (Or.inr (ow hw 45 rfl)) (Or.inr (ow hw 36 rfl)) (by decide) (t := (.object "java/lang/Long")) (t' := (.object "java/lang/Long")) (by decide) (by decide)))
  have E_a5 := E_a5.wr W5
  have F_v5 := F_v5.other W5 (Or.inl ne_a5_a1)
  have F_command := F_command.other W5 (Or.inr (slot_ne (Or.inr (ow hw 30 rfl)) (Or.inr (ow hw 36 rfl)) (by decide) (t := (.object "java/util/List")) (t' := (.object "java/lang/Long")) (by decide) (by decide)))
  have F_payload := F_payload.other W5 (Or.inr (slot_ne (Or.inr (ow hw 32 rfl)) (Or.inr (ow hw 36 rfl)) (by decide) (t := (.object "java/lang/String")) (t' := (.object "java/lang/Long")) (by decide) (by decide)))
  have F_maxAttempts := F_maxAttempts.other W5 (Or.inr (slot_ne (Or.inr (ow hw 34 rfl)) (Or.inr (ow hw 36 rfl)) (by decide) (t := (.object "java/lang/Long")) (t' := (.object "java/lang/Long")) (by decide) (by decide)))
  have O := O.wr W5 g_a1
  have K := K.wr W5 (Or.inl (List.mem_of_getElem? (i := 0) rfl))
  have N := Fr.snoc X5 N g_a1
  show G T5 (mkF m 36 #[rv a1, .val .null, .val .null, .val v8, .val v9, rv a5, rv a6] [])
  refine gb (fun _ k => XS.aloadN X5.here hx rfl (hb hby d5_36) rfl rfl (XS.aload X5.here hx rfl (hb hby d5_37) rfl rfl (XS.ifnonnullYes X5.here hx rfl (pc0 := 39) (pc' := 48) rfl (hb hby d5_39) rfl (by decide) (by decide) (XS.aload X5.here hx rfl (hb hby d5_48) rfl rfl k)))) ?_
  show G T5 (mkF m 50 #[rv a1, .val .null, .val .null, .val v8, .val v9, rv a5, rv a6] [.ref a5, .ref a1])
  obtain ⟨cq6, kq6, q6a, q6b, q6c⟩ := isOf hZ e5 E_a5
  obtain ⟨_, _, ⟨T6, Lz6, kz6, nz6⟩, -, X6, ⟨Lc6, hQ6, lq6, yq6, zq6⟩, st6⟩ := X5.virtualBack hx (y := (⟨"java/lang/Long", "longValue", "()J"⟩ : MethodName)) (z := (⟨"java/lang/Long", "longValue", "()J"⟩ : MethodName)) hown (mvT hZ (ow hw 37 rfl)) (mvT hZ (ow hw 38 rfl)) (notFace_of_selects (args := #[]) (mvT hZ (ow hw 40 rfl))) (mvT hZ (ow hw 40 rfl)) (mvT hZ (ow hw 39 rfl)) (by decide) (backOf (W := 1) (rm6 l Z a0 hw [] a5 q5 h5 n0 O F_v5) hZ (ow hw 41 rfl) (ow hw 2 rfl) (by decide) (by decide)) q6a q6c (g := (mkF m 50 #[rv a1, .val .null, .val .null, .val v8, .val v9, rv a5, rv a6] [.ref a5, .ref a1])) rfl (by rw [hml]; rfl) (Steps.refl _) (argsL := []) (rest := [(.ref a1)]) (lenOf pd_2 rfl) rfl (by show 2 * 0 + _ ≤ _; exact Nat.le_of_eq rfl) (hb hby d5_50) (fun _ _ => ⟨rfl, e5, (by decide : 0 + 0 ≤ _), (by decide : 0 + 0 ≤ _)⟩)
  dsimp only [Pt.U, Pt.locs, Pt.cells, Pt.slots] at X6 lq6 yq6 zq6 st6 hQ6
  subst lq6 yq6 zq6
  obtain ⟨rfl, rfl, e6⟩ := hQ6
  try rw [List.append_nil] at X6
  refine gb (fun _ k => st6.trans k) ?_
  show G T6 (mkF m 53 #[rv a1, .val .null, .val .null, .val v8, .val v9, rv a5, rv a6] [.long q5, .ref a1])
  obtain ⟨T7, h7, X7, e7, W7, st7⟩ := putF X6 hx hZ hown (host := "") (Or.inl (ow hw 42 rfl)) Via.refl e6 F_priority E_a1 (Or.inr ⟨(ow hw 43 rfl), rfl, hnm⟩) (ow hw 23 rfl) (ty := .long) (by decide) rfl rfl (g := (mkF m 53 #[rv a1, .val .null, .val .null, .val v8, .val v9, rv a5, rv a6] [.long q5, .ref a1])) rfl rfl (hb hby d5_53)
  refine gb st7 ?_
  have F_priority := F_priority.same W7
  have E_a1 := E_a1.wr W7
  have F_delayMs := F_delayMs.other W7 (Or.inr (slot_ne (Or.inr (ow hw 45 rfl)) (Or.inr (ow hw 43 rfl)) (by decide) (t := (.object "java/lang/Long")) (t' := .long) (by decide) (by decide)))
  have E_a5 := E_a5.wr W7
  have F_v5 := F_v5.other W7 (Or.inl ne_a5_a1)
  have F_command := F_command.other W7 (Or.inr (slot_ne (Or.inr (ow hw 30 rfl)) (Or.inr (ow hw 43 rfl)) (by decide) (t := (.object "java/util/List")) (t' := .long) (by decide) (by decide)))
  have F_payload := F_payload.other W7 (Or.inr (slot_ne (Or.inr (ow hw 32 rfl)) (Or.inr (ow hw 43 rfl)) (by decide) (t := (.object "java/lang/String")) (t' := .long) (by decide) (by decide)))
  have F_maxAttempts := F_maxAttempts.other W7 (Or.inr (slot_ne (Or.inr (ow hw 34 rfl)) (Or.inr (ow hw 43 rfl)) (by decide) (t := (.object "java/lang/Long")) (t' := .long) (by decide) (by decide)))
  have F_timeLimitMs := F_timeLimitMs.other W7 (Or.inr (slot_ne (Or.inr (ow hw 36 rfl)) (Or.inr (ow hw 43 rfl)) (by decide) (t := (.object "java/lang/Long")) (t' := .long) (by decide) (by decide)))
  have O := O.wr W7 g_a1
  have K := K.wr W7 (Or.inl (List.mem_of_getElem? (i := 0) rfl))
  have N := Fr.snoc X7 N g_a1
  show G T7 (mkF m 56 #[rv a1, .val .null, .val .null, .val v8, .val v9, rv a5, rv a6] [])
  refine gb (fun _ k => XS.aloadN X7.here hx rfl (hb hby d5_56) rfl rfl (XS.aload X7.here hx rfl (hb hby d5_57) rfl rfl k)) ?_
  show G T7 (mkF m 59 #[rv a1, .val .null, .val .null, .val v8, .val v9, rv a5, rv a6] [.ref a6, .ref a1])
  obtain ⟨T8, h8, X8, e8, W8, st8⟩ := putF X7 hx hZ hown (host := "") (Or.inl (ow hw 44 rfl)) Via.refl e7 F_delayMs E_a1 (Or.inr ⟨(ow hw 45 rfl), rfl, hnm⟩) (ow hw 23 rfl) (ty := (.object "java/lang/Long")) (by decide) rfl rfl (g := (mkF m 59 #[rv a1, .val .null, .val .null, .val v8, .val v9, rv a5, rv a6] [.ref a6, .ref a1])) rfl rfl (hb hby d5_59)
  refine gb st8 ?_
  have F_delayMs := F_delayMs.same W8
  have E_a1 := E_a1.wr W8
  have E_a5 := E_a5.wr W8
  have F_v5 := F_v5.other W8 (Or.inl ne_a5_a1)
  have F_command := F_command.other W8 (Or.inr (slot_ne (Or.inr (ow hw 30 rfl)) (Or.inr (ow hw 45 rfl)) (by decide) (t := (.object "java/util/List")) (t' := (.object "java/lang/Long")) (by decide) (by decide)))
  have F_payload := F_payload.other W8 (Or.inr (slot_ne (Or.inr (ow hw 32 rfl)) (Or.inr (ow hw 45 rfl)) (by decide) (t := (.object "java/lang/String")) (t' := (.object "java/lang/Long")) (by decide) (by decide)))
  have F_maxAttempts := F_maxAttempts.other W8 (Or.inr (slot_ne (Or.inr (ow hw 34 rfl)) (Or.inr (ow hw 45 rfl)) (by decide) (t := (.object "java/lang/Long")) (t' := (.object "java/lang/Long")) (by decide) (by decide)))
  have F_timeLimitMs := F_timeLimitMs.other W8 (Or.inr (slot_ne (Or.inr (ow hw 36 rfl)) (Or.inr (ow hw 45 rfl)) (by decide) (t := (.object "java/lang/Long")) (t' := (.object "java/lang/Long")) (by decide) (by decide)))
  have F_priority := F_priority.other W8 (Or.inr (slot_ne (Or.inr (ow hw 43 rfl)) (Or.inr (ow hw 45 rfl)) (by decide) (t := .long) (t' := (.object "java/lang/Long")) (by decide) (by decide)))
  have O := O.wr W8 g_a1
  have K := K.wr W8 (Or.inl (List.mem_of_getElem? (i := 0) rfl))
  have N := Fr.snoc X8 N g_a1
  show G T8 (mkF m 62 #[rv a1, .val .null, .val .null, .val v8, .val v9, rv a5, rv a6] [])
  exact go X8 (v := none) (fun _ => rfl) (fun fs hr => X8.returnOut hx Bd.returns (hb hby d5_62) hr) (by rw [e8]; exact ⟨rfl, N, K, E_a1, F_delayMs⟩) (by decide) (by decide)
def Q_rm7_0 (Z : State) (a1 : Addr) (h0 : Heap) (n0 : Nat) : Option Value → Heap → List Loc → Prop := fun v h L => v = some (.int (0 : Int32)) ∧ L = [] ∧ h = h0
set_option maxRecDepth 65536 in
set_option maxHeartbeats 40000000 in
theorem rm7_0 (l : Launch) (Z : State) (a0 : Array Value) (hw : ∀ d ∈ tables_1, d.before a0 Z = true) (ws : List Jvm.Cond) (a1 : Addr) (h0 : Heap) (n0 : Nat) (O : Old Z n0 h0) (F_delayMs : Fld Z h0 a1 "com/example/equipe/equipe/JobSpec" "delayMs" "Ljava/lang/Long;" .null) :
    MetFree l (⟨"com/example/equipe/equipe/JobSpec", "isDelayed", "()Z"⟩ : MethodName) (head1 (Jvm.Cond.code (⟨"com/example/equipe/equipe/JobSpec", "isDelayed", "()Z"⟩ : MethodName) prog_7_method_9_code 1 (some .boolean) :: ws) ({ frames := 0, cells := 0, slots := 0, locals := 0 } : Room)) (fun a U => a = #[(.ref a1)] ∧ Z.Warmed39 U.vm ∧ U.heap = h0) (fun _ _ _ _ _ => True) (fun _ U o U' => ∃ v L, o = .returned v ∧ (Q_rm7_0 Z a1 h0 n0) v U'.heap L ∧ FrameEnd U o U' L ({ frames := 0, cells := 0, slots := 0, locals := 0 } : Room).cells ({ frames := 0, cells := 0, slots := 0, locals := 0 } : Room).slots) := by
  refine MetFree.of_bodySF (plainFor_of_name pn_2) hisR ?_
  intro p e s m args below meth c s₁ Bd hml0 hP hK
  obtain ⟨rfl, hZ, hh⟩ := hP
  have hx := Bd.exec
  have hby := Bd.bytes
  have hml : c.maxLocals = 1 := hml0
  have hown : s.vm.findClass "com/example/equipe/equipe/JobSpec" = some m.cls := findClass_of_methodNamed Bd.named
  have hnm := (name_of_methodNamed Bd.named Bd.method).1
  have hlk := BodyLoose.notSynchronized Bd
  have X0 : Stand p l e ({ frames := 0, cells := 0, slots := 0, locals := 0 } : Room) s m #[(.ref a1)] below meth c s₁ [] 0 0 := Stand.of_body Bd
  have e0 : s₁.heap = h0 := by rw [← hh, Bd.state]; rfl
  have N := Fr.nil n0
  obtain ⟨G, hG⟩ : ∃ G : State → JFrame → Prop, G = OwnG p e below s ({ frames := 0, cells := 0, slots := 0, locals := 0 } : Room).cells ({ frames := 0, cells := 0, slots := 0, locals := 0 } : Room).slots (Q_rm7_0 Z a1 h0 n0) := ⟨_, rfl⟩
  have gb : ∀ {T T' : State} {g g' : JFrame}, (∀ t, Steps p.tables e below (T'.setTop g') t → Steps p.tables e below (T.setTop g) t) → G T' g' → G T g := by subst hG; exact fun k h => own_by k h
  have go : ∀ {T : State} {locs : List Loc} {cells slots : Nat} {g : JFrame} {v : Option Value}, Stand p l e ({ frames := 0, cells := 0, slots := 0, locals := 0 } : Room) s m #[(.ref a1)] below meth c T locs cells slots → (meth.sig.returnType = none → v = none) → (∀ fs, (∀ (f : JFrame) (acts : List Action), f.method = m → f.locked = none → f.entered = [] → (doReturn e (T.setTop f) acts v).1 = T.setFrames fs) → Steps p.tables e below (T.setTop g) (T.setFrames fs)) → (Q_rm7_0 Z a1 h0 n0) v T.heap locs → cells ≤ ({ frames := 0, cells := 0, slots := 0, locals := 0 } : Room).cells → slots ≤ ({ frames := 0, cells := 0, slots := 0, locals := 0 } : Room).slots → G T g := by subst hG; exact fun X h1 h2 h3 h4 h5 => own_out X hlk h1 h2 h3 h4 h5
  show OwnG p e below s ({ frames := 0, cells := 0, slots := 0, locals := 0 } : Room).cells ({ frames := 0, cells := 0, slots := 0, locals := 0 } : Room).slots (Q_rm7_0 Z a1 h0 n0) s₁ (entryFrame m #[(.ref a1)] 1)
  rw [← hG, ef_rm7_0 m a1]
  clear hG
  show G s₁ (mkF m 0 #[.val (.ref a1)] [])
  refine gb (fun _ k => XS.aloadN X0.here hx rfl (hb hby d7_0) rfl rfl k) ?_
  show G s₁ (mkF m 1 #[rv a1] [.ref a1])
  obtain ⟨T1, X1, e1, st1⟩ := getF X0 hx hZ hown (host := "") (Or.inl (ow hw 44 rfl)) Via.refl e0 F_delayMs (g := (mkF m 1 #[rv a1] [.ref a1])) rfl rfl (hb hby d7_1)
  refine gb st1 ?_
  show G T1 (mkF m 4 #[rv a1] [.null])
  refine gb (fun _ k => XS.ifnullYes X1.here hx rfl (pc0 := 4) (pc' := 23) rfl (hb hby d7_4) rfl (by decide) (by decide) (XS.iconst X1.here hx rfl (hb hby d7_23) k)) ?_
  show G T1 (mkF m 24 #[rv a1] [.int 0])
  exact go X1 (v := (some (.int (0 : Int32)))) (fun h => by rw [Bd.returns] at h; cases h) (fun fs hr => retOut X1 hx Bd.returns rfl (Or.inl ⟨rfl, by simp, _, rfl⟩) (hb hby d7_24) hr) (⟨rfl, rfl, e1⟩) (by decide) (by decide)
def Q_rm7_1 (Z : State) (a1 a6 : Addr) (q6 : Int64) (h0 : Heap) (n0 : Nat) : Option Value → Heap → List Loc → Prop := fun v h L => v = some (.int (if (0 : Int64) < q6 then (1 : Int32) else (0 : Int32))) ∧ L = [] ∧ h = h0
set_option maxRecDepth 65536 in
set_option maxHeartbeats 40000000 in
theorem rm7_1 (l : Launch) (Z : State) (a0 : Array Value) (hw : ∀ d ∈ tables_1, d.before a0 Z = true) (ws : List Jvm.Cond) (a1 a6 : Addr) (q6 : Int64) (h0 : Heap) (n0 : Nat) (O : Old Z n0 h0) (F_delayMs : Fld Z h0 a1 "com/example/equipe/equipe/JobSpec" "delayMs" "Ljava/lang/Long;" (.ref a6)) (E_a6 : Exa Z h0 a6 "java/lang/Long") (F_v6 : Fld Z h0 a6 "java/lang/Long" "value" "J" (.long q6)) :
    MetFree l (⟨"com/example/equipe/equipe/JobSpec", "isDelayed", "()Z"⟩ : MethodName) (head1 (Jvm.Cond.code (⟨"com/example/equipe/equipe/JobSpec", "isDelayed", "()Z"⟩ : MethodName) prog_7_method_9_code 1 (some .boolean) :: ws) ({ frames := 1, cells := 0, slots := 0, locals := 12 } : Room)) (fun a U => a = #[(.ref a1)] ∧ Z.Warmed39 U.vm ∧ U.heap = h0) (fun _ _ _ _ _ => True) (fun _ U o U' => ∃ v L, o = .returned v ∧ (Q_rm7_1 Z a1 a6 q6 h0 n0) v U'.heap L ∧ FrameEnd U o U' L ({ frames := 1, cells := 0, slots := 0, locals := 12 } : Room).cells ({ frames := 1, cells := 0, slots := 0, locals := 12 } : Room).slots) := by
  refine MetFree.of_bodySF (plainFor_of_name pn_2) hisR ?_
  intro p e s m args below meth c s₁ Bd hml0 hP hK
  obtain ⟨rfl, hZ, hh⟩ := hP
  have hx := Bd.exec
  have hby := Bd.bytes
  have hml : c.maxLocals = 1 := hml0
  have hown : s.vm.findClass "com/example/equipe/equipe/JobSpec" = some m.cls := findClass_of_methodNamed Bd.named
  have hnm := (name_of_methodNamed Bd.named Bd.method).1
  have hlk := BodyLoose.notSynchronized Bd
  have X0 : Stand p l e ({ frames := 1, cells := 0, slots := 0, locals := 12 } : Room) s m #[(.ref a1)] below meth c s₁ [] 0 0 := Stand.of_body Bd
  have e0 : s₁.heap = h0 := by rw [← hh, Bd.state]; rfl
  have N := Fr.nil n0
  obtain ⟨G, hG⟩ : ∃ G : State → JFrame → Prop, G = OwnG p e below s ({ frames := 1, cells := 0, slots := 0, locals := 12 } : Room).cells ({ frames := 1, cells := 0, slots := 0, locals := 12 } : Room).slots (Q_rm7_1 Z a1 a6 q6 h0 n0) := ⟨_, rfl⟩
  have gb : ∀ {T T' : State} {g g' : JFrame}, (∀ t, Steps p.tables e below (T'.setTop g') t → Steps p.tables e below (T.setTop g) t) → G T' g' → G T g := by subst hG; exact fun k h => own_by k h
  have go : ∀ {T : State} {locs : List Loc} {cells slots : Nat} {g : JFrame} {v : Option Value}, Stand p l e ({ frames := 1, cells := 0, slots := 0, locals := 12 } : Room) s m #[(.ref a1)] below meth c T locs cells slots → (meth.sig.returnType = none → v = none) → (∀ fs, (∀ (f : JFrame) (acts : List Action), f.method = m → f.locked = none → f.entered = [] → (doReturn e (T.setTop f) acts v).1 = T.setFrames fs) → Steps p.tables e below (T.setTop g) (T.setFrames fs)) → (Q_rm7_1 Z a1 a6 q6 h0 n0) v T.heap locs → cells ≤ ({ frames := 1, cells := 0, slots := 0, locals := 12 } : Room).cells → slots ≤ ({ frames := 1, cells := 0, slots := 0, locals := 12 } : Room).slots → G T g := by subst hG; exact fun X h1 h2 h3 h4 h5 => own_out X hlk h1 h2 h3 h4 h5
  show OwnG p e below s ({ frames := 1, cells := 0, slots := 0, locals := 12 } : Room).cells ({ frames := 1, cells := 0, slots := 0, locals := 12 } : Room).slots (Q_rm7_1 Z a1 a6 q6 h0 n0) s₁ (entryFrame m #[(.ref a1)] 1)
  rw [← hG, ef_rm7_1 m a1]
  clear hG
  show G s₁ (mkF m 0 #[.val (.ref a1)] [])
  refine gb (fun _ k => XS.aloadN X0.here hx rfl (hb hby d7_0) rfl rfl k) ?_
  show G s₁ (mkF m 1 #[rv a1] [.ref a1])
  obtain ⟨T1, X1, e1, st1⟩ := getF X0 hx hZ hown (host := "") (Or.inl (ow hw 44 rfl)) Via.refl e0 F_delayMs (g := (mkF m 1 #[rv a1] [.ref a1])) rfl rfl (hb hby d7_1)
  refine gb st1 ?_
  show G T1 (mkF m 4 #[rv a1] [.ref a6])
  refine gb (fun _ k => XS.ifnullNo X1.here hx rfl (hb hby d7_4) rfl (XS.aloadN X1.here hx rfl (hb hby d7_7) rfl rfl k)) ?_
  show G T1 (mkF m 8 #[rv a1] [.ref a1])
  obtain ⟨T2, X2, e2, st2⟩ := getF X1 hx hZ hown (host := "") (Or.inl (ow hw 44 rfl)) Via.refl e1 F_delayMs (g := (mkF m 8 #[rv a1] [.ref a1])) rfl rfl (hb hby d7_8)
  refine gb st2 ?_
  show G T2 (mkF m 11 #[rv a1] [.ref a6])
  obtain ⟨cq3, kq3, q3a, q3b, q3c⟩ := isOf hZ e2 E_a6
  obtain ⟨_, _, ⟨T3, Lz3, kz3, nz3⟩, -, X3, ⟨Lc3, hQ3, lq3, yq3, zq3⟩, st3⟩ := X2.virtualBack hx (y := (⟨"java/lang/Long", "longValue", "()J"⟩ : MethodName)) (z := (⟨"java/lang/Long", "longValue", "()J"⟩ : MethodName)) hown (mvT hZ (ow hw 37 rfl)) (mvT hZ (ow hw 38 rfl)) (notFace_of_selects (args := #[]) (mvT hZ (ow hw 40 rfl))) (mvT hZ (ow hw 40 rfl)) (mvT hZ (ow hw 39 rfl)) (by decide) (backOf (W := 0) (rm6 l Z a0 hw [] a6 q6 h0 n0 O F_v6) hZ (ow hw 41 rfl) (ow hw 2 rfl) (by decide) (by decide)) q3a q3c (g := (mkF m 11 #[rv a1] [.ref a6])) rfl (by rw [hml]; rfl) (Steps.refl _) (argsL := []) (rest := []) (lenOf pd_2 rfl) rfl (by show 2 * 0 + _ ≤ _; exact Nat.le_of_eq rfl) (hb hby d7_11) (fun _ _ => ⟨rfl, e2, (by decide : 0 + 0 ≤ _), (by decide : 0 + 0 ≤ _)⟩)
  dsimp only [Pt.U, Pt.locs, Pt.cells, Pt.slots] at X3 lq3 yq3 zq3 st3 hQ3
  subst lq3 yq3 zq3
  obtain ⟨rfl, rfl, e3⟩ := hQ3
  try rw [List.append_nil] at X3
  refine gb (fun _ k => st3.trans k) ?_
  show G T3 (mkF m 14 #[rv a1] [.long q6])
  refine gb (fun _ k => XS.lconst X3.here hx rfl (hb hby d7_14) (XS.lcmp X3.here hx rfl (hb hby d7_15) rfl k)) ?_
  show G T3 (mkF m 16 #[rv a1] [.int (lcmpW q6 (0 : Int64))])
  by_cases hc16 : (0 : Int64) < q6
  · skip
    refine gb (fun _ k => XS.ifNo X3.here hx rfl (hb hby d7_16) rfl ((if0 _ _).trans (tlt ((own_gt _ _).mpr hc16)).2.2.2) (XS.iconst X3.here hx rfl (hb hby d7_19) (XS.goto X3.here hx rfl (pc0 := 20) (pc' := 24) rfl (hb hby d7_20) (by decide) (by decide) k))) ?_
    show G T3 (mkF m 24 #[rv a1] [.int 1])
    exact go X3 (v := (some (.int (1 : Int32)))) (fun h => by rw [Bd.returns] at h; cases h) (fun fs hr => retOut X3 hx Bd.returns rfl (Or.inl ⟨rfl, by simp, _, rfl⟩) (hb hby d7_24) hr) (⟨by simp [hc16], rfl, e3⟩) (by decide) (by decide)
  · skip
    refine gb (fun _ k => XS.ifYes X3.here hx rfl (pc0 := 16) (pc' := 23) rfl (hb hby d7_16) rfl ((if0 _ _).trans (flt (fun q => hc16 ((own_gt _ _).mp q))).2.2.2) (by decide) (by decide) (XS.iconst X3.here hx rfl (hb hby d7_23) k)) ?_
    show G T3 (mkF m 24 #[rv a1] [.int 0])
    exact go X3 (v := (some (.int (0 : Int32)))) (fun h => by rw [Bd.returns] at h; cases h) (fun fs hr => retOut X3 hx Bd.returns rfl (Or.inl ⟨rfl, by simp, _, rfl⟩) (hb hby d7_24) hr) (⟨by simp [hc16], rfl, e3⟩) (by decide) (by decide)
def Q_rm0 (Z : State) (i0 i2 : Int64) (i1 : Int32) (h0 : Heap) (n0 : Nat) (wc : Addr) : Option Value → Heap → List Loc → Prop := fun v h L => v = some (.int 1) ∧ Fr n0 L
set_option maxRecDepth 65536 in
set_option maxHeartbeats 40000000 in
theorem rm0 (l : Launch) (Z : State) (a0 : Array Value) (hw : ∀ d ∈ tables_1, d.before a0 Z = true) (ws : List Jvm.Cond) (i0 i2 : Int64) (i1 : Int32) (h0 : Heap) (n0 : Nat) (O : Old Z n0 h0) (wc : Addr) (cc : Cell) (S_c : Sta Z Z.heap "java/lang/Long$LongCache" "cache" "[Ljava/lang/Long;" (.ref wc)) (BX : Bxs Z wc cc "java/lang/Long" "J" (256 : Int32) (fun j => .long (j - (128 : Int32)).toInt64)) :
    MetFree l x (head1 (Jvm.Cond.code x code maxLocals ret :: ws) room_1) (fun a U => a = #[(.long i0), (.int i1), (.long i2)] ∧ Z.Warmed39 U.vm ∧ U.heap = h0 ∧ U = Z) (fun _ _ _ _ _ => True) (fun _ U o U' => ∃ v L, o = .returned v ∧ (Q_rm0 Z i0 i2 i1 h0 n0 wc) v U'.heap L ∧ FrameEnd U o U' L 5 10) := by
  refine MetFree.of_bodySF (plainFor_of_name pn_3) hisR ?_
  intro p e s m args below meth c s₁ Bd hml0 hP hK
  obtain ⟨rfl, hZ, hh, hUZ⟩ := hP
  have hx := Bd.exec
  have hby := Bd.bytes
  have hml : c.maxLocals = 12 := hml0
  have hown : s.vm.findClass "com/example/equipe/equipe/JobSpecIsDelayedPinLaw" = some m.cls := findClass_of_methodNamed Bd.named
  have hnm := (name_of_methodNamed Bd.named Bd.method).1
  have hlk := BodyLoose.notSynchronized Bd
  have X0 : Stand p l e room_1 s m #[(.long i0), (.int i1), (.long i2)] below meth c s₁ [] 0 0 := Stand.of_body Bd
  have e0 : s₁.heap = h0 := by rw [← hh, Bd.state]; rfl
  have N := Fr.nil n0
  have O0 := O
  obtain ⟨G, hG⟩ : ∃ G : State → JFrame → Prop, G = OwnG p e below s 5 10 (Q_rm0 Z i0 i2 i1 h0 n0 wc) := ⟨_, rfl⟩
  have gb : ∀ {T T' : State} {g g' : JFrame}, (∀ t, Steps p.tables e below (T'.setTop g') t → Steps p.tables e below (T.setTop g) t) → G T' g' → G T g := by subst hG; exact fun k h => own_by k h
  have go : ∀ {T : State} {locs : List Loc} {cells slots : Nat} {g : JFrame} {v : Option Value}, Stand p l e room_1 s m #[(.long i0), (.int i1), (.long i2)] below meth c T locs cells slots → (meth.sig.returnType = none → v = none) → (∀ fs, (∀ (f : JFrame) (acts : List Action), f.method = m → f.locked = none → f.entered = [] → (doReturn e (T.setTop f) acts v).1 = T.setFrames fs) → Steps p.tables e below (T.setTop g) (T.setFrames fs)) → (Q_rm0 Z i0 i2 i1 h0 n0 wc) v T.heap locs → cells ≤ 5 → slots ≤ 10 → G T g := by subst hG; exact fun X h1 h2 h3 h4 h5 => own_out X hlk h1 h2 h3 h4 h5
  show OwnG p e below s 5 10 (Q_rm0 Z i0 i2 i1 h0 n0 wc) s₁ (entryFrame m #[(.long i0), (.int i1), (.long i2)] maxLocals)
  rw [← hG, ef_rm0 m i0 i1 i2]
  clear hG
  show G s₁ (mkF m 0 #[.val (.long i0), .second, .val (.int i1), .val (.long i2), .second, .unset, .unset, .unset, .unset, .unset, .unset, .unset] [])
  refine gb (fun _ k => XS.iloadN X0.here hx rfl (hb hby at_0) rfl (XS.iconst X0.here hx rfl (hb hby at_1) (XS.iand X0.here hx rfl (hb hby at_2) rfl k))) ?_
  show G s₁ (mkF m 3 #[jv i0, .second, iv i1, jv i2, .second, .unset, .unset, .unset, .unset, .unset, .unset, .unset] [.int (i1 &&& (1 : Int32))])
  by_cases hc3 : (i1 &&& (1 : Int32)) = (0 : Int32)
  · skip
    refine gb (fun _ k => XS.ifYes X0.here hx rfl (pc0 := 3) (pc' := 10) rfl (hb hby at_3) rfl ((if0 _ _).trans (teq hc3).1) (by decide) (by decide) (XS.iconst X0.here hx rfl (hb hby at_10) (XS.istore X0.here hx rfl (hb hby at_11) rfl (l' := #[jv i0, .second, iv i1, jv i2, .second, iv 0, .unset, .unset, .unset, .unset, .unset, .unset]) rfl (XS.iload X0.here hx rfl (hb hby at_13) rfl (XS.ifYes X0.here hx rfl (pc0 := 15) (pc' := 25) rfl (hb hby at_15) rfl ((if0 _ _).trans (teq (by decide : (0 : Int32) = (0 : Int32))).1) (by decide) (by decide) (XS.aconstNull X0.here hx rfl (hb hby at_25) k)))))) ?_
    show G s₁ (mkF m 26 #[jv i0, .second, iv i1, jv i2, .second, iv 0, .unset, .unset, .unset, .unset, .unset, .unset] [.null])
    refine gb (fun _ k => XS.astore X0.here hx rfl (hb hby at_26) rfl rfl (l' := #[jv i0, .second, iv i1, jv i2, .second, iv 0, .val .null, .unset, .unset, .unset, .unset, .unset]) rfl (XS.iloadN X0.here hx rfl (hb hby at_28) rfl (XS.iconst X0.here hx rfl (hb hby at_29) (XS.iand X0.here hx rfl (hb hby at_30) rfl k)))) ?_
    show G s₁ (mkF m 31 #[jv i0, .second, iv i1, jv i2, .second, iv 0, .val .null, .unset, .unset, .unset, .unset, .unset] [.int (i1 &&& (2 : Int32))])
    by_cases hc31 : (i1 &&& (2 : Int32)) = (0 : Int32)
    · skip
      refine gb (fun _ k => XS.ifYes X0.here hx rfl (pc0 := 31) (pc' := 41) rfl (hb hby at_31) rfl ((if0 _ _).trans (teq hc31).1) (by decide) (by decide) (XS.aconstNull X0.here hx rfl (hb hby at_41) (XS.astore X0.here hx rfl (hb hby at_42) rfl rfl (l' := #[jv i0, .second, iv i1, jv i2, .second, iv 0, .val .null, .val .null, .unset, .unset, .unset, .unset]) rfl k))) ?_
      show G s₁ (mkF m 44 #[jv i0, .second, iv i1, jv i2, .second, iv 0, .val .null, .val .null, .unset, .unset, .unset, .unset] [])
      have J1 : ∀ (T1 : State) (locs1 : List Loc) (h1 : Heap) (X1 : Stand p l e room_1 s m #[(.long i0), (.int i1), (.long i2)] below meth c T1 locs1 1 1) (N : Fr n0 locs1) (e1 : T1.heap = h1) (O : Old Z n0 h1)  (v8 : Value) (hr_v8 : v8.isRef = true), G T1 (mkF m 58 #[jv i0, .second, iv i1, jv i2, .second, iv 0, .val .null, .val .null, .unset, .unset, .unset, .unset] [v8]) := by
        intro T1 locs1 h1 X1 N e1 O v8 hr_v8
        show G T1 (mkF m 58 #[jv i0, .second, iv i1, jv i2, .second, iv 0, .val .null, .val .null, .unset, .unset, .unset, .unset] [v8])
        refine gb (fun _ k => XS.astore X1.here hx rfl (hb hby at_58) rfl hr_v8 (l' := #[jv i0, .second, iv i1, jv i2, .second, iv 0, .val .null, .val .null, .val v8, .unset, .unset, .unset]) (by rcases ref_cases hr_v8 with q | ⟨_, q⟩ <;> rw [q] <;> rfl) k) ?_
        show G T1 (mkF m 60 #[jv i0, .second, iv i1, jv i2, .second, iv 0, .val .null, .val .null, .val v8, .unset, .unset, .unset] [])
        have J2 : ∀ (T2 : State) (locs2 : List Loc) (h2 : Heap) (X2 : Stand p l e room_1 s m #[(.long i0), (.int i1), (.long i2)] below meth c T2 locs2 2 2) (N : Fr n0 locs2) (e2 : T2.heap = h2) (O : Old Z n0 h2)  (v9 : Value) (hr_v9 : v9.isRef = true), G T2 (mkF m 75 #[jv i0, .second, iv i1, jv i2, .second, iv 0, .val .null, .val .null, .val v8, .unset, .unset, .unset] [v9]) := by
          intro T2 locs2 h2 X2 N e2 O v9 hr_v9
          show G T2 (mkF m 75 #[jv i0, .second, iv i1, jv i2, .second, iv 0, .val .null, .val .null, .val v8, .unset, .unset, .unset] [v9])
          refine gb (fun _ k => XS.astore X2.here hx rfl (hb hby at_75) rfl hr_v9 (l' := #[jv i0, .second, iv i1, jv i2, .second, iv 0, .val .null, .val .null, .val v8, .val v9, .unset, .unset]) (by rcases ref_cases hr_v9 with q | ⟨_, q⟩ <;> rw [q] <;> rfl) k) ?_
          show G T2 (mkF m 77 #[jv i0, .second, iv i1, jv i2, .second, iv 0, .val .null, .val .null, .val v8, .val v9, .unset, .unset] [])
          obtain ⟨T3, h3, X3, e3, E3, A3, D3, U3, st3⟩ := newO X2 hx hZ hown (ow hw 22 rfl) (ow hw 23 rfl) (ow hw 24 rfl) e2 (g := (mkF m 77 #[jv i0, .second, iv i1, jv i2, .second, iv 0, .val .null, .val .null, .val v8, .val v9, .unset, .unset] [])) rfl (hb hby at_77) (by decide) (by decide)
          obtain ⟨b3, g3⟩ : ∃ z, z = h2.size := ⟨_, rfl⟩
          rw [← g3] at A3 D3 U3 st3
          have g_b3 : n0 ≤ b3 := Nat.le_trans (by have := O.2.1; rw [O.1] at this; exact this) (Nat.le_of_eq g3.symm)
          have O := O.ext E3
          have E_b3 := A3
          have F_command_b3 : Fld Z h3 b3 "com/example/equipe/equipe/JobSpec" "command" "Ljava/util/List;" .null := D3 (Or.inr (ow hw 30 rfl)) (ty := (.object "java/util/List")) (by decide)
          have F_payload_b3 : Fld Z h3 b3 "com/example/equipe/equipe/JobSpec" "payload" "Ljava/lang/String;" .null := D3 (Or.inr (ow hw 32 rfl)) (ty := (.object "java/lang/String")) (by decide)
          have F_maxAttempts_b3 : Fld Z h3 b3 "com/example/equipe/equipe/JobSpec" "maxAttempts" "Ljava/lang/Long;" .null := D3 (Or.inr (ow hw 34 rfl)) (ty := (.object "java/lang/Long")) (by decide)
          have F_timeLimitMs_b3 : Fld Z h3 b3 "com/example/equipe/equipe/JobSpec" "timeLimitMs" "Ljava/lang/Long;" .null := D3 (Or.inr (ow hw 36 rfl)) (ty := (.object "java/lang/Long")) (by decide)
          have F_priority_b3 : Fld Z h3 b3 "com/example/equipe/equipe/JobSpec" "priority" "J" (.long (0 : Int64)) := D3 (Or.inr (ow hw 43 rfl)) (ty := .long) (by decide)
          have F_delayMs_b3 : Fld Z h3 b3 "com/example/equipe/equipe/JobSpec" "delayMs" "Ljava/lang/Long;" .null := D3 (Or.inr (ow hw 45 rfl)) (ty := (.object "java/lang/Long")) (by decide)
          refine gb st3 ?_
          show G T3 (mkF m 80 #[jv i0, .second, iv i1, jv i2, .second, iv 0, .val .null, .val .null, .val v8, .val v9, .unset, .unset] [.ref b3])
          refine gb (fun _ k => XS.dup X3.here hx rfl (hb hby at_80) rfl rfl (XS.aconstNull X3.here hx rfl (hb hby at_81) (XS.aconstNull X3.here hx rfl (hb hby at_82) (XS.aload X3.here hx rfl (hb hby at_83) rfl hr_v8 (XS.aload X3.here hx rfl (hb hby at_85) rfl hr_v9 (XS.aload X3.here hx rfl (hb hby at_87) rfl rfl k)))))) ?_
          show G T3 (mkF m 89 #[jv i0, .second, iv i1, jv i2, .second, iv 0, .val .null, .val .null, .val v8, .val v9, .unset, .unset] [.null, v9, v8, .null, .null, .ref b3, .ref b3])
          refine gb (fun _ k => XS.aload X3.here hx rfl (hb hby at_89) rfl rfl k) ?_
          show G T3 (mkF m 91 #[jv i0, .second, iv i1, jv i2, .second, iv 0, .val .null, .val .null, .val v8, .val v9, .unset, .unset] [.null, .null, v9, v8, .null, .null, .ref b3, .ref b3])
          obtain ⟨_, _, ⟨T4, Lz4, kz4, nz4⟩, -, X4, ⟨Lc4, hQ4, lq4, yq4, zq4⟩, st4⟩ := X3.specialBack hx (y := (⟨"com/example/equipe/equipe/JobSpec", "<init>", "(Ljava/util/List;Ljava/lang/String;Ljava/lang/Long;Ljava/lang/Long;Ljava/lang/Long;Ljava/lang/Long;)V"⟩ : MethodName)) rfl hown (mvT hZ (ow hw 25 rfl)) (mvT hZ (ow hw 26 rfl)) (mvT hZ (ow hw 27 rfl)) (by decide) (backOf (W := 1) (rm5_00 l Z a0 hw [] b3 v8 v9 h3 n0 O hr_v8 hr_v9 E_b3 F_command_b3 F_payload_b3 F_maxAttempts_b3 F_timeLimitMs_b3 F_priority_b3 F_delayMs_b3 g_b3) hZ (ow hw 27 rfl) (ow hw 24 rfl) (by decide) (by decide)) (g := (mkF m 91 #[jv i0, .second, iv i1, jv i2, .second, iv 0, .val .null, .val .null, .val v8, .val v9, .unset, .unset] [.null, .null, v9, v8, .null, .null, .ref b3, .ref b3])) rfl (by rw [hml]; rfl) (Steps.refl _) (a := b3) (argsL := [.null, .null, v8, v9, .null, .null]) (rest := [(.ref b3)]) (lenOf pd_3 rfl) rfl (by show 2 * 0 + _ ≤ _; exact Nat.le_of_eq rfl) (hb hby at_91) (fun _ _ => ⟨rfl, e3, (by decide : 3 + 0 ≤ _), (by decide : 8 + 0 ≤ _)⟩)
          dsimp only [Pt.U, Pt.locs, Pt.cells, Pt.slots] at X4 lq4 yq4 zq4 st4 hQ4
          subst lq4 yq4 zq4
          obtain ⟨h4, e4⟩ : ∃ z, z = T4.heap := ⟨_, rfl⟩
          rw [← e4] at hQ4
          replace e4 := e4.symm
          obtain ⟨rfl, Nq4, Kq4, hR4⟩ := hQ4
          have N := Fr.app N Nq4
          have E_b3 := E_b3.keep Kq4
          obtain ⟨E_b3, F_delayMs_b3⟩ := hR4
          have O := O.keep Kq4 (allS g_b3 all0)
          refine gb (fun _ k => st4.trans k) ?_
          show G T4 (mkF m 94 #[jv i0, .second, iv i1, jv i2, .second, iv 0, .val .null, .val .null, .val v8, .val v9, .unset, .unset] [.ref b3])
          refine gb (fun _ k => XS.astore X4.here hx rfl (hb hby at_94) rfl rfl (l' := #[jv i0, .second, iv i1, jv i2, .second, iv 0, .val .null, .val .null, .val v8, .val v9, rv b3, .unset]) rfl (XS.iload X4.here hx rfl (hb hby at_96) rfl (XS.ifNo X4.here hx rfl (hb hby at_98) rfl ((if0 _ _).trans (teq (by decide : (0 : Int32) = (0 : Int32))).2) (XS.iconst X4.here hx rfl (hb hby at_101) (XS.istore X4.here hx rfl (hb hby at_102) rfl (l' := #[jv i0, .second, iv i1, jv i2, .second, iv 0, .val .null, .val .null, .val v8, .val v9, rv b3, iv 0]) rfl (XS.goto X4.here hx rfl (pc0 := 104) (pc' := 134) rfl (hb hby at_104) (by decide) (by decide) k)))))) ?_
          show G T4 (mkF m 134 #[jv i0, .second, iv i1, jv i2, .second, iv 0, .val .null, .val .null, .val v8, .val v9, rv b3, iv 0] [])
          refine gb (fun _ k => XS.aload X4.here hx rfl (hb hby at_134) rfl rfl k) ?_
          show G T4 (mkF m 136 #[jv i0, .second, iv i1, jv i2, .second, iv 0, .val .null, .val .null, .val v8, .val v9, rv b3, iv 0] [.ref b3])
          obtain ⟨cq5, kq5, q5a, q5b, q5c⟩ := isOf hZ e4 E_b3
          obtain ⟨_, _, ⟨T5, Lz5, kz5, nz5⟩, -, X5, ⟨Lc5, hQ5, lq5, yq5, zq5⟩, st5⟩ := X4.virtualBack hx (y := (⟨"com/example/equipe/equipe/JobSpec", "isDelayed", "()Z"⟩ : MethodName)) (z := (⟨"com/example/equipe/equipe/JobSpec", "isDelayed", "()Z"⟩ : MethodName)) hown (mvT hZ (ow hw 46 rfl)) (mvT hZ (ow hw 47 rfl)) (notFace_of_selects (args := #[]) (mvT hZ (ow hw 49 rfl))) (mvT hZ (ow hw 49 rfl)) (mvT hZ (ow hw 48 rfl)) (by decide) (backOf (W := 0) (rm7_0 l Z a0 hw [] b3 h4 n0 O F_delayMs_b3) hZ (ow hw 50 rfl) (ow hw 24 rfl) (by decide) (by decide)) q5a q5c (g := (mkF m 136 #[jv i0, .second, iv i1, jv i2, .second, iv 0, .val .null, .val .null, .val v8, .val v9, rv b3, iv 0] [.ref b3])) rfl (by rw [hml]; rfl) (Steps.refl _) (argsL := []) (rest := []) (lenOf pd_4 rfl) rfl (by show 2 * 0 + _ ≤ _; exact Nat.le_of_eq rfl) (hb hby at_136) (fun _ _ => ⟨rfl, e4, (by decide : 3 + 0 ≤ _), (by decide : 8 + 0 ≤ _)⟩)
          dsimp only [Pt.U, Pt.locs, Pt.cells, Pt.slots] at X5 lq5 yq5 zq5 st5 hQ5
          subst lq5 yq5 zq5
          obtain ⟨rfl, rfl, e5⟩ := hQ5
          try rw [List.append_nil] at X5
          refine gb (fun _ k => st5.trans k) ?_
          show G T5 (mkF m 139 #[jv i0, .second, iv i1, jv i2, .second, iv 0, .val .null, .val .null, .val v8, .val v9, rv b3, iv 0] [.int 0])
          refine gb (fun _ k => XS.iload X5.here hx rfl (hb hby at_139) rfl (XS.icmpNo X5.here hx rfl (hb hby at_141) rfl (teq (by decide : (0 : Int32) = (0 : Int32))).2 (XS.iconst X5.here hx rfl (hb hby at_144) (XS.goto X5.here hx rfl (pc0 := 145) (pc' := 149) rfl (hb hby at_145) (by decide) (by decide) k)))) ?_
          show G T5 (mkF m 149 #[jv i0, .second, iv i1, jv i2, .second, iv 0, .val .null, .val .null, .val v8, .val v9, rv b3, iv 0] [.int 1])
          exact go X5 (v := (some (.int (1 : Int32)))) (fun h => by rw [Bd.returns] at h; cases h) (fun fs hr => retOut X5 hx Bd.returns rfl (Or.inl ⟨rfl, by simp, _, rfl⟩) (hb hby at_149) hr) (⟨rfl, N⟩) (by decide) (by decide)
        refine gb (fun _ k => XS.iloadN X1.here hx rfl (hb hby at_60) rfl (XS.bipush X1.here hx rfl (hb hby at_61) (XS.iand X1.here hx rfl (hb hby at_63) rfl k))) ?_
        show G T1 (mkF m 64 #[jv i0, .second, iv i1, jv i2, .second, iv 0, .val .null, .val .null, .val v8, .unset, .unset, .unset] [.int (i1 &&& (8 : Int32))])
        by_cases hc64 : (i1 &&& (8 : Int32)) = (0 : Int32)
        · skip
          refine gb (fun _ k => XS.ifYes X1.here hx rfl (pc0 := 64) (pc' := 74) rfl (hb hby at_64) rfl ((if0 _ _).trans (teq hc64).1) (by decide) (by decide) (XS.aconstNull X1.here hx rfl (hb hby at_74) k)) ?_
          show G T1 (mkF m 75 #[jv i0, .second, iv i1, jv i2, .second, iv 0, .val .null, .val .null, .val v8, .unset, .unset, .unset] [.null])
          exact J2 _ _ _ (X1.more (by decide) (by decide)) N e1 O (.null) (rfl)
        · skip
          refine gb (fun _ k => XS.ifNo X1.here hx rfl (hb hby at_64) rfl ((if0 _ _).trans (feq hc64).1) (XS.lloadN X1.here hx rfl (hb hby at_67) rfl k)) ?_
          show G T1 (mkF m 68 #[jv i0, .second, iv i1, jv i2, .second, iv 0, .val .null, .val .null, .val v8, .unset, .unset, .unset] [.long i0])
          obtain ⟨_, _, ⟨T6, Lz6, kz6, nz6⟩, -, X6, ⟨Lc6, hQ6, lq6, yq6, zq6⟩, st6⟩ := Jvm.LawKit.callS X1 hx (y := (⟨"java/lang/Long", "valueOf", "(J)Ljava/lang/Long;"⟩ : MethodName)) hown (mvT hZ (ow hw 0 rfl)) (mvT hZ (ow hw 1 rfl)) (mvT hZ (ow hw 2 rfl)) (mvT hZ (ow hw 3 rfl)) (by decide) (backOf (W := 0) (rm1 l Z a0 hw [] i0 h1 n0 O wc cc S_c BX) hZ (ow hw 3 rfl) (ow hw 2 rfl) (by decide) (by decide)) (g := (mkF m 68 #[jv i0, .second, iv i1, jv i2, .second, iv 0, .val .null, .val .null, .val v8, .unset, .unset, .unset] [.long i0])) rfl (by rw [hml]; rfl) (argsL := [(.long i0)]) (rest := []) (lenOf pd_5 rfl) rfl (by show 2 * 0 + _ ≤ _; exact Nat.le_of_eq rfl) (hb hby at_68) (fun _ _ => ⟨rfl, e1, (by decide : 1 + 1 ≤ _), (by decide : 1 + 1 ≤ _)⟩)
          dsimp only [Pt.U, Pt.locs, Pt.cells, Pt.slots] at X6 lq6 yq6 zq6 st6 hQ6
          subst lq6 yq6 zq6
          obtain ⟨h6, e6⟩ : ∃ z, z = T6.heap := ⟨_, rfl⟩
          rw [← e6] at hQ6
          replace e6 := e6.symm
          obtain ⟨b6, rfl, Nq6, Kq6, hR6⟩ := hQ6
          have N := Fr.app N Nq6
          obtain ⟨E_b6, F_value_b6⟩ := hR6
          have O := O.keep Kq6 all0
          refine gb st6 ?_
          show G T6 (mkF m 71 #[jv i0, .second, iv i1, jv i2, .second, iv 0, .val .null, .val .null, .val v8, .unset, .unset, .unset] [.ref b6])
          refine gb (fun _ k => XS.goto X6.here hx rfl (pc0 := 71) (pc' := 75) rfl (hb hby at_71) (by decide) (by decide) k) ?_
          show G T6 (mkF m 75 #[jv i0, .second, iv i1, jv i2, .second, iv 0, .val .null, .val .null, .val v8, .unset, .unset, .unset] [.ref b6])
          exact J2 _ _ _ X6 N e6 O ((.ref b6)) (rfl)
      refine gb (fun _ k => XS.iloadN X0.here hx rfl (hb hby at_44) rfl (XS.iconst X0.here hx rfl (hb hby at_45) (XS.iand X0.here hx rfl (hb hby at_46) rfl k))) ?_
      show G s₁ (mkF m 47 #[jv i0, .second, iv i1, jv i2, .second, iv 0, .val .null, .val .null, .unset, .unset, .unset, .unset] [.int (i1 &&& (4 : Int32))])
      by_cases hc47 : (i1 &&& (4 : Int32)) = (0 : Int32)
      · skip
        refine gb (fun _ k => XS.ifYes X0.here hx rfl (pc0 := 47) (pc' := 57) rfl (hb hby at_47) rfl ((if0 _ _).trans (teq hc47).1) (by decide) (by decide) (XS.aconstNull X0.here hx rfl (hb hby at_57) k)) ?_
        show G s₁ (mkF m 58 #[jv i0, .second, iv i1, jv i2, .second, iv 0, .val .null, .val .null, .unset, .unset, .unset, .unset] [.null])
        exact J1 _ _ _ (X0.more (by decide) (by decide)) N e0 O (.null) (rfl)
      · skip
        refine gb (fun _ k => XS.ifNo X0.here hx rfl (hb hby at_47) rfl ((if0 _ _).trans (feq hc47).1) (XS.lloadN X0.here hx rfl (hb hby at_50) rfl k)) ?_
        show G s₁ (mkF m 51 #[jv i0, .second, iv i1, jv i2, .second, iv 0, .val .null, .val .null, .unset, .unset, .unset, .unset] [.long i2])
        obtain ⟨_, _, ⟨T7, Lz7, kz7, nz7⟩, -, X7, ⟨Lc7, hQ7, lq7, yq7, zq7⟩, st7⟩ := Jvm.LawKit.callS X0 hx (y := (⟨"java/lang/Long", "valueOf", "(J)Ljava/lang/Long;"⟩ : MethodName)) hown (mvT hZ (ow hw 0 rfl)) (mvT hZ (ow hw 1 rfl)) (mvT hZ (ow hw 2 rfl)) (mvT hZ (ow hw 3 rfl)) (by decide) (backOf (W := 0) (rm1 l Z a0 hw [] i2 h0 n0 O wc cc S_c BX) hZ (ow hw 3 rfl) (ow hw 2 rfl) (by decide) (by decide)) (g := (mkF m 51 #[jv i0, .second, iv i1, jv i2, .second, iv 0, .val .null, .val .null, .unset, .unset, .unset, .unset] [.long i2])) rfl (by rw [hml]; rfl) (argsL := [(.long i2)]) (rest := []) (lenOf pd_5 rfl) rfl (by show 2 * 0 + _ ≤ _; exact Nat.le_of_eq rfl) (hb hby at_51) (fun _ _ => ⟨rfl, e0, (by decide : 0 + 1 ≤ _), (by decide : 0 + 1 ≤ _)⟩)
        dsimp only [Pt.U, Pt.locs, Pt.cells, Pt.slots] at X7 lq7 yq7 zq7 st7 hQ7
        subst lq7 yq7 zq7
        obtain ⟨h7, e7⟩ : ∃ z, z = T7.heap := ⟨_, rfl⟩
        rw [← e7] at hQ7
        replace e7 := e7.symm
        obtain ⟨b7, rfl, Nq7, Kq7, hR7⟩ := hQ7
        have N := Fr.app N Nq7
        obtain ⟨E_b7, F_value_b7⟩ := hR7
        have O := O.keep Kq7 all0
        refine gb st7 ?_
        show G T7 (mkF m 54 #[jv i0, .second, iv i1, jv i2, .second, iv 0, .val .null, .val .null, .unset, .unset, .unset, .unset] [.ref b7])
        refine gb (fun _ k => XS.goto X7.here hx rfl (pc0 := 54) (pc' := 58) rfl (hb hby at_54) (by decide) (by decide) k) ?_
        show G T7 (mkF m 58 #[jv i0, .second, iv i1, jv i2, .second, iv 0, .val .null, .val .null, .unset, .unset, .unset, .unset] [.ref b7])
        exact J1 _ _ _ X7 N e7 O ((.ref b7)) (rfl)
    · skip
      refine gb (fun _ k => XS.ifNo X0.here hx rfl (hb hby at_31) rfl ((if0 _ _).trans (feq hc31).1) (XS.lloadN X0.here hx rfl (hb hby at_34) rfl k)) ?_
      show G s₁ (mkF m 35 #[jv i0, .second, iv i1, jv i2, .second, iv 0, .val .null, .unset, .unset, .unset, .unset, .unset] [.long i2])
      obtain ⟨_, _, ⟨T8, Lz8, kz8, nz8⟩, -, X8, ⟨Lc8, hQ8, lq8, yq8, zq8⟩, st8⟩ := Jvm.LawKit.callS X0 hx (y := (⟨"java/lang/Long", "valueOf", "(J)Ljava/lang/Long;"⟩ : MethodName)) hown (mvT hZ (ow hw 0 rfl)) (mvT hZ (ow hw 1 rfl)) (mvT hZ (ow hw 2 rfl)) (mvT hZ (ow hw 3 rfl)) (by decide) (backOf (W := 0) (rm1 l Z a0 hw [] i2 h0 n0 O wc cc S_c BX) hZ (ow hw 3 rfl) (ow hw 2 rfl) (by decide) (by decide)) (g := (mkF m 35 #[jv i0, .second, iv i1, jv i2, .second, iv 0, .val .null, .unset, .unset, .unset, .unset, .unset] [.long i2])) rfl (by rw [hml]; rfl) (argsL := [(.long i2)]) (rest := []) (lenOf pd_5 rfl) rfl (by show 2 * 0 + _ ≤ _; exact Nat.le_of_eq rfl) (hb hby at_35) (fun _ _ => ⟨rfl, e0, (by decide : 0 + 1 ≤ _), (by decide : 0 + 1 ≤ _)⟩)
      dsimp only [Pt.U, Pt.locs, Pt.cells, Pt.slots] at X8 lq8 yq8 zq8 st8 hQ8
      subst lq8 yq8 zq8
      obtain ⟨h8, e8⟩ : ∃ z, z = T8.heap := ⟨_, rfl⟩
      rw [← e8] at hQ8
      replace e8 := e8.symm
      obtain ⟨b8, rfl, Nq8, Kq8, hR8⟩ := hQ8
      have N := Fr.app N Nq8
      obtain ⟨E_b8, F_value_b8⟩ := hR8
      have O := O.keep Kq8 all0
      refine gb st8 ?_
      show G T8 (mkF m 38 #[jv i0, .second, iv i1, jv i2, .second, iv 0, .val .null, .unset, .unset, .unset, .unset, .unset] [.ref b8])
      refine gb (fun _ k => XS.goto X8.here hx rfl (pc0 := 38) (pc' := 42) rfl (hb hby at_38) (by decide) (by decide) (XS.astore X8.here hx rfl (hb hby at_42) rfl rfl (l' := #[jv i0, .second, iv i1, jv i2, .second, iv 0, .val .null, rv b8, .unset, .unset, .unset, .unset]) rfl k)) ?_
      show G T8 (mkF m 44 #[jv i0, .second, iv i1, jv i2, .second, iv 0, .val .null, rv b8, .unset, .unset, .unset, .unset] [])
      have J9 : ∀ (T9 : State) (locs9 : List Loc) (h9 : Heap) (X9 : Stand p l e room_1 s m #[(.long i0), (.int i1), (.long i2)] below meth c T9 locs9 2 2) (N : Fr n0 locs9) (e9 : T9.heap = h9) (O : Old Z n0 h9) (E_b8 : Exa Z h9 b8 "java/lang/Long") (F_value_b8 : Fld Z h9 b8 "java/lang/Long" "value" "J" (.long i2)) (v8 : Value) (hr_v8 : v8.isRef = true), G T9 (mkF m 58 #[jv i0, .second, iv i1, jv i2, .second, iv 0, .val .null, rv b8, .unset, .unset, .unset, .unset] [v8]) := by
        intro T9 locs9 h9 X9 N e9 O E_b8 F_value_b8 v8 hr_v8
        show G T9 (mkF m 58 #[jv i0, .second, iv i1, jv i2, .second, iv 0, .val .null, rv b8, .unset, .unset, .unset, .unset] [v8])
        refine gb (fun _ k => XS.astore X9.here hx rfl (hb hby at_58) rfl hr_v8 (l' := #[jv i0, .second, iv i1, jv i2, .second, iv 0, .val .null, rv b8, .val v8, .unset, .unset, .unset]) (by rcases ref_cases hr_v8 with q | ⟨_, q⟩ <;> rw [q] <;> rfl) k) ?_
        show G T9 (mkF m 60 #[jv i0, .second, iv i1, jv i2, .second, iv 0, .val .null, rv b8, .val v8, .unset, .unset, .unset] [])
        have J10 : ∀ (T10 : State) (locs10 : List Loc) (h10 : Heap) (X10 : Stand p l e room_1 s m #[(.long i0), (.int i1), (.long i2)] below meth c T10 locs10 3 3) (N : Fr n0 locs10) (e10 : T10.heap = h10) (O : Old Z n0 h10) (E_b8 : Exa Z h10 b8 "java/lang/Long") (F_value_b8 : Fld Z h10 b8 "java/lang/Long" "value" "J" (.long i2)) (v9 : Value) (hr_v9 : v9.isRef = true), G T10 (mkF m 75 #[jv i0, .second, iv i1, jv i2, .second, iv 0, .val .null, rv b8, .val v8, .unset, .unset, .unset] [v9]) := by
          intro T10 locs10 h10 X10 N e10 O E_b8 F_value_b8 v9 hr_v9
          show G T10 (mkF m 75 #[jv i0, .second, iv i1, jv i2, .second, iv 0, .val .null, rv b8, .val v8, .unset, .unset, .unset] [v9])
          refine gb (fun _ k => XS.astore X10.here hx rfl (hb hby at_75) rfl hr_v9 (l' := #[jv i0, .second, iv i1, jv i2, .second, iv 0, .val .null, rv b8, .val v8, .val v9, .unset, .unset]) (by rcases ref_cases hr_v9 with q | ⟨_, q⟩ <;> rw [q] <;> rfl) k) ?_
          show G T10 (mkF m 77 #[jv i0, .second, iv i1, jv i2, .second, iv 0, .val .null, rv b8, .val v8, .val v9, .unset, .unset] [])
          obtain ⟨T11, h11, X11, e11, E11, A11, D11, U11, st11⟩ := newO X10 hx hZ hown (ow hw 22 rfl) (ow hw 23 rfl) (ow hw 24 rfl) e10 (g := (mkF m 77 #[jv i0, .second, iv i1, jv i2, .second, iv 0, .val .null, rv b8, .val v8, .val v9, .unset, .unset] [])) rfl (hb hby at_77) (by decide) (by decide)
          obtain ⟨b11, g11⟩ : ∃ z, z = h10.size := ⟨_, rfl⟩
          rw [← g11] at A11 D11 U11 st11
          have g_b11 : n0 ≤ b11 := Nat.le_trans (by have := O.2.1; rw [O.1] at this; exact this) (Nat.le_of_eq g11.symm)
          have ne_b8_b11 : b8 ≠ b11 := Nat.ne_of_lt (Nat.lt_of_lt_of_le E_b8.lt (Nat.le_of_eq g11.symm))
          have E_b8 := E_b8.ext E11
          have F_value_b8 := F_value_b8.ext E11
          have O := O.ext E11
          have E_b11 := A11
          have F_command_b11 : Fld Z h11 b11 "com/example/equipe/equipe/JobSpec" "command" "Ljava/util/List;" .null := D11 (Or.inr (ow hw 30 rfl)) (ty := (.object "java/util/List")) (by decide)
          have F_payload_b11 : Fld Z h11 b11 "com/example/equipe/equipe/JobSpec" "payload" "Ljava/lang/String;" .null := D11 (Or.inr (ow hw 32 rfl)) (ty := (.object "java/lang/String")) (by decide)
          have F_maxAttempts_b11 : Fld Z h11 b11 "com/example/equipe/equipe/JobSpec" "maxAttempts" "Ljava/lang/Long;" .null := D11 (Or.inr (ow hw 34 rfl)) (ty := (.object "java/lang/Long")) (by decide)
          have F_timeLimitMs_b11 : Fld Z h11 b11 "com/example/equipe/equipe/JobSpec" "timeLimitMs" "Ljava/lang/Long;" .null := D11 (Or.inr (ow hw 36 rfl)) (ty := (.object "java/lang/Long")) (by decide)
          have F_priority_b11 : Fld Z h11 b11 "com/example/equipe/equipe/JobSpec" "priority" "J" (.long (0 : Int64)) := D11 (Or.inr (ow hw 43 rfl)) (ty := .long) (by decide)
          have F_delayMs_b11 : Fld Z h11 b11 "com/example/equipe/equipe/JobSpec" "delayMs" "Ljava/lang/Long;" .null := D11 (Or.inr (ow hw 45 rfl)) (ty := (.object "java/lang/Long")) (by decide)
          refine gb st11 ?_
          show G T11 (mkF m 80 #[jv i0, .second, iv i1, jv i2, .second, iv 0, .val .null, rv b8, .val v8, .val v9, .unset, .unset] [.ref b11])
          refine gb (fun _ k => XS.dup X11.here hx rfl (hb hby at_80) rfl rfl (XS.aconstNull X11.here hx rfl (hb hby at_81) (XS.aconstNull X11.here hx rfl (hb hby at_82) (XS.aload X11.here hx rfl (hb hby at_83) rfl hr_v8 (XS.aload X11.here hx rfl (hb hby at_85) rfl hr_v9 (XS.aload X11.here hx rfl (hb hby at_87) rfl rfl k)))))) ?_
          show G T11 (mkF m 89 #[jv i0, .second, iv i1, jv i2, .second, iv 0, .val .null, rv b8, .val v8, .val v9, .unset, .unset] [.ref b8, v9, v8, .null, .null, .ref b11, .ref b11])
          refine gb (fun _ k => XS.aload X11.here hx rfl (hb hby at_89) rfl rfl k) ?_
          show G T11 (mkF m 91 #[jv i0, .second, iv i1, jv i2, .second, iv 0, .val .null, rv b8, .val v8, .val v9, .unset, .unset] [.null, .ref b8, v9, v8, .null, .null, .ref b11, .ref b11])
          obtain ⟨_, _, ⟨T12, Lz12, kz12, nz12⟩, -, X12, ⟨Lc12, hQ12, lq12, yq12, zq12⟩, st12⟩ := X11.specialBack hx (y := (⟨"com/example/equipe/equipe/JobSpec", "<init>", "(Ljava/util/List;Ljava/lang/String;Ljava/lang/Long;Ljava/lang/Long;Ljava/lang/Long;Ljava/lang/Long;)V"⟩ : MethodName)) rfl hown (mvT hZ (ow hw 25 rfl)) (mvT hZ (ow hw 26 rfl)) (mvT hZ (ow hw 27 rfl)) (by decide) (backOf (W := 1) (rm5_10 l Z a0 hw [] b11 v8 v9 b8 i2 h11 n0 O hr_v8 hr_v9 E_b11 F_command_b11 F_payload_b11 F_maxAttempts_b11 F_timeLimitMs_b11 F_priority_b11 F_delayMs_b11 g_b11 E_b8 F_value_b8 ne_b8_b11) hZ (ow hw 27 rfl) (ow hw 24 rfl) (by decide) (by decide)) (g := (mkF m 91 #[jv i0, .second, iv i1, jv i2, .second, iv 0, .val .null, rv b8, .val v8, .val v9, .unset, .unset] [.null, .ref b8, v9, v8, .null, .null, .ref b11, .ref b11])) rfl (by rw [hml]; rfl) (Steps.refl _) (a := b11) (argsL := [.null, .null, v8, v9, (.ref b8), .null]) (rest := [(.ref b11)]) (lenOf pd_3 rfl) rfl (by show 2 * 0 + _ ≤ _; exact Nat.le_of_eq rfl) (hb hby at_91) (fun _ _ => ⟨rfl, e11, (by decide : 4 + 0 ≤ _), (by decide : 9 + 0 ≤ _)⟩)
          dsimp only [Pt.U, Pt.locs, Pt.cells, Pt.slots] at X12 lq12 yq12 zq12 st12 hQ12
          subst lq12 yq12 zq12
          obtain ⟨h12, e12⟩ : ∃ z, z = T12.heap := ⟨_, rfl⟩
          rw [← e12] at hQ12
          replace e12 := e12.symm
          obtain ⟨rfl, Nq12, Kq12, hR12⟩ := hQ12
          have N := Fr.app N Nq12
          have E_b8 := E_b8.keep Kq12
          have F_value_b8 := F_value_b8.keep Kq12 (ninS ne_b8_b11 nin0)
          have E_b11 := E_b11.keep Kq12
          obtain ⟨E_b11, F_delayMs_b11⟩ := hR12
          have O := O.keep Kq12 (allS g_b11 all0)
          refine gb (fun _ k => st12.trans k) ?_
          show G T12 (mkF m 94 #[jv i0, .second, iv i1, jv i2, .second, iv 0, .val .null, rv b8, .val v8, .val v9, .unset, .unset] [.ref b11])
          refine gb (fun _ k => XS.astore X12.here hx rfl (hb hby at_94) rfl rfl (l' := #[jv i0, .second, iv i1, jv i2, .second, iv 0, .val .null, rv b8, .val v8, .val v9, rv b11, .unset]) rfl (XS.iload X12.here hx rfl (hb hby at_96) rfl (XS.ifNo X12.here hx rfl (hb hby at_98) rfl ((if0 _ _).trans (teq (by decide : (0 : Int32) = (0 : Int32))).2) (XS.iconst X12.here hx rfl (hb hby at_101) (XS.istore X12.here hx rfl (hb hby at_102) rfl (l' := #[jv i0, .second, iv i1, jv i2, .second, iv 0, .val .null, rv b8, .val v8, .val v9, rv b11, iv 0]) rfl (XS.goto X12.here hx rfl (pc0 := 104) (pc' := 134) rfl (hb hby at_104) (by decide) (by decide) k)))))) ?_
          show G T12 (mkF m 134 #[jv i0, .second, iv i1, jv i2, .second, iv 0, .val .null, rv b8, .val v8, .val v9, rv b11, iv 0] [])
          refine gb (fun _ k => XS.aload X12.here hx rfl (hb hby at_134) rfl rfl k) ?_
          show G T12 (mkF m 136 #[jv i0, .second, iv i1, jv i2, .second, iv 0, .val .null, rv b8, .val v8, .val v9, rv b11, iv 0] [.ref b11])
          obtain ⟨cq13, kq13, q13a, q13b, q13c⟩ := isOf hZ e12 E_b11
          obtain ⟨_, _, ⟨T13, Lz13, kz13, nz13⟩, -, X13, ⟨Lc13, hQ13, lq13, yq13, zq13⟩, st13⟩ := X12.virtualBack hx (y := (⟨"com/example/equipe/equipe/JobSpec", "isDelayed", "()Z"⟩ : MethodName)) (z := (⟨"com/example/equipe/equipe/JobSpec", "isDelayed", "()Z"⟩ : MethodName)) hown (mvT hZ (ow hw 46 rfl)) (mvT hZ (ow hw 47 rfl)) (notFace_of_selects (args := #[]) (mvT hZ (ow hw 49 rfl))) (mvT hZ (ow hw 49 rfl)) (mvT hZ (ow hw 48 rfl)) (by decide) (backOf (W := 0) (rm7_0 l Z a0 hw [] b11 h12 n0 O F_delayMs_b11) hZ (ow hw 50 rfl) (ow hw 24 rfl) (by decide) (by decide)) q13a q13c (g := (mkF m 136 #[jv i0, .second, iv i1, jv i2, .second, iv 0, .val .null, rv b8, .val v8, .val v9, rv b11, iv 0] [.ref b11])) rfl (by rw [hml]; rfl) (Steps.refl _) (argsL := []) (rest := []) (lenOf pd_4 rfl) rfl (by show 2 * 0 + _ ≤ _; exact Nat.le_of_eq rfl) (hb hby at_136) (fun _ _ => ⟨rfl, e12, (by decide : 4 + 0 ≤ _), (by decide : 9 + 0 ≤ _)⟩)
          dsimp only [Pt.U, Pt.locs, Pt.cells, Pt.slots] at X13 lq13 yq13 zq13 st13 hQ13
          subst lq13 yq13 zq13
          obtain ⟨rfl, rfl, e13⟩ := hQ13
          try rw [List.append_nil] at X13
          refine gb (fun _ k => st13.trans k) ?_
          show G T13 (mkF m 139 #[jv i0, .second, iv i1, jv i2, .second, iv 0, .val .null, rv b8, .val v8, .val v9, rv b11, iv 0] [.int 0])
          refine gb (fun _ k => XS.iload X13.here hx rfl (hb hby at_139) rfl (XS.icmpNo X13.here hx rfl (hb hby at_141) rfl (teq (by decide : (0 : Int32) = (0 : Int32))).2 (XS.iconst X13.here hx rfl (hb hby at_144) (XS.goto X13.here hx rfl (pc0 := 145) (pc' := 149) rfl (hb hby at_145) (by decide) (by decide) k)))) ?_
          show G T13 (mkF m 149 #[jv i0, .second, iv i1, jv i2, .second, iv 0, .val .null, rv b8, .val v8, .val v9, rv b11, iv 0] [.int 1])
          exact go X13 (v := (some (.int (1 : Int32)))) (fun h => by rw [Bd.returns] at h; cases h) (fun fs hr => retOut X13 hx Bd.returns rfl (Or.inl ⟨rfl, by simp, _, rfl⟩) (hb hby at_149) hr) (⟨rfl, N⟩) (by decide) (by decide)
        refine gb (fun _ k => XS.iloadN X9.here hx rfl (hb hby at_60) rfl (XS.bipush X9.here hx rfl (hb hby at_61) (XS.iand X9.here hx rfl (hb hby at_63) rfl k))) ?_
        show G T9 (mkF m 64 #[jv i0, .second, iv i1, jv i2, .second, iv 0, .val .null, rv b8, .val v8, .unset, .unset, .unset] [.int (i1 &&& (8 : Int32))])
        by_cases hc64 : (i1 &&& (8 : Int32)) = (0 : Int32)
        · skip
          refine gb (fun _ k => XS.ifYes X9.here hx rfl (pc0 := 64) (pc' := 74) rfl (hb hby at_64) rfl ((if0 _ _).trans (teq hc64).1) (by decide) (by decide) (XS.aconstNull X9.here hx rfl (hb hby at_74) k)) ?_
          show G T9 (mkF m 75 #[jv i0, .second, iv i1, jv i2, .second, iv 0, .val .null, rv b8, .val v8, .unset, .unset, .unset] [.null])
          exact J10 _ _ _ (X9.more (by decide) (by decide)) N e9 O E_b8 F_value_b8 (.null) (rfl)
        · skip
          refine gb (fun _ k => XS.ifNo X9.here hx rfl (hb hby at_64) rfl ((if0 _ _).trans (feq hc64).1) (XS.lloadN X9.here hx rfl (hb hby at_67) rfl k)) ?_
          show G T9 (mkF m 68 #[jv i0, .second, iv i1, jv i2, .second, iv 0, .val .null, rv b8, .val v8, .unset, .unset, .unset] [.long i0])
          obtain ⟨_, _, ⟨T14, Lz14, kz14, nz14⟩, -, X14, ⟨Lc14, hQ14, lq14, yq14, zq14⟩, st14⟩ := Jvm.LawKit.callS X9 hx (y := (⟨"java/lang/Long", "valueOf", "(J)Ljava/lang/Long;"⟩ : MethodName)) hown (mvT hZ (ow hw 0 rfl)) (mvT hZ (ow hw 1 rfl)) (mvT hZ (ow hw 2 rfl)) (mvT hZ (ow hw 3 rfl)) (by decide) (backOf (W := 0) (rm1 l Z a0 hw [] i0 h9 n0 O wc cc S_c BX) hZ (ow hw 3 rfl) (ow hw 2 rfl) (by decide) (by decide)) (g := (mkF m 68 #[jv i0, .second, iv i1, jv i2, .second, iv 0, .val .null, rv b8, .val v8, .unset, .unset, .unset] [.long i0])) rfl (by rw [hml]; rfl) (argsL := [(.long i0)]) (rest := []) (lenOf pd_5 rfl) rfl (by show 2 * 0 + _ ≤ _; exact Nat.le_of_eq rfl) (hb hby at_68) (fun _ _ => ⟨rfl, e9, (by decide : 2 + 1 ≤ _), (by decide : 2 + 1 ≤ _)⟩)
          dsimp only [Pt.U, Pt.locs, Pt.cells, Pt.slots] at X14 lq14 yq14 zq14 st14 hQ14
          subst lq14 yq14 zq14
          obtain ⟨h14, e14⟩ : ∃ z, z = T14.heap := ⟨_, rfl⟩
          rw [← e14] at hQ14
          replace e14 := e14.symm
          obtain ⟨b14, rfl, Nq14, Kq14, hR14⟩ := hQ14
          have N := Fr.app N Nq14
          have E_b8 := E_b8.keep Kq14
          have F_value_b8 := F_value_b8.keep Kq14 nin0
          obtain ⟨E_b14, F_value_b14⟩ := hR14
          have O := O.keep Kq14 all0
          refine gb st14 ?_
          show G T14 (mkF m 71 #[jv i0, .second, iv i1, jv i2, .second, iv 0, .val .null, rv b8, .val v8, .unset, .unset, .unset] [.ref b14])
          refine gb (fun _ k => XS.goto X14.here hx rfl (pc0 := 71) (pc' := 75) rfl (hb hby at_71) (by decide) (by decide) k) ?_
          show G T14 (mkF m 75 #[jv i0, .second, iv i1, jv i2, .second, iv 0, .val .null, rv b8, .val v8, .unset, .unset, .unset] [.ref b14])
          exact J10 _ _ _ X14 N e14 O E_b8 F_value_b8 ((.ref b14)) (rfl)
      refine gb (fun _ k => XS.iloadN X8.here hx rfl (hb hby at_44) rfl (XS.iconst X8.here hx rfl (hb hby at_45) (XS.iand X8.here hx rfl (hb hby at_46) rfl k))) ?_
      show G T8 (mkF m 47 #[jv i0, .second, iv i1, jv i2, .second, iv 0, .val .null, rv b8, .unset, .unset, .unset, .unset] [.int (i1 &&& (4 : Int32))])
      by_cases hc47 : (i1 &&& (4 : Int32)) = (0 : Int32)
      · skip
        refine gb (fun _ k => XS.ifYes X8.here hx rfl (pc0 := 47) (pc' := 57) rfl (hb hby at_47) rfl ((if0 _ _).trans (teq hc47).1) (by decide) (by decide) (XS.aconstNull X8.here hx rfl (hb hby at_57) k)) ?_
        show G T8 (mkF m 58 #[jv i0, .second, iv i1, jv i2, .second, iv 0, .val .null, rv b8, .unset, .unset, .unset, .unset] [.null])
        exact J9 _ _ _ (X8.more (by decide) (by decide)) N e8 O E_b8 F_value_b8 (.null) (rfl)
      · skip
        refine gb (fun _ k => XS.ifNo X8.here hx rfl (hb hby at_47) rfl ((if0 _ _).trans (feq hc47).1) (XS.lloadN X8.here hx rfl (hb hby at_50) rfl k)) ?_
        show G T8 (mkF m 51 #[jv i0, .second, iv i1, jv i2, .second, iv 0, .val .null, rv b8, .unset, .unset, .unset, .unset] [.long i2])
        obtain ⟨_, _, ⟨T15, Lz15, kz15, nz15⟩, -, X15, ⟨Lc15, hQ15, lq15, yq15, zq15⟩, st15⟩ := Jvm.LawKit.callS X8 hx (y := (⟨"java/lang/Long", "valueOf", "(J)Ljava/lang/Long;"⟩ : MethodName)) hown (mvT hZ (ow hw 0 rfl)) (mvT hZ (ow hw 1 rfl)) (mvT hZ (ow hw 2 rfl)) (mvT hZ (ow hw 3 rfl)) (by decide) (backOf (W := 0) (rm1 l Z a0 hw [] i2 h8 n0 O wc cc S_c BX) hZ (ow hw 3 rfl) (ow hw 2 rfl) (by decide) (by decide)) (g := (mkF m 51 #[jv i0, .second, iv i1, jv i2, .second, iv 0, .val .null, rv b8, .unset, .unset, .unset, .unset] [.long i2])) rfl (by rw [hml]; rfl) (argsL := [(.long i2)]) (rest := []) (lenOf pd_5 rfl) rfl (by show 2 * 0 + _ ≤ _; exact Nat.le_of_eq rfl) (hb hby at_51) (fun _ _ => ⟨rfl, e8, (by decide : 1 + 1 ≤ _), (by decide : 1 + 1 ≤ _)⟩)
        dsimp only [Pt.U, Pt.locs, Pt.cells, Pt.slots] at X15 lq15 yq15 zq15 st15 hQ15
        subst lq15 yq15 zq15
        obtain ⟨h15, e15⟩ : ∃ z, z = T15.heap := ⟨_, rfl⟩
        rw [← e15] at hQ15
        replace e15 := e15.symm
        obtain ⟨b15, rfl, Nq15, Kq15, hR15⟩ := hQ15
        have N := Fr.app N Nq15
        have E_b8 := E_b8.keep Kq15
        have F_value_b8 := F_value_b8.keep Kq15 nin0
        obtain ⟨E_b15, F_value_b15⟩ := hR15
        have O := O.keep Kq15 all0
        refine gb st15 ?_
        show G T15 (mkF m 54 #[jv i0, .second, iv i1, jv i2, .second, iv 0, .val .null, rv b8, .unset, .unset, .unset, .unset] [.ref b15])
        refine gb (fun _ k => XS.goto X15.here hx rfl (pc0 := 54) (pc' := 58) rfl (hb hby at_54) (by decide) (by decide) k) ?_
        show G T15 (mkF m 58 #[jv i0, .second, iv i1, jv i2, .second, iv 0, .val .null, rv b8, .unset, .unset, .unset, .unset] [.ref b15])
        exact J9 _ _ _ X15 N e15 O E_b8 F_value_b8 ((.ref b15)) (rfl)
  · skip
    refine gb (fun _ k => XS.ifNo X0.here hx rfl (hb hby at_3) rfl ((if0 _ _).trans (feq hc3).1) (XS.iconst X0.here hx rfl (hb hby at_6) (XS.goto X0.here hx rfl (pc0 := 7) (pc' := 11) rfl (hb hby at_7) (by decide) (by decide) (XS.istore X0.here hx rfl (hb hby at_11) rfl (l' := #[jv i0, .second, iv i1, jv i2, .second, iv 1, .unset, .unset, .unset, .unset, .unset, .unset]) rfl (XS.iload X0.here hx rfl (hb hby at_13) rfl (XS.ifNo X0.here hx rfl (hb hby at_15) rfl ((if0 _ _).trans (feq (by decide : ¬ ((1 : Int32) = (0 : Int32)))).1) k)))))) ?_
    show G s₁ (mkF m 18 #[jv i0, .second, iv i1, jv i2, .second, iv 1, .unset, .unset, .unset, .unset, .unset, .unset] [])
    refine gb (fun _ k => XS.lloadN X0.here hx rfl (hb hby at_18) rfl k) ?_
    show G s₁ (mkF m 19 #[jv i0, .second, iv i1, jv i2, .second, iv 1, .unset, .unset, .unset, .unset, .unset, .unset] [.long i0])
    obtain ⟨_, _, ⟨T16, Lz16, kz16, nz16⟩, -, X16, ⟨Lc16, hQ16, lq16, yq16, zq16⟩, st16⟩ := Jvm.LawKit.callS X0 hx (y := (⟨"java/lang/Long", "valueOf", "(J)Ljava/lang/Long;"⟩ : MethodName)) hown (mvT hZ (ow hw 0 rfl)) (mvT hZ (ow hw 1 rfl)) (mvT hZ (ow hw 2 rfl)) (mvT hZ (ow hw 3 rfl)) (by decide) (backOf (W := 0) (rm1 l Z a0 hw [] i0 h0 n0 O wc cc S_c BX) hZ (ow hw 3 rfl) (ow hw 2 rfl) (by decide) (by decide)) (g := (mkF m 19 #[jv i0, .second, iv i1, jv i2, .second, iv 1, .unset, .unset, .unset, .unset, .unset, .unset] [.long i0])) rfl (by rw [hml]; rfl) (argsL := [(.long i0)]) (rest := []) (lenOf pd_5 rfl) rfl (by show 2 * 0 + _ ≤ _; exact Nat.le_of_eq rfl) (hb hby at_19) (fun _ _ => ⟨rfl, e0, (by decide : 0 + 1 ≤ _), (by decide : 0 + 1 ≤ _)⟩)
    dsimp only [Pt.U, Pt.locs, Pt.cells, Pt.slots] at X16 lq16 yq16 zq16 st16 hQ16
    subst lq16 yq16 zq16
    obtain ⟨h16, e16⟩ : ∃ z, z = T16.heap := ⟨_, rfl⟩
    rw [← e16] at hQ16
    replace e16 := e16.symm
    obtain ⟨b16, rfl, Nq16, Kq16, hR16⟩ := hQ16
    have N := Fr.app N Nq16
    obtain ⟨E_b16, F_value_b16⟩ := hR16
    have O := O.keep Kq16 all0
    refine gb st16 ?_
    show G T16 (mkF m 22 #[jv i0, .second, iv i1, jv i2, .second, iv 1, .unset, .unset, .unset, .unset, .unset, .unset] [.ref b16])
    refine gb (fun _ k => XS.goto X16.here hx rfl (pc0 := 22) (pc' := 26) rfl (hb hby at_22) (by decide) (by decide) (XS.astore X16.here hx rfl (hb hby at_26) rfl rfl (l' := #[jv i0, .second, iv i1, jv i2, .second, iv 1, rv b16, .unset, .unset, .unset, .unset, .unset]) rfl (XS.iloadN X16.here hx rfl (hb hby at_28) rfl (XS.iconst X16.here hx rfl (hb hby at_29) (XS.iand X16.here hx rfl (hb hby at_30) rfl k))))) ?_
    show G T16 (mkF m 31 #[jv i0, .second, iv i1, jv i2, .second, iv 1, rv b16, .unset, .unset, .unset, .unset, .unset] [.int (i1 &&& (2 : Int32))])
    by_cases hc31 : (i1 &&& (2 : Int32)) = (0 : Int32)
    · skip
      refine gb (fun _ k => XS.ifYes X16.here hx rfl (pc0 := 31) (pc' := 41) rfl (hb hby at_31) rfl ((if0 _ _).trans (teq hc31).1) (by decide) (by decide) (XS.aconstNull X16.here hx rfl (hb hby at_41) (XS.astore X16.here hx rfl (hb hby at_42) rfl rfl (l' := #[jv i0, .second, iv i1, jv i2, .second, iv 1, rv b16, .val .null, .unset, .unset, .unset, .unset]) rfl k))) ?_
      show G T16 (mkF m 44 #[jv i0, .second, iv i1, jv i2, .second, iv 1, rv b16, .val .null, .unset, .unset, .unset, .unset] [])
      have J17 : ∀ (T17 : State) (locs17 : List Loc) (h17 : Heap) (X17 : Stand p l e room_1 s m #[(.long i0), (.int i1), (.long i2)] below meth c T17 locs17 2 2) (N : Fr n0 locs17) (e17 : T17.heap = h17) (O : Old Z n0 h17) (E_b16 : Exa Z h17 b16 "java/lang/Long") (F_value_b16 : Fld Z h17 b16 "java/lang/Long" "value" "J" (.long i0)) (v8 : Value) (hr_v8 : v8.isRef = true), G T17 (mkF m 58 #[jv i0, .second, iv i1, jv i2, .second, iv 1, rv b16, .val .null, .unset, .unset, .unset, .unset] [v8]) := by
        intro T17 locs17 h17 X17 N e17 O E_b16 F_value_b16 v8 hr_v8
        show G T17 (mkF m 58 #[jv i0, .second, iv i1, jv i2, .second, iv 1, rv b16, .val .null, .unset, .unset, .unset, .unset] [v8])
        refine gb (fun _ k => XS.astore X17.here hx rfl (hb hby at_58) rfl hr_v8 (l' := #[jv i0, .second, iv i1, jv i2, .second, iv 1, rv b16, .val .null, .val v8, .unset, .unset, .unset]) (by rcases ref_cases hr_v8 with q | ⟨_, q⟩ <;> rw [q] <;> rfl) k) ?_
        show G T17 (mkF m 60 #[jv i0, .second, iv i1, jv i2, .second, iv 1, rv b16, .val .null, .val v8, .unset, .unset, .unset] [])
        have J18 : ∀ (T18 : State) (locs18 : List Loc) (h18 : Heap) (X18 : Stand p l e room_1 s m #[(.long i0), (.int i1), (.long i2)] below meth c T18 locs18 3 3) (N : Fr n0 locs18) (e18 : T18.heap = h18) (O : Old Z n0 h18) (E_b16 : Exa Z h18 b16 "java/lang/Long") (F_value_b16 : Fld Z h18 b16 "java/lang/Long" "value" "J" (.long i0)) (v9 : Value) (hr_v9 : v9.isRef = true), G T18 (mkF m 75 #[jv i0, .second, iv i1, jv i2, .second, iv 1, rv b16, .val .null, .val v8, .unset, .unset, .unset] [v9]) := by
          intro T18 locs18 h18 X18 N e18 O E_b16 F_value_b16 v9 hr_v9
          show G T18 (mkF m 75 #[jv i0, .second, iv i1, jv i2, .second, iv 1, rv b16, .val .null, .val v8, .unset, .unset, .unset] [v9])
          refine gb (fun _ k => XS.astore X18.here hx rfl (hb hby at_75) rfl hr_v9 (l' := #[jv i0, .second, iv i1, jv i2, .second, iv 1, rv b16, .val .null, .val v8, .val v9, .unset, .unset]) (by rcases ref_cases hr_v9 with q | ⟨_, q⟩ <;> rw [q] <;> rfl) k) ?_
          show G T18 (mkF m 77 #[jv i0, .second, iv i1, jv i2, .second, iv 1, rv b16, .val .null, .val v8, .val v9, .unset, .unset] [])
          obtain ⟨T19, h19, X19, e19, E19, A19, D19, U19, st19⟩ := newO X18 hx hZ hown (ow hw 22 rfl) (ow hw 23 rfl) (ow hw 24 rfl) e18 (g := (mkF m 77 #[jv i0, .second, iv i1, jv i2, .second, iv 1, rv b16, .val .null, .val v8, .val v9, .unset, .unset] [])) rfl (hb hby at_77) (by decide) (by decide)
          obtain ⟨b19, g19⟩ : ∃ z, z = h18.size := ⟨_, rfl⟩
          rw [← g19] at A19 D19 U19 st19
          have g_b19 : n0 ≤ b19 := Nat.le_trans (by have := O.2.1; rw [O.1] at this; exact this) (Nat.le_of_eq g19.symm)
          have ne_b16_b19 : b16 ≠ b19 := Nat.ne_of_lt (Nat.lt_of_lt_of_le E_b16.lt (Nat.le_of_eq g19.symm))
          have E_b16 := E_b16.ext E19
          have F_value_b16 := F_value_b16.ext E19
          have O := O.ext E19
          have E_b19 := A19
          have F_command_b19 : Fld Z h19 b19 "com/example/equipe/equipe/JobSpec" "command" "Ljava/util/List;" .null := D19 (Or.inr (ow hw 30 rfl)) (ty := (.object "java/util/List")) (by decide)
          have F_payload_b19 : Fld Z h19 b19 "com/example/equipe/equipe/JobSpec" "payload" "Ljava/lang/String;" .null := D19 (Or.inr (ow hw 32 rfl)) (ty := (.object "java/lang/String")) (by decide)
          have F_maxAttempts_b19 : Fld Z h19 b19 "com/example/equipe/equipe/JobSpec" "maxAttempts" "Ljava/lang/Long;" .null := D19 (Or.inr (ow hw 34 rfl)) (ty := (.object "java/lang/Long")) (by decide)
          have F_timeLimitMs_b19 : Fld Z h19 b19 "com/example/equipe/equipe/JobSpec" "timeLimitMs" "Ljava/lang/Long;" .null := D19 (Or.inr (ow hw 36 rfl)) (ty := (.object "java/lang/Long")) (by decide)
          have F_priority_b19 : Fld Z h19 b19 "com/example/equipe/equipe/JobSpec" "priority" "J" (.long (0 : Int64)) := D19 (Or.inr (ow hw 43 rfl)) (ty := .long) (by decide)
          have F_delayMs_b19 : Fld Z h19 b19 "com/example/equipe/equipe/JobSpec" "delayMs" "Ljava/lang/Long;" .null := D19 (Or.inr (ow hw 45 rfl)) (ty := (.object "java/lang/Long")) (by decide)
          refine gb st19 ?_
          show G T19 (mkF m 80 #[jv i0, .second, iv i1, jv i2, .second, iv 1, rv b16, .val .null, .val v8, .val v9, .unset, .unset] [.ref b19])
          refine gb (fun _ k => XS.dup X19.here hx rfl (hb hby at_80) rfl rfl (XS.aconstNull X19.here hx rfl (hb hby at_81) (XS.aconstNull X19.here hx rfl (hb hby at_82) (XS.aload X19.here hx rfl (hb hby at_83) rfl hr_v8 (XS.aload X19.here hx rfl (hb hby at_85) rfl hr_v9 (XS.aload X19.here hx rfl (hb hby at_87) rfl rfl k)))))) ?_
          show G T19 (mkF m 89 #[jv i0, .second, iv i1, jv i2, .second, iv 1, rv b16, .val .null, .val v8, .val v9, .unset, .unset] [.null, v9, v8, .null, .null, .ref b19, .ref b19])
          refine gb (fun _ k => XS.aload X19.here hx rfl (hb hby at_89) rfl rfl k) ?_
          show G T19 (mkF m 91 #[jv i0, .second, iv i1, jv i2, .second, iv 1, rv b16, .val .null, .val v8, .val v9, .unset, .unset] [.ref b16, .null, v9, v8, .null, .null, .ref b19, .ref b19])
          obtain ⟨_, _, ⟨T20, Lz20, kz20, nz20⟩, -, X20, ⟨Lc20, hQ20, lq20, yq20, zq20⟩, st20⟩ := X19.specialBack hx (y := (⟨"com/example/equipe/equipe/JobSpec", "<init>", "(Ljava/util/List;Ljava/lang/String;Ljava/lang/Long;Ljava/lang/Long;Ljava/lang/Long;Ljava/lang/Long;)V"⟩ : MethodName)) rfl hown (mvT hZ (ow hw 25 rfl)) (mvT hZ (ow hw 26 rfl)) (mvT hZ (ow hw 27 rfl)) (by decide) (backOf (W := 1) (rm5_01 l Z a0 hw [] b19 v8 v9 b16 h19 n0 O hr_v8 hr_v9 E_b19 F_command_b19 F_payload_b19 F_maxAttempts_b19 F_timeLimitMs_b19 F_priority_b19 F_delayMs_b19 g_b19) hZ (ow hw 27 rfl) (ow hw 24 rfl) (by decide) (by decide)) (g := (mkF m 91 #[jv i0, .second, iv i1, jv i2, .second, iv 1, rv b16, .val .null, .val v8, .val v9, .unset, .unset] [.ref b16, .null, v9, v8, .null, .null, .ref b19, .ref b19])) rfl (by rw [hml]; rfl) (Steps.refl _) (a := b19) (argsL := [.null, .null, v8, v9, .null, (.ref b16)]) (rest := [(.ref b19)]) (lenOf pd_3 rfl) rfl (by show 2 * 0 + _ ≤ _; exact Nat.le_of_eq rfl) (hb hby at_91) (fun _ _ => ⟨rfl, e19, (by decide : 4 + 0 ≤ _), (by decide : 9 + 0 ≤ _)⟩)
          dsimp only [Pt.U, Pt.locs, Pt.cells, Pt.slots] at X20 lq20 yq20 zq20 st20 hQ20
          subst lq20 yq20 zq20
          obtain ⟨h20, e20⟩ : ∃ z, z = T20.heap := ⟨_, rfl⟩
          rw [← e20] at hQ20
          replace e20 := e20.symm
          obtain ⟨rfl, Nq20, Kq20, hR20⟩ := hQ20
          have N := Fr.app N Nq20
          have E_b16 := E_b16.keep Kq20
          have F_value_b16 := F_value_b16.keep Kq20 (ninS ne_b16_b19 nin0)
          have E_b19 := E_b19.keep Kq20
          obtain ⟨E_b19, F_delayMs_b19⟩ := hR20
          have O := O.keep Kq20 (allS g_b19 all0)
          refine gb (fun _ k => st20.trans k) ?_
          show G T20 (mkF m 94 #[jv i0, .second, iv i1, jv i2, .second, iv 1, rv b16, .val .null, .val v8, .val v9, .unset, .unset] [.ref b19])
          refine gb (fun _ k => XS.astore X20.here hx rfl (hb hby at_94) rfl rfl (l' := #[jv i0, .second, iv i1, jv i2, .second, iv 1, rv b16, .val .null, .val v8, .val v9, rv b19, .unset]) rfl (XS.iload X20.here hx rfl (hb hby at_96) rfl (XS.ifYes X20.here hx rfl (pc0 := 98) (pc' := 107) rfl (hb hby at_98) rfl ((if0 _ _).trans (feq (by decide : ¬ ((1 : Int32) = (0 : Int32)))).2) (by decide) (by decide) (XS.lloadN X20.here hx rfl (hb hby at_107) rfl (XS.lconst X20.here hx rfl (hb hby at_108) (XS.lcmp X20.here hx rfl (hb hby at_109) rfl k)))))) ?_
          show G T20 (mkF m 110 #[jv i0, .second, iv i1, jv i2, .second, iv 1, rv b16, .val .null, .val v8, .val v9, rv b19, .unset] [.int (lcmpW i0 (0 : Int64))])
          by_cases hc110 : i0 = (0 : Int64)
          · skip
            refine gb (fun _ k => XS.ifNo X20.here hx rfl (hb hby at_110) rfl ((if0 _ _).trans (teq ((own_eq _ _).mpr hc110)).2) (XS.iconst X20.here hx rfl (hb hby at_113) (XS.istore X20.here hx rfl (hb hby at_114) rfl (l' := #[jv i0, .second, iv i1, jv i2, .second, iv 1, rv b16, .val .null, .val v8, .val v9, rv b19, iv 0]) rfl (XS.goto X20.here hx rfl (pc0 := 116) (pc' := 134) rfl (hb hby at_116) (by decide) (by decide) (XS.aload X20.here hx rfl (hb hby at_134) rfl rfl k))))) ?_
            show G T20 (mkF m 136 #[jv i0, .second, iv i1, jv i2, .second, iv 1, rv b16, .val .null, .val v8, .val v9, rv b19, iv 0] [.ref b19])
            obtain ⟨cq21, kq21, q21a, q21b, q21c⟩ := isOf hZ e20 E_b19
            obtain ⟨_, _, ⟨T21, Lz21, kz21, nz21⟩, -, X21, ⟨Lc21, hQ21, lq21, yq21, zq21⟩, st21⟩ := X20.virtualBack hx (y := (⟨"com/example/equipe/equipe/JobSpec", "isDelayed", "()Z"⟩ : MethodName)) (z := (⟨"com/example/equipe/equipe/JobSpec", "isDelayed", "()Z"⟩ : MethodName)) hown (mvT hZ (ow hw 46 rfl)) (mvT hZ (ow hw 47 rfl)) (notFace_of_selects (args := #[]) (mvT hZ (ow hw 49 rfl))) (mvT hZ (ow hw 49 rfl)) (mvT hZ (ow hw 48 rfl)) (by decide) (backOf (W := 0) (rm7_1 l Z a0 hw [] b19 b16 i0 h20 n0 O F_delayMs_b19 E_b16 F_value_b16) hZ (ow hw 50 rfl) (ow hw 24 rfl) (by decide) (by decide)) q21a q21c (g := (mkF m 136 #[jv i0, .second, iv i1, jv i2, .second, iv 1, rv b16, .val .null, .val v8, .val v9, rv b19, iv 0] [.ref b19])) rfl (by rw [hml]; rfl) (Steps.refl _) (argsL := []) (rest := []) (lenOf pd_4 rfl) rfl (by show 2 * 0 + _ ≤ _; exact Nat.le_of_eq rfl) (hb hby at_136) (fun _ _ => ⟨rfl, e20, (by decide : 4 + 0 ≤ _), (by decide : 9 + 0 ≤ _)⟩)
            dsimp only [Pt.U, Pt.locs, Pt.cells, Pt.slots] at X21 lq21 yq21 zq21 st21 hQ21
            subst lq21 yq21 zq21
            obtain ⟨rfl, rfl, e21⟩ := hQ21
            try rw [List.append_nil] at X21
            refine gb (fun _ k => st21.trans k) ?_
            show G T21 (mkF m 139 #[jv i0, .second, iv i1, jv i2, .second, iv 1, rv b16, .val .null, .val v8, .val v9, rv b19, iv 0] [.int (if (0 : Int64) < i0 then (1 : Int32) else (0 : Int32))])
            refine gb (fun _ k => XS.iload X21.here hx rfl (hb hby at_139) rfl (XS.icmpNo X21.here hx rfl (hb hby at_141) rfl (teq (show (if (0 : Int64) < i0 then (1 : Int32) else (0 : Int32)) = (0 : Int32) from by rw [hc110]; exact if_neg (by decide))).2 (XS.iconst X21.here hx rfl (hb hby at_144) (XS.goto X21.here hx rfl (pc0 := 145) (pc' := 149) rfl (hb hby at_145) (by decide) (by decide) k)))) ?_
            show G T21 (mkF m 149 #[jv i0, .second, iv i1, jv i2, .second, iv 1, rv b16, .val .null, .val v8, .val v9, rv b19, iv 0] [.int 1])
            exact go X21 (v := (some (.int (1 : Int32)))) (fun h => by rw [Bd.returns] at h; cases h) (fun fs hr => retOut X21 hx Bd.returns rfl (Or.inl ⟨rfl, by simp, _, rfl⟩) (hb hby at_149) hr) (⟨rfl, N⟩) (by decide) (by decide)
          · skip
            refine gb (fun _ k => XS.ifYes X20.here hx rfl (pc0 := 110) (pc' := 119) rfl (hb hby at_110) rfl ((if0 _ _).trans (feq (fun q => hc110 ((own_eq _ _).mp q))).2) (by decide) (by decide) (XS.lloadN X20.here hx rfl (hb hby at_119) rfl (XS.lconst X20.here hx rfl (hb hby at_120) (XS.lcmp X20.here hx rfl (hb hby at_121) rfl k)))) ?_
            show G T20 (mkF m 122 #[jv i0, .second, iv i1, jv i2, .second, iv 1, rv b16, .val .null, .val v8, .val v9, rv b19, .unset] [.int (lcmpW i0 (0 : Int64))])
            by_cases hc122 : i0 < (0 : Int64)
            · skip
              refine gb (fun _ k => XS.ifNo X20.here hx rfl (hb hby at_122) rfl ((if0 _ _).trans (tlt ((own_lt _ _).mpr hc122)).2.1) (XS.iconst X20.here hx rfl (hb hby at_125) (XS.istore X20.here hx rfl (hb hby at_126) rfl (l' := #[jv i0, .second, iv i1, jv i2, .second, iv 1, rv b16, .val .null, .val v8, .val v9, rv b19, iv 0]) rfl (XS.goto X20.here hx rfl (pc0 := 128) (pc' := 134) rfl (hb hby at_128) (by decide) (by decide) (XS.aload X20.here hx rfl (hb hby at_134) rfl rfl k))))) ?_
              show G T20 (mkF m 136 #[jv i0, .second, iv i1, jv i2, .second, iv 1, rv b16, .val .null, .val v8, .val v9, rv b19, iv 0] [.ref b19])
              obtain ⟨cq22, kq22, q22a, q22b, q22c⟩ := isOf hZ e20 E_b19
              obtain ⟨_, _, ⟨T22, Lz22, kz22, nz22⟩, -, X22, ⟨Lc22, hQ22, lq22, yq22, zq22⟩, st22⟩ := X20.virtualBack hx (y := (⟨"com/example/equipe/equipe/JobSpec", "isDelayed", "()Z"⟩ : MethodName)) (z := (⟨"com/example/equipe/equipe/JobSpec", "isDelayed", "()Z"⟩ : MethodName)) hown (mvT hZ (ow hw 46 rfl)) (mvT hZ (ow hw 47 rfl)) (notFace_of_selects (args := #[]) (mvT hZ (ow hw 49 rfl))) (mvT hZ (ow hw 49 rfl)) (mvT hZ (ow hw 48 rfl)) (by decide) (backOf (W := 0) (rm7_1 l Z a0 hw [] b19 b16 i0 h20 n0 O F_delayMs_b19 E_b16 F_value_b16) hZ (ow hw 50 rfl) (ow hw 24 rfl) (by decide) (by decide)) q22a q22c (g := (mkF m 136 #[jv i0, .second, iv i1, jv i2, .second, iv 1, rv b16, .val .null, .val v8, .val v9, rv b19, iv 0] [.ref b19])) rfl (by rw [hml]; rfl) (Steps.refl _) (argsL := []) (rest := []) (lenOf pd_4 rfl) rfl (by show 2 * 0 + _ ≤ _; exact Nat.le_of_eq rfl) (hb hby at_136) (fun _ _ => ⟨rfl, e20, (by decide : 4 + 0 ≤ _), (by decide : 9 + 0 ≤ _)⟩)
              dsimp only [Pt.U, Pt.locs, Pt.cells, Pt.slots] at X22 lq22 yq22 zq22 st22 hQ22
              subst lq22 yq22 zq22
              obtain ⟨rfl, rfl, e22⟩ := hQ22
              try rw [List.append_nil] at X22
              refine gb (fun _ k => st22.trans k) ?_
              show G T22 (mkF m 139 #[jv i0, .second, iv i1, jv i2, .second, iv 1, rv b16, .val .null, .val v8, .val v9, rv b19, iv 0] [.int (if (0 : Int64) < i0 then (1 : Int32) else (0 : Int32))])
              refine gb (fun _ k => XS.iload X22.here hx rfl (hb hby at_139) rfl (XS.icmpNo X22.here hx rfl (hb hby at_141) rfl (teq (show (if (0 : Int64) < i0 then (1 : Int32) else (0 : Int32)) = (0 : Int32) from if_neg (own_asymL hc122))).2 (XS.iconst X22.here hx rfl (hb hby at_144) (XS.goto X22.here hx rfl (pc0 := 145) (pc' := 149) rfl (hb hby at_145) (by decide) (by decide) k)))) ?_
              show G T22 (mkF m 149 #[jv i0, .second, iv i1, jv i2, .second, iv 1, rv b16, .val .null, .val v8, .val v9, rv b19, iv 0] [.int 1])
              exact go X22 (v := (some (.int (1 : Int32)))) (fun h => by rw [Bd.returns] at h; cases h) (fun fs hr => retOut X22 hx Bd.returns rfl (Or.inl ⟨rfl, by simp, _, rfl⟩) (hb hby at_149) hr) (⟨rfl, N⟩) (by decide) (by decide)
            · skip
              refine gb (fun _ k => XS.ifYes X20.here hx rfl (pc0 := 122) (pc' := 131) rfl (hb hby at_122) rfl ((if0 _ _).trans (flt (fun q => hc122 ((own_lt _ _).mp q))).2.1) (by decide) (by decide) (XS.iconst X20.here hx rfl (hb hby at_131) (XS.istore X20.here hx rfl (hb hby at_132) rfl (l' := #[jv i0, .second, iv i1, jv i2, .second, iv 1, rv b16, .val .null, .val v8, .val v9, rv b19, iv 1]) rfl (XS.aload X20.here hx rfl (hb hby at_134) rfl rfl k)))) ?_
              show G T20 (mkF m 136 #[jv i0, .second, iv i1, jv i2, .second, iv 1, rv b16, .val .null, .val v8, .val v9, rv b19, iv 1] [.ref b19])
              obtain ⟨cq23, kq23, q23a, q23b, q23c⟩ := isOf hZ e20 E_b19
              obtain ⟨_, _, ⟨T23, Lz23, kz23, nz23⟩, -, X23, ⟨Lc23, hQ23, lq23, yq23, zq23⟩, st23⟩ := X20.virtualBack hx (y := (⟨"com/example/equipe/equipe/JobSpec", "isDelayed", "()Z"⟩ : MethodName)) (z := (⟨"com/example/equipe/equipe/JobSpec", "isDelayed", "()Z"⟩ : MethodName)) hown (mvT hZ (ow hw 46 rfl)) (mvT hZ (ow hw 47 rfl)) (notFace_of_selects (args := #[]) (mvT hZ (ow hw 49 rfl))) (mvT hZ (ow hw 49 rfl)) (mvT hZ (ow hw 48 rfl)) (by decide) (backOf (W := 0) (rm7_1 l Z a0 hw [] b19 b16 i0 h20 n0 O F_delayMs_b19 E_b16 F_value_b16) hZ (ow hw 50 rfl) (ow hw 24 rfl) (by decide) (by decide)) q23a q23c (g := (mkF m 136 #[jv i0, .second, iv i1, jv i2, .second, iv 1, rv b16, .val .null, .val v8, .val v9, rv b19, iv 1] [.ref b19])) rfl (by rw [hml]; rfl) (Steps.refl _) (argsL := []) (rest := []) (lenOf pd_4 rfl) rfl (by show 2 * 0 + _ ≤ _; exact Nat.le_of_eq rfl) (hb hby at_136) (fun _ _ => ⟨rfl, e20, (by decide : 4 + 0 ≤ _), (by decide : 9 + 0 ≤ _)⟩)
              dsimp only [Pt.U, Pt.locs, Pt.cells, Pt.slots] at X23 lq23 yq23 zq23 st23 hQ23
              subst lq23 yq23 zq23
              obtain ⟨rfl, rfl, e23⟩ := hQ23
              try rw [List.append_nil] at X23
              refine gb (fun _ k => st23.trans k) ?_
              show G T23 (mkF m 139 #[jv i0, .second, iv i1, jv i2, .second, iv 1, rv b16, .val .null, .val v8, .val v9, rv b19, iv 1] [.int (if (0 : Int64) < i0 then (1 : Int32) else (0 : Int32))])
              refine gb (fun _ k => XS.iload X23.here hx rfl (hb hby at_139) rfl (XS.icmpNo X23.here hx rfl (hb hby at_141) rfl (teq (show (if (0 : Int64) < i0 then (1 : Int32) else (0 : Int32)) = (1 : Int32) from if_pos (own_triL hc122 hc110))).2 (XS.iconst X23.here hx rfl (hb hby at_144) (XS.goto X23.here hx rfl (pc0 := 145) (pc' := 149) rfl (hb hby at_145) (by decide) (by decide) k)))) ?_
              show G T23 (mkF m 149 #[jv i0, .second, iv i1, jv i2, .second, iv 1, rv b16, .val .null, .val v8, .val v9, rv b19, iv 1] [.int 1])
              exact go X23 (v := (some (.int (1 : Int32)))) (fun h => by rw [Bd.returns] at h; cases h) (fun fs hr => retOut X23 hx Bd.returns rfl (Or.inl ⟨rfl, by simp, _, rfl⟩) (hb hby at_149) hr) (⟨rfl, N⟩) (by decide) (by decide)
        refine gb (fun _ k => XS.iloadN X17.here hx rfl (hb hby at_60) rfl (XS.bipush X17.here hx rfl (hb hby at_61) (XS.iand X17.here hx rfl (hb hby at_63) rfl k))) ?_
        show G T17 (mkF m 64 #[jv i0, .second, iv i1, jv i2, .second, iv 1, rv b16, .val .null, .val v8, .unset, .unset, .unset] [.int (i1 &&& (8 : Int32))])
        by_cases hc64 : (i1 &&& (8 : Int32)) = (0 : Int32)
        · skip
          refine gb (fun _ k => XS.ifYes X17.here hx rfl (pc0 := 64) (pc' := 74) rfl (hb hby at_64) rfl ((if0 _ _).trans (teq hc64).1) (by decide) (by decide) (XS.aconstNull X17.here hx rfl (hb hby at_74) k)) ?_
          show G T17 (mkF m 75 #[jv i0, .second, iv i1, jv i2, .second, iv 1, rv b16, .val .null, .val v8, .unset, .unset, .unset] [.null])
          exact J18 _ _ _ (X17.more (by decide) (by decide)) N e17 O E_b16 F_value_b16 (.null) (rfl)
        · skip
          refine gb (fun _ k => XS.ifNo X17.here hx rfl (hb hby at_64) rfl ((if0 _ _).trans (feq hc64).1) (XS.lloadN X17.here hx rfl (hb hby at_67) rfl k)) ?_
          show G T17 (mkF m 68 #[jv i0, .second, iv i1, jv i2, .second, iv 1, rv b16, .val .null, .val v8, .unset, .unset, .unset] [.long i0])
          obtain ⟨_, _, ⟨T24, Lz24, kz24, nz24⟩, -, X24, ⟨Lc24, hQ24, lq24, yq24, zq24⟩, st24⟩ := Jvm.LawKit.callS X17 hx (y := (⟨"java/lang/Long", "valueOf", "(J)Ljava/lang/Long;"⟩ : MethodName)) hown (mvT hZ (ow hw 0 rfl)) (mvT hZ (ow hw 1 rfl)) (mvT hZ (ow hw 2 rfl)) (mvT hZ (ow hw 3 rfl)) (by decide) (backOf (W := 0) (rm1 l Z a0 hw [] i0 h17 n0 O wc cc S_c BX) hZ (ow hw 3 rfl) (ow hw 2 rfl) (by decide) (by decide)) (g := (mkF m 68 #[jv i0, .second, iv i1, jv i2, .second, iv 1, rv b16, .val .null, .val v8, .unset, .unset, .unset] [.long i0])) rfl (by rw [hml]; rfl) (argsL := [(.long i0)]) (rest := []) (lenOf pd_5 rfl) rfl (by show 2 * 0 + _ ≤ _; exact Nat.le_of_eq rfl) (hb hby at_68) (fun _ _ => ⟨rfl, e17, (by decide : 2 + 1 ≤ _), (by decide : 2 + 1 ≤ _)⟩)
          dsimp only [Pt.U, Pt.locs, Pt.cells, Pt.slots] at X24 lq24 yq24 zq24 st24 hQ24
          subst lq24 yq24 zq24
          obtain ⟨h24, e24⟩ : ∃ z, z = T24.heap := ⟨_, rfl⟩
          rw [← e24] at hQ24
          replace e24 := e24.symm
          obtain ⟨b24, rfl, Nq24, Kq24, hR24⟩ := hQ24
          have N := Fr.app N Nq24
          have E_b16 := E_b16.keep Kq24
          have F_value_b16 := F_value_b16.keep Kq24 nin0
          obtain ⟨E_b24, F_value_b24⟩ := hR24
          have O := O.keep Kq24 all0
          refine gb st24 ?_
          show G T24 (mkF m 71 #[jv i0, .second, iv i1, jv i2, .second, iv 1, rv b16, .val .null, .val v8, .unset, .unset, .unset] [.ref b24])
          refine gb (fun _ k => XS.goto X24.here hx rfl (pc0 := 71) (pc' := 75) rfl (hb hby at_71) (by decide) (by decide) k) ?_
          show G T24 (mkF m 75 #[jv i0, .second, iv i1, jv i2, .second, iv 1, rv b16, .val .null, .val v8, .unset, .unset, .unset] [.ref b24])
          exact J18 _ _ _ X24 N e24 O E_b16 F_value_b16 ((.ref b24)) (rfl)
      refine gb (fun _ k => XS.iloadN X16.here hx rfl (hb hby at_44) rfl (XS.iconst X16.here hx rfl (hb hby at_45) (XS.iand X16.here hx rfl (hb hby at_46) rfl k))) ?_
      show G T16 (mkF m 47 #[jv i0, .second, iv i1, jv i2, .second, iv 1, rv b16, .val .null, .unset, .unset, .unset, .unset] [.int (i1 &&& (4 : Int32))])
      by_cases hc47 : (i1 &&& (4 : Int32)) = (0 : Int32)
      · skip
        refine gb (fun _ k => XS.ifYes X16.here hx rfl (pc0 := 47) (pc' := 57) rfl (hb hby at_47) rfl ((if0 _ _).trans (teq hc47).1) (by decide) (by decide) (XS.aconstNull X16.here hx rfl (hb hby at_57) k)) ?_
        show G T16 (mkF m 58 #[jv i0, .second, iv i1, jv i2, .second, iv 1, rv b16, .val .null, .unset, .unset, .unset, .unset] [.null])
        exact J17 _ _ _ (X16.more (by decide) (by decide)) N e16 O E_b16 F_value_b16 (.null) (rfl)
      · skip
        refine gb (fun _ k => XS.ifNo X16.here hx rfl (hb hby at_47) rfl ((if0 _ _).trans (feq hc47).1) (XS.lloadN X16.here hx rfl (hb hby at_50) rfl k)) ?_
        show G T16 (mkF m 51 #[jv i0, .second, iv i1, jv i2, .second, iv 1, rv b16, .val .null, .unset, .unset, .unset, .unset] [.long i2])
        obtain ⟨_, _, ⟨T25, Lz25, kz25, nz25⟩, -, X25, ⟨Lc25, hQ25, lq25, yq25, zq25⟩, st25⟩ := Jvm.LawKit.callS X16 hx (y := (⟨"java/lang/Long", "valueOf", "(J)Ljava/lang/Long;"⟩ : MethodName)) hown (mvT hZ (ow hw 0 rfl)) (mvT hZ (ow hw 1 rfl)) (mvT hZ (ow hw 2 rfl)) (mvT hZ (ow hw 3 rfl)) (by decide) (backOf (W := 0) (rm1 l Z a0 hw [] i2 h16 n0 O wc cc S_c BX) hZ (ow hw 3 rfl) (ow hw 2 rfl) (by decide) (by decide)) (g := (mkF m 51 #[jv i0, .second, iv i1, jv i2, .second, iv 1, rv b16, .val .null, .unset, .unset, .unset, .unset] [.long i2])) rfl (by rw [hml]; rfl) (argsL := [(.long i2)]) (rest := []) (lenOf pd_5 rfl) rfl (by show 2 * 0 + _ ≤ _; exact Nat.le_of_eq rfl) (hb hby at_51) (fun _ _ => ⟨rfl, e16, (by decide : 1 + 1 ≤ _), (by decide : 1 + 1 ≤ _)⟩)
        dsimp only [Pt.U, Pt.locs, Pt.cells, Pt.slots] at X25 lq25 yq25 zq25 st25 hQ25
        subst lq25 yq25 zq25
        obtain ⟨h25, e25⟩ : ∃ z, z = T25.heap := ⟨_, rfl⟩
        rw [← e25] at hQ25
        replace e25 := e25.symm
        obtain ⟨b25, rfl, Nq25, Kq25, hR25⟩ := hQ25
        have N := Fr.app N Nq25
        have E_b16 := E_b16.keep Kq25
        have F_value_b16 := F_value_b16.keep Kq25 nin0
        obtain ⟨E_b25, F_value_b25⟩ := hR25
        have O := O.keep Kq25 all0
        refine gb st25 ?_
        show G T25 (mkF m 54 #[jv i0, .second, iv i1, jv i2, .second, iv 1, rv b16, .val .null, .unset, .unset, .unset, .unset] [.ref b25])
        refine gb (fun _ k => XS.goto X25.here hx rfl (pc0 := 54) (pc' := 58) rfl (hb hby at_54) (by decide) (by decide) k) ?_
        show G T25 (mkF m 58 #[jv i0, .second, iv i1, jv i2, .second, iv 1, rv b16, .val .null, .unset, .unset, .unset, .unset] [.ref b25])
        exact J17 _ _ _ X25 N e25 O E_b16 F_value_b16 ((.ref b25)) (rfl)
    · skip
      refine gb (fun _ k => XS.ifNo X16.here hx rfl (hb hby at_31) rfl ((if0 _ _).trans (feq hc31).1) (XS.lloadN X16.here hx rfl (hb hby at_34) rfl k)) ?_
      show G T16 (mkF m 35 #[jv i0, .second, iv i1, jv i2, .second, iv 1, rv b16, .unset, .unset, .unset, .unset, .unset] [.long i2])
      obtain ⟨_, _, ⟨T26, Lz26, kz26, nz26⟩, -, X26, ⟨Lc26, hQ26, lq26, yq26, zq26⟩, st26⟩ := Jvm.LawKit.callS X16 hx (y := (⟨"java/lang/Long", "valueOf", "(J)Ljava/lang/Long;"⟩ : MethodName)) hown (mvT hZ (ow hw 0 rfl)) (mvT hZ (ow hw 1 rfl)) (mvT hZ (ow hw 2 rfl)) (mvT hZ (ow hw 3 rfl)) (by decide) (backOf (W := 0) (rm1 l Z a0 hw [] i2 h16 n0 O wc cc S_c BX) hZ (ow hw 3 rfl) (ow hw 2 rfl) (by decide) (by decide)) (g := (mkF m 35 #[jv i0, .second, iv i1, jv i2, .second, iv 1, rv b16, .unset, .unset, .unset, .unset, .unset] [.long i2])) rfl (by rw [hml]; rfl) (argsL := [(.long i2)]) (rest := []) (lenOf pd_5 rfl) rfl (by show 2 * 0 + _ ≤ _; exact Nat.le_of_eq rfl) (hb hby at_35) (fun _ _ => ⟨rfl, e16, (by decide : 1 + 1 ≤ _), (by decide : 1 + 1 ≤ _)⟩)
      dsimp only [Pt.U, Pt.locs, Pt.cells, Pt.slots] at X26 lq26 yq26 zq26 st26 hQ26
      subst lq26 yq26 zq26
      obtain ⟨h26, e26⟩ : ∃ z, z = T26.heap := ⟨_, rfl⟩
      rw [← e26] at hQ26
      replace e26 := e26.symm
      obtain ⟨b26, rfl, Nq26, Kq26, hR26⟩ := hQ26
      have N := Fr.app N Nq26
      have E_b16 := E_b16.keep Kq26
      have F_value_b16 := F_value_b16.keep Kq26 nin0
      obtain ⟨E_b26, F_value_b26⟩ := hR26
      have O := O.keep Kq26 all0
      refine gb st26 ?_
      show G T26 (mkF m 38 #[jv i0, .second, iv i1, jv i2, .second, iv 1, rv b16, .unset, .unset, .unset, .unset, .unset] [.ref b26])
      refine gb (fun _ k => XS.goto X26.here hx rfl (pc0 := 38) (pc' := 42) rfl (hb hby at_38) (by decide) (by decide) (XS.astore X26.here hx rfl (hb hby at_42) rfl rfl (l' := #[jv i0, .second, iv i1, jv i2, .second, iv 1, rv b16, rv b26, .unset, .unset, .unset, .unset]) rfl k)) ?_
      show G T26 (mkF m 44 #[jv i0, .second, iv i1, jv i2, .second, iv 1, rv b16, rv b26, .unset, .unset, .unset, .unset] [])
      have J27 : ∀ (T27 : State) (locs27 : List Loc) (h27 : Heap) (X27 : Stand p l e room_1 s m #[(.long i0), (.int i1), (.long i2)] below meth c T27 locs27 3 3) (N : Fr n0 locs27) (e27 : T27.heap = h27) (O : Old Z n0 h27) (E_b16 : Exa Z h27 b16 "java/lang/Long") (F_value_b16 : Fld Z h27 b16 "java/lang/Long" "value" "J" (.long i0)) (E_b26 : Exa Z h27 b26 "java/lang/Long") (F_value_b26 : Fld Z h27 b26 "java/lang/Long" "value" "J" (.long i2)) (v8 : Value) (hr_v8 : v8.isRef = true), G T27 (mkF m 58 #[jv i0, .second, iv i1, jv i2, .second, iv 1, rv b16, rv b26, .unset, .unset, .unset, .unset] [v8]) := by
        intro T27 locs27 h27 X27 N e27 O E_b16 F_value_b16 E_b26 F_value_b26 v8 hr_v8
        show G T27 (mkF m 58 #[jv i0, .second, iv i1, jv i2, .second, iv 1, rv b16, rv b26, .unset, .unset, .unset, .unset] [v8])
        refine gb (fun _ k => XS.astore X27.here hx rfl (hb hby at_58) rfl hr_v8 (l' := #[jv i0, .second, iv i1, jv i2, .second, iv 1, rv b16, rv b26, .val v8, .unset, .unset, .unset]) (by rcases ref_cases hr_v8 with q | ⟨_, q⟩ <;> rw [q] <;> rfl) k) ?_
        show G T27 (mkF m 60 #[jv i0, .second, iv i1, jv i2, .second, iv 1, rv b16, rv b26, .val v8, .unset, .unset, .unset] [])
        have J28 : ∀ (T28 : State) (locs28 : List Loc) (h28 : Heap) (X28 : Stand p l e room_1 s m #[(.long i0), (.int i1), (.long i2)] below meth c T28 locs28 4 4) (N : Fr n0 locs28) (e28 : T28.heap = h28) (O : Old Z n0 h28) (E_b16 : Exa Z h28 b16 "java/lang/Long") (F_value_b16 : Fld Z h28 b16 "java/lang/Long" "value" "J" (.long i0)) (E_b26 : Exa Z h28 b26 "java/lang/Long") (F_value_b26 : Fld Z h28 b26 "java/lang/Long" "value" "J" (.long i2)) (v9 : Value) (hr_v9 : v9.isRef = true), G T28 (mkF m 75 #[jv i0, .second, iv i1, jv i2, .second, iv 1, rv b16, rv b26, .val v8, .unset, .unset, .unset] [v9]) := by
          intro T28 locs28 h28 X28 N e28 O E_b16 F_value_b16 E_b26 F_value_b26 v9 hr_v9
          show G T28 (mkF m 75 #[jv i0, .second, iv i1, jv i2, .second, iv 1, rv b16, rv b26, .val v8, .unset, .unset, .unset] [v9])
          refine gb (fun _ k => XS.astore X28.here hx rfl (hb hby at_75) rfl hr_v9 (l' := #[jv i0, .second, iv i1, jv i2, .second, iv 1, rv b16, rv b26, .val v8, .val v9, .unset, .unset]) (by rcases ref_cases hr_v9 with q | ⟨_, q⟩ <;> rw [q] <;> rfl) k) ?_
          show G T28 (mkF m 77 #[jv i0, .second, iv i1, jv i2, .second, iv 1, rv b16, rv b26, .val v8, .val v9, .unset, .unset] [])
          obtain ⟨T29, h29, X29, e29, E29, A29, D29, U29, st29⟩ := newO X28 hx hZ hown (ow hw 22 rfl) (ow hw 23 rfl) (ow hw 24 rfl) e28 (g := (mkF m 77 #[jv i0, .second, iv i1, jv i2, .second, iv 1, rv b16, rv b26, .val v8, .val v9, .unset, .unset] [])) rfl (hb hby at_77) (by decide) (by decide)
          obtain ⟨b29, g29⟩ : ∃ z, z = h28.size := ⟨_, rfl⟩
          rw [← g29] at A29 D29 U29 st29
          have g_b29 : n0 ≤ b29 := Nat.le_trans (by have := O.2.1; rw [O.1] at this; exact this) (Nat.le_of_eq g29.symm)
          have ne_b16_b29 : b16 ≠ b29 := Nat.ne_of_lt (Nat.lt_of_lt_of_le E_b16.lt (Nat.le_of_eq g29.symm))
          have ne_b26_b29 : b26 ≠ b29 := Nat.ne_of_lt (Nat.lt_of_lt_of_le E_b26.lt (Nat.le_of_eq g29.symm))
          have E_b16 := E_b16.ext E29
          have F_value_b16 := F_value_b16.ext E29
          have E_b26 := E_b26.ext E29
          have F_value_b26 := F_value_b26.ext E29
          have O := O.ext E29
          have E_b29 := A29
          have F_command_b29 : Fld Z h29 b29 "com/example/equipe/equipe/JobSpec" "command" "Ljava/util/List;" .null := D29 (Or.inr (ow hw 30 rfl)) (ty := (.object "java/util/List")) (by decide)
          have F_payload_b29 : Fld Z h29 b29 "com/example/equipe/equipe/JobSpec" "payload" "Ljava/lang/String;" .null := D29 (Or.inr (ow hw 32 rfl)) (ty := (.object "java/lang/String")) (by decide)
          have F_maxAttempts_b29 : Fld Z h29 b29 "com/example/equipe/equipe/JobSpec" "maxAttempts" "Ljava/lang/Long;" .null := D29 (Or.inr (ow hw 34 rfl)) (ty := (.object "java/lang/Long")) (by decide)
          have F_timeLimitMs_b29 : Fld Z h29 b29 "com/example/equipe/equipe/JobSpec" "timeLimitMs" "Ljava/lang/Long;" .null := D29 (Or.inr (ow hw 36 rfl)) (ty := (.object "java/lang/Long")) (by decide)
          have F_priority_b29 : Fld Z h29 b29 "com/example/equipe/equipe/JobSpec" "priority" "J" (.long (0 : Int64)) := D29 (Or.inr (ow hw 43 rfl)) (ty := .long) (by decide)
          have F_delayMs_b29 : Fld Z h29 b29 "com/example/equipe/equipe/JobSpec" "delayMs" "Ljava/lang/Long;" .null := D29 (Or.inr (ow hw 45 rfl)) (ty := (.object "java/lang/Long")) (by decide)
          refine gb st29 ?_
          show G T29 (mkF m 80 #[jv i0, .second, iv i1, jv i2, .second, iv 1, rv b16, rv b26, .val v8, .val v9, .unset, .unset] [.ref b29])
          refine gb (fun _ k => XS.dup X29.here hx rfl (hb hby at_80) rfl rfl (XS.aconstNull X29.here hx rfl (hb hby at_81) (XS.aconstNull X29.here hx rfl (hb hby at_82) (XS.aload X29.here hx rfl (hb hby at_83) rfl hr_v8 (XS.aload X29.here hx rfl (hb hby at_85) rfl hr_v9 (XS.aload X29.here hx rfl (hb hby at_87) rfl rfl k)))))) ?_
          show G T29 (mkF m 89 #[jv i0, .second, iv i1, jv i2, .second, iv 1, rv b16, rv b26, .val v8, .val v9, .unset, .unset] [.ref b26, v9, v8, .null, .null, .ref b29, .ref b29])
          refine gb (fun _ k => XS.aload X29.here hx rfl (hb hby at_89) rfl rfl k) ?_
          show G T29 (mkF m 91 #[jv i0, .second, iv i1, jv i2, .second, iv 1, rv b16, rv b26, .val v8, .val v9, .unset, .unset] [.ref b16, .ref b26, v9, v8, .null, .null, .ref b29, .ref b29])
          obtain ⟨_, _, ⟨T30, Lz30, kz30, nz30⟩, -, X30, ⟨Lc30, hQ30, lq30, yq30, zq30⟩, st30⟩ := X29.specialBack hx (y := (⟨"com/example/equipe/equipe/JobSpec", "<init>", "(Ljava/util/List;Ljava/lang/String;Ljava/lang/Long;Ljava/lang/Long;Ljava/lang/Long;Ljava/lang/Long;)V"⟩ : MethodName)) rfl hown (mvT hZ (ow hw 25 rfl)) (mvT hZ (ow hw 26 rfl)) (mvT hZ (ow hw 27 rfl)) (by decide) (backOf (W := 1) (rm5_11 l Z a0 hw [] b29 v8 v9 b26 i2 b16 h29 n0 O hr_v8 hr_v9 E_b29 F_command_b29 F_payload_b29 F_maxAttempts_b29 F_timeLimitMs_b29 F_priority_b29 F_delayMs_b29 g_b29 E_b26 F_value_b26 ne_b26_b29) hZ (ow hw 27 rfl) (ow hw 24 rfl) (by decide) (by decide)) (g := (mkF m 91 #[jv i0, .second, iv i1, jv i2, .second, iv 1, rv b16, rv b26, .val v8, .val v9, .unset, .unset] [.ref b16, .ref b26, v9, v8, .null, .null, .ref b29, .ref b29])) rfl (by rw [hml]; rfl) (Steps.refl _) (a := b29) (argsL := [.null, .null, v8, v9, (.ref b26), (.ref b16)]) (rest := [(.ref b29)]) (lenOf pd_3 rfl) rfl (by show 2 * 0 + _ ≤ _; exact Nat.le_of_eq rfl) (hb hby at_91) (fun _ _ => ⟨rfl, e29, (by decide : 5 + 0 ≤ _), (by decide : 10 + 0 ≤ _)⟩)
          dsimp only [Pt.U, Pt.locs, Pt.cells, Pt.slots] at X30 lq30 yq30 zq30 st30 hQ30
          subst lq30 yq30 zq30
          obtain ⟨h30, e30⟩ : ∃ z, z = T30.heap := ⟨_, rfl⟩
          rw [← e30] at hQ30
          replace e30 := e30.symm
          obtain ⟨rfl, Nq30, Kq30, hR30⟩ := hQ30
          have N := Fr.app N Nq30
          have E_b16 := E_b16.keep Kq30
          have F_value_b16 := F_value_b16.keep Kq30 (ninS ne_b16_b29 nin0)
          have E_b26 := E_b26.keep Kq30
          have F_value_b26 := F_value_b26.keep Kq30 (ninS ne_b26_b29 nin0)
          have E_b29 := E_b29.keep Kq30
          obtain ⟨E_b29, F_delayMs_b29⟩ := hR30
          have O := O.keep Kq30 (allS g_b29 all0)
          refine gb (fun _ k => st30.trans k) ?_
          show G T30 (mkF m 94 #[jv i0, .second, iv i1, jv i2, .second, iv 1, rv b16, rv b26, .val v8, .val v9, .unset, .unset] [.ref b29])
          refine gb (fun _ k => XS.astore X30.here hx rfl (hb hby at_94) rfl rfl (l' := #[jv i0, .second, iv i1, jv i2, .second, iv 1, rv b16, rv b26, .val v8, .val v9, rv b29, .unset]) rfl (XS.iload X30.here hx rfl (hb hby at_96) rfl (XS.ifYes X30.here hx rfl (pc0 := 98) (pc' := 107) rfl (hb hby at_98) rfl ((if0 _ _).trans (feq (by decide : ¬ ((1 : Int32) = (0 : Int32)))).2) (by decide) (by decide) (XS.lloadN X30.here hx rfl (hb hby at_107) rfl (XS.lconst X30.here hx rfl (hb hby at_108) (XS.lcmp X30.here hx rfl (hb hby at_109) rfl k)))))) ?_
          show G T30 (mkF m 110 #[jv i0, .second, iv i1, jv i2, .second, iv 1, rv b16, rv b26, .val v8, .val v9, rv b29, .unset] [.int (lcmpW i0 (0 : Int64))])
          by_cases hc110 : i0 = (0 : Int64)
          · skip
            refine gb (fun _ k => XS.ifNo X30.here hx rfl (hb hby at_110) rfl ((if0 _ _).trans (teq ((own_eq _ _).mpr hc110)).2) (XS.iconst X30.here hx rfl (hb hby at_113) (XS.istore X30.here hx rfl (hb hby at_114) rfl (l' := #[jv i0, .second, iv i1, jv i2, .second, iv 1, rv b16, rv b26, .val v8, .val v9, rv b29, iv 0]) rfl (XS.goto X30.here hx rfl (pc0 := 116) (pc' := 134) rfl (hb hby at_116) (by decide) (by decide) (XS.aload X30.here hx rfl (hb hby at_134) rfl rfl k))))) ?_
            show G T30 (mkF m 136 #[jv i0, .second, iv i1, jv i2, .second, iv 1, rv b16, rv b26, .val v8, .val v9, rv b29, iv 0] [.ref b29])
            obtain ⟨cq31, kq31, q31a, q31b, q31c⟩ := isOf hZ e30 E_b29
            obtain ⟨_, _, ⟨T31, Lz31, kz31, nz31⟩, -, X31, ⟨Lc31, hQ31, lq31, yq31, zq31⟩, st31⟩ := X30.virtualBack hx (y := (⟨"com/example/equipe/equipe/JobSpec", "isDelayed", "()Z"⟩ : MethodName)) (z := (⟨"com/example/equipe/equipe/JobSpec", "isDelayed", "()Z"⟩ : MethodName)) hown (mvT hZ (ow hw 46 rfl)) (mvT hZ (ow hw 47 rfl)) (notFace_of_selects (args := #[]) (mvT hZ (ow hw 49 rfl))) (mvT hZ (ow hw 49 rfl)) (mvT hZ (ow hw 48 rfl)) (by decide) (backOf (W := 0) (rm7_1 l Z a0 hw [] b29 b16 i0 h30 n0 O F_delayMs_b29 E_b16 F_value_b16) hZ (ow hw 50 rfl) (ow hw 24 rfl) (by decide) (by decide)) q31a q31c (g := (mkF m 136 #[jv i0, .second, iv i1, jv i2, .second, iv 1, rv b16, rv b26, .val v8, .val v9, rv b29, iv 0] [.ref b29])) rfl (by rw [hml]; rfl) (Steps.refl _) (argsL := []) (rest := []) (lenOf pd_4 rfl) rfl (by show 2 * 0 + _ ≤ _; exact Nat.le_of_eq rfl) (hb hby at_136) (fun _ _ => ⟨rfl, e30, (by decide : 5 + 0 ≤ _), (by decide : 10 + 0 ≤ _)⟩)
            dsimp only [Pt.U, Pt.locs, Pt.cells, Pt.slots] at X31 lq31 yq31 zq31 st31 hQ31
            subst lq31 yq31 zq31
            obtain ⟨rfl, rfl, e31⟩ := hQ31
            try rw [List.append_nil] at X31
            refine gb (fun _ k => st31.trans k) ?_
            show G T31 (mkF m 139 #[jv i0, .second, iv i1, jv i2, .second, iv 1, rv b16, rv b26, .val v8, .val v9, rv b29, iv 0] [.int (if (0 : Int64) < i0 then (1 : Int32) else (0 : Int32))])
            refine gb (fun _ k => XS.iload X31.here hx rfl (hb hby at_139) rfl (XS.icmpNo X31.here hx rfl (hb hby at_141) rfl (teq (show (if (0 : Int64) < i0 then (1 : Int32) else (0 : Int32)) = (0 : Int32) from by rw [hc110]; exact if_neg (by decide))).2 (XS.iconst X31.here hx rfl (hb hby at_144) (XS.goto X31.here hx rfl (pc0 := 145) (pc' := 149) rfl (hb hby at_145) (by decide) (by decide) k)))) ?_
            show G T31 (mkF m 149 #[jv i0, .second, iv i1, jv i2, .second, iv 1, rv b16, rv b26, .val v8, .val v9, rv b29, iv 0] [.int 1])
            exact go X31 (v := (some (.int (1 : Int32)))) (fun h => by rw [Bd.returns] at h; cases h) (fun fs hr => retOut X31 hx Bd.returns rfl (Or.inl ⟨rfl, by simp, _, rfl⟩) (hb hby at_149) hr) (⟨rfl, N⟩) (by decide) (by decide)
          · skip
            refine gb (fun _ k => XS.ifYes X30.here hx rfl (pc0 := 110) (pc' := 119) rfl (hb hby at_110) rfl ((if0 _ _).trans (feq (fun q => hc110 ((own_eq _ _).mp q))).2) (by decide) (by decide) (XS.lloadN X30.here hx rfl (hb hby at_119) rfl (XS.lconst X30.here hx rfl (hb hby at_120) (XS.lcmp X30.here hx rfl (hb hby at_121) rfl k)))) ?_
            show G T30 (mkF m 122 #[jv i0, .second, iv i1, jv i2, .second, iv 1, rv b16, rv b26, .val v8, .val v9, rv b29, .unset] [.int (lcmpW i0 (0 : Int64))])
            by_cases hc122 : i0 < (0 : Int64)
            · skip
              refine gb (fun _ k => XS.ifNo X30.here hx rfl (hb hby at_122) rfl ((if0 _ _).trans (tlt ((own_lt _ _).mpr hc122)).2.1) (XS.iconst X30.here hx rfl (hb hby at_125) (XS.istore X30.here hx rfl (hb hby at_126) rfl (l' := #[jv i0, .second, iv i1, jv i2, .second, iv 1, rv b16, rv b26, .val v8, .val v9, rv b29, iv 0]) rfl (XS.goto X30.here hx rfl (pc0 := 128) (pc' := 134) rfl (hb hby at_128) (by decide) (by decide) (XS.aload X30.here hx rfl (hb hby at_134) rfl rfl k))))) ?_
              show G T30 (mkF m 136 #[jv i0, .second, iv i1, jv i2, .second, iv 1, rv b16, rv b26, .val v8, .val v9, rv b29, iv 0] [.ref b29])
              obtain ⟨cq32, kq32, q32a, q32b, q32c⟩ := isOf hZ e30 E_b29
              obtain ⟨_, _, ⟨T32, Lz32, kz32, nz32⟩, -, X32, ⟨Lc32, hQ32, lq32, yq32, zq32⟩, st32⟩ := X30.virtualBack hx (y := (⟨"com/example/equipe/equipe/JobSpec", "isDelayed", "()Z"⟩ : MethodName)) (z := (⟨"com/example/equipe/equipe/JobSpec", "isDelayed", "()Z"⟩ : MethodName)) hown (mvT hZ (ow hw 46 rfl)) (mvT hZ (ow hw 47 rfl)) (notFace_of_selects (args := #[]) (mvT hZ (ow hw 49 rfl))) (mvT hZ (ow hw 49 rfl)) (mvT hZ (ow hw 48 rfl)) (by decide) (backOf (W := 0) (rm7_1 l Z a0 hw [] b29 b16 i0 h30 n0 O F_delayMs_b29 E_b16 F_value_b16) hZ (ow hw 50 rfl) (ow hw 24 rfl) (by decide) (by decide)) q32a q32c (g := (mkF m 136 #[jv i0, .second, iv i1, jv i2, .second, iv 1, rv b16, rv b26, .val v8, .val v9, rv b29, iv 0] [.ref b29])) rfl (by rw [hml]; rfl) (Steps.refl _) (argsL := []) (rest := []) (lenOf pd_4 rfl) rfl (by show 2 * 0 + _ ≤ _; exact Nat.le_of_eq rfl) (hb hby at_136) (fun _ _ => ⟨rfl, e30, (by decide : 5 + 0 ≤ _), (by decide : 10 + 0 ≤ _)⟩)
              dsimp only [Pt.U, Pt.locs, Pt.cells, Pt.slots] at X32 lq32 yq32 zq32 st32 hQ32
              subst lq32 yq32 zq32
              obtain ⟨rfl, rfl, e32⟩ := hQ32
              try rw [List.append_nil] at X32
              refine gb (fun _ k => st32.trans k) ?_
              show G T32 (mkF m 139 #[jv i0, .second, iv i1, jv i2, .second, iv 1, rv b16, rv b26, .val v8, .val v9, rv b29, iv 0] [.int (if (0 : Int64) < i0 then (1 : Int32) else (0 : Int32))])
              refine gb (fun _ k => XS.iload X32.here hx rfl (hb hby at_139) rfl (XS.icmpNo X32.here hx rfl (hb hby at_141) rfl (teq (show (if (0 : Int64) < i0 then (1 : Int32) else (0 : Int32)) = (0 : Int32) from if_neg (own_asymL hc122))).2 (XS.iconst X32.here hx rfl (hb hby at_144) (XS.goto X32.here hx rfl (pc0 := 145) (pc' := 149) rfl (hb hby at_145) (by decide) (by decide) k)))) ?_
              show G T32 (mkF m 149 #[jv i0, .second, iv i1, jv i2, .second, iv 1, rv b16, rv b26, .val v8, .val v9, rv b29, iv 0] [.int 1])
              exact go X32 (v := (some (.int (1 : Int32)))) (fun h => by rw [Bd.returns] at h; cases h) (fun fs hr => retOut X32 hx Bd.returns rfl (Or.inl ⟨rfl, by simp, _, rfl⟩) (hb hby at_149) hr) (⟨rfl, N⟩) (by decide) (by decide)
            · skip
              refine gb (fun _ k => XS.ifYes X30.here hx rfl (pc0 := 122) (pc' := 131) rfl (hb hby at_122) rfl ((if0 _ _).trans (flt (fun q => hc122 ((own_lt _ _).mp q))).2.1) (by decide) (by decide) (XS.iconst X30.here hx rfl (hb hby at_131) (XS.istore X30.here hx rfl (hb hby at_132) rfl (l' := #[jv i0, .second, iv i1, jv i2, .second, iv 1, rv b16, rv b26, .val v8, .val v9, rv b29, iv 1]) rfl (XS.aload X30.here hx rfl (hb hby at_134) rfl rfl k)))) ?_
              show G T30 (mkF m 136 #[jv i0, .second, iv i1, jv i2, .second, iv 1, rv b16, rv b26, .val v8, .val v9, rv b29, iv 1] [.ref b29])
              obtain ⟨cq33, kq33, q33a, q33b, q33c⟩ := isOf hZ e30 E_b29
              obtain ⟨_, _, ⟨T33, Lz33, kz33, nz33⟩, -, X33, ⟨Lc33, hQ33, lq33, yq33, zq33⟩, st33⟩ := X30.virtualBack hx (y := (⟨"com/example/equipe/equipe/JobSpec", "isDelayed", "()Z"⟩ : MethodName)) (z := (⟨"com/example/equipe/equipe/JobSpec", "isDelayed", "()Z"⟩ : MethodName)) hown (mvT hZ (ow hw 46 rfl)) (mvT hZ (ow hw 47 rfl)) (notFace_of_selects (args := #[]) (mvT hZ (ow hw 49 rfl))) (mvT hZ (ow hw 49 rfl)) (mvT hZ (ow hw 48 rfl)) (by decide) (backOf (W := 0) (rm7_1 l Z a0 hw [] b29 b16 i0 h30 n0 O F_delayMs_b29 E_b16 F_value_b16) hZ (ow hw 50 rfl) (ow hw 24 rfl) (by decide) (by decide)) q33a q33c (g := (mkF m 136 #[jv i0, .second, iv i1, jv i2, .second, iv 1, rv b16, rv b26, .val v8, .val v9, rv b29, iv 1] [.ref b29])) rfl (by rw [hml]; rfl) (Steps.refl _) (argsL := []) (rest := []) (lenOf pd_4 rfl) rfl (by show 2 * 0 + _ ≤ _; exact Nat.le_of_eq rfl) (hb hby at_136) (fun _ _ => ⟨rfl, e30, (by decide : 5 + 0 ≤ _), (by decide : 10 + 0 ≤ _)⟩)
              dsimp only [Pt.U, Pt.locs, Pt.cells, Pt.slots] at X33 lq33 yq33 zq33 st33 hQ33
              subst lq33 yq33 zq33
              obtain ⟨rfl, rfl, e33⟩ := hQ33
              try rw [List.append_nil] at X33
              refine gb (fun _ k => st33.trans k) ?_
              show G T33 (mkF m 139 #[jv i0, .second, iv i1, jv i2, .second, iv 1, rv b16, rv b26, .val v8, .val v9, rv b29, iv 1] [.int (if (0 : Int64) < i0 then (1 : Int32) else (0 : Int32))])
              refine gb (fun _ k => XS.iload X33.here hx rfl (hb hby at_139) rfl (XS.icmpNo X33.here hx rfl (hb hby at_141) rfl (teq (show (if (0 : Int64) < i0 then (1 : Int32) else (0 : Int32)) = (1 : Int32) from if_pos (own_triL hc122 hc110))).2 (XS.iconst X33.here hx rfl (hb hby at_144) (XS.goto X33.here hx rfl (pc0 := 145) (pc' := 149) rfl (hb hby at_145) (by decide) (by decide) k)))) ?_
              show G T33 (mkF m 149 #[jv i0, .second, iv i1, jv i2, .second, iv 1, rv b16, rv b26, .val v8, .val v9, rv b29, iv 1] [.int 1])
              exact go X33 (v := (some (.int (1 : Int32)))) (fun h => by rw [Bd.returns] at h; cases h) (fun fs hr => retOut X33 hx Bd.returns rfl (Or.inl ⟨rfl, by simp, _, rfl⟩) (hb hby at_149) hr) (⟨rfl, N⟩) (by decide) (by decide)
        refine gb (fun _ k => XS.iloadN X27.here hx rfl (hb hby at_60) rfl (XS.bipush X27.here hx rfl (hb hby at_61) (XS.iand X27.here hx rfl (hb hby at_63) rfl k))) ?_
        show G T27 (mkF m 64 #[jv i0, .second, iv i1, jv i2, .second, iv 1, rv b16, rv b26, .val v8, .unset, .unset, .unset] [.int (i1 &&& (8 : Int32))])
        by_cases hc64 : (i1 &&& (8 : Int32)) = (0 : Int32)
        · skip
          refine gb (fun _ k => XS.ifYes X27.here hx rfl (pc0 := 64) (pc' := 74) rfl (hb hby at_64) rfl ((if0 _ _).trans (teq hc64).1) (by decide) (by decide) (XS.aconstNull X27.here hx rfl (hb hby at_74) k)) ?_
          show G T27 (mkF m 75 #[jv i0, .second, iv i1, jv i2, .second, iv 1, rv b16, rv b26, .val v8, .unset, .unset, .unset] [.null])
          exact J28 _ _ _ (X27.more (by decide) (by decide)) N e27 O E_b16 F_value_b16 E_b26 F_value_b26 (.null) (rfl)
        · skip
          refine gb (fun _ k => XS.ifNo X27.here hx rfl (hb hby at_64) rfl ((if0 _ _).trans (feq hc64).1) (XS.lloadN X27.here hx rfl (hb hby at_67) rfl k)) ?_
          show G T27 (mkF m 68 #[jv i0, .second, iv i1, jv i2, .second, iv 1, rv b16, rv b26, .val v8, .unset, .unset, .unset] [.long i0])
          obtain ⟨_, _, ⟨T34, Lz34, kz34, nz34⟩, -, X34, ⟨Lc34, hQ34, lq34, yq34, zq34⟩, st34⟩ := Jvm.LawKit.callS X27 hx (y := (⟨"java/lang/Long", "valueOf", "(J)Ljava/lang/Long;"⟩ : MethodName)) hown (mvT hZ (ow hw 0 rfl)) (mvT hZ (ow hw 1 rfl)) (mvT hZ (ow hw 2 rfl)) (mvT hZ (ow hw 3 rfl)) (by decide) (backOf (W := 0) (rm1 l Z a0 hw [] i0 h27 n0 O wc cc S_c BX) hZ (ow hw 3 rfl) (ow hw 2 rfl) (by decide) (by decide)) (g := (mkF m 68 #[jv i0, .second, iv i1, jv i2, .second, iv 1, rv b16, rv b26, .val v8, .unset, .unset, .unset] [.long i0])) rfl (by rw [hml]; rfl) (argsL := [(.long i0)]) (rest := []) (lenOf pd_5 rfl) rfl (by show 2 * 0 + _ ≤ _; exact Nat.le_of_eq rfl) (hb hby at_68) (fun _ _ => ⟨rfl, e27, (by decide : 3 + 1 ≤ _), (by decide : 3 + 1 ≤ _)⟩)
          dsimp only [Pt.U, Pt.locs, Pt.cells, Pt.slots] at X34 lq34 yq34 zq34 st34 hQ34
          subst lq34 yq34 zq34
          obtain ⟨h34, e34⟩ : ∃ z, z = T34.heap := ⟨_, rfl⟩
          rw [← e34] at hQ34
          replace e34 := e34.symm
          obtain ⟨b34, rfl, Nq34, Kq34, hR34⟩ := hQ34
          have N := Fr.app N Nq34
          have E_b16 := E_b16.keep Kq34
          have F_value_b16 := F_value_b16.keep Kq34 nin0
          have E_b26 := E_b26.keep Kq34
          have F_value_b26 := F_value_b26.keep Kq34 nin0
          obtain ⟨E_b34, F_value_b34⟩ := hR34
          have O := O.keep Kq34 all0
          refine gb st34 ?_
          show G T34 (mkF m 71 #[jv i0, .second, iv i1, jv i2, .second, iv 1, rv b16, rv b26, .val v8, .unset, .unset, .unset] [.ref b34])
          refine gb (fun _ k => XS.goto X34.here hx rfl (pc0 := 71) (pc' := 75) rfl (hb hby at_71) (by decide) (by decide) k) ?_
          show G T34 (mkF m 75 #[jv i0, .second, iv i1, jv i2, .second, iv 1, rv b16, rv b26, .val v8, .unset, .unset, .unset] [.ref b34])
          exact J28 _ _ _ X34 N e34 O E_b16 F_value_b16 E_b26 F_value_b26 ((.ref b34)) (rfl)
      refine gb (fun _ k => XS.iloadN X26.here hx rfl (hb hby at_44) rfl (XS.iconst X26.here hx rfl (hb hby at_45) (XS.iand X26.here hx rfl (hb hby at_46) rfl k))) ?_
      show G T26 (mkF m 47 #[jv i0, .second, iv i1, jv i2, .second, iv 1, rv b16, rv b26, .unset, .unset, .unset, .unset] [.int (i1 &&& (4 : Int32))])
      by_cases hc47 : (i1 &&& (4 : Int32)) = (0 : Int32)
      · skip
        refine gb (fun _ k => XS.ifYes X26.here hx rfl (pc0 := 47) (pc' := 57) rfl (hb hby at_47) rfl ((if0 _ _).trans (teq hc47).1) (by decide) (by decide) (XS.aconstNull X26.here hx rfl (hb hby at_57) k)) ?_
        show G T26 (mkF m 58 #[jv i0, .second, iv i1, jv i2, .second, iv 1, rv b16, rv b26, .unset, .unset, .unset, .unset] [.null])
        exact J27 _ _ _ (X26.more (by decide) (by decide)) N e26 O E_b16 F_value_b16 E_b26 F_value_b26 (.null) (rfl)
      · skip
        refine gb (fun _ k => XS.ifNo X26.here hx rfl (hb hby at_47) rfl ((if0 _ _).trans (feq hc47).1) (XS.lloadN X26.here hx rfl (hb hby at_50) rfl k)) ?_
        show G T26 (mkF m 51 #[jv i0, .second, iv i1, jv i2, .second, iv 1, rv b16, rv b26, .unset, .unset, .unset, .unset] [.long i2])
        obtain ⟨_, _, ⟨T35, Lz35, kz35, nz35⟩, -, X35, ⟨Lc35, hQ35, lq35, yq35, zq35⟩, st35⟩ := Jvm.LawKit.callS X26 hx (y := (⟨"java/lang/Long", "valueOf", "(J)Ljava/lang/Long;"⟩ : MethodName)) hown (mvT hZ (ow hw 0 rfl)) (mvT hZ (ow hw 1 rfl)) (mvT hZ (ow hw 2 rfl)) (mvT hZ (ow hw 3 rfl)) (by decide) (backOf (W := 0) (rm1 l Z a0 hw [] i2 h26 n0 O wc cc S_c BX) hZ (ow hw 3 rfl) (ow hw 2 rfl) (by decide) (by decide)) (g := (mkF m 51 #[jv i0, .second, iv i1, jv i2, .second, iv 1, rv b16, rv b26, .unset, .unset, .unset, .unset] [.long i2])) rfl (by rw [hml]; rfl) (argsL := [(.long i2)]) (rest := []) (lenOf pd_5 rfl) rfl (by show 2 * 0 + _ ≤ _; exact Nat.le_of_eq rfl) (hb hby at_51) (fun _ _ => ⟨rfl, e26, (by decide : 2 + 1 ≤ _), (by decide : 2 + 1 ≤ _)⟩)
        dsimp only [Pt.U, Pt.locs, Pt.cells, Pt.slots] at X35 lq35 yq35 zq35 st35 hQ35
        subst lq35 yq35 zq35
        obtain ⟨h35, e35⟩ : ∃ z, z = T35.heap := ⟨_, rfl⟩
        rw [← e35] at hQ35
        replace e35 := e35.symm
        obtain ⟨b35, rfl, Nq35, Kq35, hR35⟩ := hQ35
        have N := Fr.app N Nq35
        have E_b16 := E_b16.keep Kq35
        have F_value_b16 := F_value_b16.keep Kq35 nin0
        have E_b26 := E_b26.keep Kq35
        have F_value_b26 := F_value_b26.keep Kq35 nin0
        obtain ⟨E_b35, F_value_b35⟩ := hR35
        have O := O.keep Kq35 all0
        refine gb st35 ?_
        show G T35 (mkF m 54 #[jv i0, .second, iv i1, jv i2, .second, iv 1, rv b16, rv b26, .unset, .unset, .unset, .unset] [.ref b35])
        refine gb (fun _ k => XS.goto X35.here hx rfl (pc0 := 54) (pc' := 58) rfl (hb hby at_54) (by decide) (by decide) k) ?_
        show G T35 (mkF m 58 #[jv i0, .second, iv i1, jv i2, .second, iv 1, rv b16, rv b26, .unset, .unset, .unset, .unset] [.ref b35])
        exact J27 _ _ _ X35 N e35 O E_b16 F_value_b16 E_b26 F_value_b26 ((.ref b35)) (rfl)
set_option maxRecDepth 65536 in
set_option maxHeartbeats 40000000 in
theorem comes_1 {Post : Tables → Env → Array Value → State → Outcome → State → Prop} (hpost : ∀ tb e args s v u, (limb_1_1.after args s (.returned v) u = true ∧ limb_1_2.after args s (.returned v) u = true ∧ True) → FrameEnd s (.returned v) u (Jvm.fieldLocs frame_1_writes args s ++ Jvm.arrayLocs frame_1_arrays args s ++ Jvm.staticLocs frame_1_statics s) 24 128 → Post tb e args s (.returned v) u) :
    ArmFor flags0 classFile x code maxLocals ret World_1 tables_1 room_1 Calls_1 rest_1 Pre_1 Post := by
  intro l hfl _ _ p e ha hc hk s m args below hf hA hF happ hP
  obtain ⟨hcalls, hrest, hpre⟩ := hP
  obtain ⟨-, -, -, hnamed, -, -, -, hat⟩ := (Spec.applies_iff hf).mp happ
  obtain ⟨hg, hn⟩ := and_e (Cond.before_iff.mp (show (Jvm.Cond.and given_1 narrow_1).before args s = true from hpre))
  obtain ⟨g1, g2⟩ := and_e hg
  obtain ⟨g3, g4⟩ := and_e g2
  obtain ⟨g5, g6⟩ := and_e g4
  obtain ⟨w0, w1, w2, rfl⟩ : ∃ w0 w1 w2 : Value, args = #[w0, w1, w2] := by
    have hs : args.size = 3 := by simpa [Cond.value, given_1] using g1
    obtain ⟨L⟩ := args
    match L, hs with
    | [w0, w1, w2], _ => exact ⟨w0, w1, w2, rfl⟩
  have hw := fun d (hd : d ∈ tables_1) => atoms_spec (ws := Jvm.Cond.code x code maxLocals ret :: tables_1) hat d (List.mem_cons_of_mem _ hd)
  have hfit : Fit s := fun {y c} hc i hi => by
    obtain ⟨ha, rfl⟩ := Array.getElem?_eq_some_iff.mp hc
    have q := List.all_eq_true.mp ((Array.all_eq_true_iff_forall_mem.mp hF) _ (Array.getElem_mem ha)) i (List.mem_range.mpr hi)
    simpa [Array.getElem?_eq_getElem hi] using q
  obtain ⟨hsets, hown0⟩ := atoms_of _ (rest_1_c_eq ▸ (show rest_1_c.before _ s = true from hrest))
  have hr0 := Cond.before_iff.mp hown0
  obtain ⟨i0, ei0⟩ := isL_v g3
  obtain rfl : w0 = (.long i0) := Option.some.inj ei0
  obtain ⟨i1, ei1⟩ := is_v g5
  obtain rfl : w1 = (.int i1) := Option.some.inj ei1
  obtain ⟨i2, ei2⟩ := isL_v g6
  obtain rfl : w2 = (.long i2) := Option.some.inj ei2
  have hA := Cond.before_iff.mp (hsets _ (List.mem_of_getElem? (i := 2) rfl))
  obtain ⟨wc, evc⟩ := arr_v hA
  obtain ⟨cc, Arc⟩ := Arr.start evc hA
  have S_c : Sta s s.heap "java/lang/Long$LongCache" "cache" "[Ljava/lang/Long;" (.ref wc) := Sta.start evc (Or.inl (hsets _ (List.mem_of_getElem? (i := 1) rfl)))
  have hL := eqv_i (Term.int_eval (256 : Int32)) (Cond.before_iff.mp (hsets _ (List.mem_of_getElem? (i := 4) rfl)))
  obtain ⟨hl1, hl2⟩ := own_len evc Arc hL
  have BX : Bxs s wc cc "java/lang/Long" "J" (256 : Int32) (fun j => .long (j - (128 : Int32)).toInt64) := Bxs.start (fun _ => evc) Arc hl1 hl2 (by decide) (Cond.before_iff.mp (hsets _ (List.mem_of_getElem? (i := 5) rfl))) (fun X j hj h => eqv_l (i2l_at (by simp [Jvm.Term.eval, idx_at hj, Term.int_eval]; exact own_idx hj)) h)
  obtain ⟨n, o, h1, h2, h3, _, L, rfl, ⟨rfl, N⟩, hq⟩ := rm0 l s _ hw tables_1 i0 i2 i1 s.heap s.heap.size (Old.start s) wc cc S_c BX p e ha hc hk s m _ below hf ((Spec.applies_iff_loose hf).mp happ).1 ⟨rfl, State.Warmed39.refl s, rfl, rfl⟩ trivial
  refine ⟨n, _, h1, h2, h3, hpost _ _ _ _ _ _ ⟨Cond.after_iff.mpr rfl, Cond.after_iff.mpr (eq_i res_at (Term.int_eval (1)) rfl), trivial⟩ ⟨hq.1, hq.2.1, (hq.2.2.sift fun y hy => Or.inr (N y hy)).mono (by decide) (by decide)⟩⟩
theorem main_1_1 : Claimed_1_1 := comes_1 fun _ _ _ _ _ _ h hF => ⟨h.1, hF⟩
theorem main_1_2 : Claimed_1_2 := comes_1 fun _ _ _ _ _ _ h hF => ⟨h.2.1, hF⟩
end Jvm.Pilot.@@N@@
namespace Jvm.Pilot.@@N@@
open Jvm Jvm.ClassFile Sem Op Lib Jvm.Free Jvm.Stand Jvm.Pilot.@@N@@.Jvm.D
/-! MADE BY PROGRAM (witnessworld.py) out of the Statement's table words and the real class files: 16 classes; the members and pool entries that the words name. The judged class is class 1, her method 1. -/
namespace start1
open Jvm.ClassFile
def u (s : String) : CpInfo := .utf8 (stringToUtf16 s)
/-- a pool by its gaps: so many unusable entries, then the entry; so many at the end -/
def gap : Nat → List CpInfo → List CpInfo
  | 0, r => r
  | n + 1, r => .unusable :: gap n r
def poolList (es : List (Nat × CpInfo)) (last : Nat) : List CpInfo := es.foldr (fun e r => gap e.1 (e.2 :: r)) (gap last [])
def pool (es : List (Nat × CpInfo)) (last : Nat) : Array CpInfo := ⟨poolList es last⟩
def fileOf (pool : Array CpInfo) (this : Nat) (attrs : Array Attribute := #[]) (ms : Array MethodInfo := #[]) (fl : Nat := 33) (sup : Nat := 0) (ifs : Array Nat := #[]) (fds : Array FieldInfo := #[]) : ClassFile where
  minorVersion := 0
  majorVersion := 65
  constantPool := pool
  accessFlags := fl
  thisClass := this
  superClass := sup
  interfaces := ifs
  fields := fds
  methods := ms
  attributes := attrs
def plain (name : String) (sup : Option ClassId) : Class where
  name := name
  kind := .ordinary
  loader := none
  accessFlags := 33
  super := sup
  interfaces := #[]
  cf := none
  fields := #[]
  methods := #[]
  instanceTypes := #[]
  staticTypes := #[]
  resolved := #[]
  callSites := []
  init := .initialized
  statics := none
  mirror := none

def pool0 : Array CpInfo := pool [(5, u "<init>"), (0, u "()V"), (1, .class_ 10), (1, u "java/lang/Object")] 113

def k0c0 : Code := { maxStack := 0, maxLocals := 1, code := object_method_1_code, exceptionTable := #[], attributes := #[] }
def k0m0 : Method := { name := "<init>", desc := "()V", sig := { parameters := [], returnType := none }, accessFlags := 1, code := some k0c0 }
/-- java/lang/Object -/
def k0 : Class := { plain "java/lang/Object" none with
  accessFlags := 33
  interfaces := #[]
  cf := some (fileOf pool0 8 #[] #[{ accessFlags := 1, nameIndex := 5, descriptorIndex := 6, attributes := #[] }] 33 0 #[] #[])
  fields := #[]
  methods := #[k0m0]
  instanceTypes := #[]
  staticTypes := #[]
  resolved := Array.replicate 124 none
  statics := none }

def pool1 : Array CpInfo := pool [(2, .class_ 4), (1, u "java/lang/Object"), (0, u "<init>"), (0, u "()V"), (0, .methodref 8 9), (0, .class_ 10), (0, .nameAndType 11 12), (0, u "java/lang/Long"), (0, u "valueOf"), (0, u "(J)Ljava/lang/Long;"), (0, .class_ 14), (0, u "com/example/equipe/equipe/JobSpec"), (0, .methodref 13 16), (0, .nameAndType 5 17), (0, u "(Ljava/util/List;Ljava/lang/String;Ljava/lang/Long;Ljava/lang/Long;Ljava/lang/Long;Ljava/lang/Long;)V"), (0, .methodref 13 19), (0, .nameAndType 20 21), (0, u "isDelayed"), (0, u "()Z"), (0, .class_ 23), (0, u "com/example/equipe/equipe/JobSpecIsDelayedPinLaw"), (2, u "law"), (0, u "(JIJ)Z")] 3

def k1m0 : Method := { name := "<init>", desc := "()V", sig := { parameters := [], returnType := none }, accessFlags := 1, code := none }
def k1c1 : Code := { maxStack := 8, maxLocals := 12, code := code, exceptionTable := #[], attributes := #[] }
def k1m1 : Method := { name := "law", desc := "(JIJ)Z", sig := { parameters := [.long, .int, .long], returnType := some .boolean }, accessFlags := 9, code := some k1c1 }
/-- com/example/equipe/equipe/JobSpecIsDelayedPinLaw -/
def k1 : Class := { plain "com/example/equipe/equipe/JobSpecIsDelayedPinLaw" (some 0) with
  accessFlags := 49
  interfaces := #[]
  cf := some (fileOf pool1 22 #[] #[{ accessFlags := 1, nameIndex := 5, descriptorIndex := 6, attributes := #[] }, { accessFlags := 9, nameIndex := 26, descriptorIndex := 27, attributes := #[] }] 49 2 #[] #[])
  fields := #[]
  methods := #[k1m0, k1m1]
  instanceTypes := #[]
  staticTypes := #[]
  resolved := Array.replicate 31 none
  statics := none }

def pool2 : Array CpInfo := pool [(1, .class_ 2), (0, u "java/io/Serializable"), (0, .class_ 4), (0, u "java/lang/Object")] 2

/-- java/io/Serializable -/
def k2 : Class := { plain "java/io/Serializable" (some 0) with
  accessFlags := 1537
  interfaces := #[]
  cf := some (fileOf pool2 1 #[] #[] 1537 3 #[] #[])
  fields := #[]
  methods := #[]
  instanceTypes := #[]
  staticTypes := #[]
  resolved := Array.replicate 7 none
  statics := none }

def pool3 : Array CpInfo := pool [(1, .methodref 2 3), (0, .class_ 4), (0, .nameAndType 5 6), (0, u "java/lang/Object"), (0, u "<init>"), (0, u "()V"), (1, .class_ 10), (1, u "java/lang/Number"), (2, .class_ 14), (0, u "java/io/Serializable"), (0, u "serialVersionUID"), (0, u "J")] 20

def k3c0 : Code := { maxStack := 1, maxLocals := 1, code := jdk_18_method_1_code, exceptionTable := #[], attributes := #[] }
def k3m0 : Method := { name := "<init>", desc := "()V", sig := { parameters := [], returnType := none }, accessFlags := 1, code := some k3c0 }
/-- java/lang/Number -/
def k3 : Class := { plain "java/lang/Number" (some 0) with
  accessFlags := 1057
  interfaces := #[2]
  cf := some (fileOf pool3 8 #[] #[{ accessFlags := 1, nameIndex := 5, descriptorIndex := 6, attributes := #[] }] 1057 2 #[13] #[{ accessFlags := 26, nameIndex := 15, descriptorIndex := 16, attributes := #[] }])
  fields := #[{ name := "serialVersionUID", type := .long, accessFlags := 26, slot := 0, constantValue := 0 }]
  methods := #[k3m0]
  instanceTypes := #[]
  staticTypes := #[.long]
  resolved := Array.replicate 37 none
  statics := none }

def pool4 : Array CpInfo := pool [(1, .class_ 2), (0, u "java/lang/Comparable"), (0, .class_ 4), (0, u "java/lang/Object")] 7

/-- java/lang/Comparable -/
def k4 : Class := { plain "java/lang/Comparable" (some 0) with
  accessFlags := 1537
  interfaces := #[]
  cf := some (fileOf pool4 1 #[] #[] 1537 3 #[] #[])
  fields := #[]
  methods := #[]
  instanceTypes := #[]
  staticTypes := #[]
  resolved := Array.replicate 12 none
  statics := none }

def pool5 : Array CpInfo := pool [(1, .class_ 2), (0, u "java/lang/constant/Constable"), (0, .class_ 4), (0, u "java/lang/Object")] 6

/-- java/lang/constant/Constable -/
def k5 : Class := { plain "java/lang/constant/Constable" (some 0) with
  accessFlags := 1537
  interfaces := #[]
  cf := some (fileOf pool5 1 #[] #[] 1537 3 #[] #[])
  fields := #[]
  methods := #[]
  instanceTypes := #[]
  staticTypes := #[]
  resolved := Array.replicate 11 none
  statics := none }

def pool6 : Array CpInfo := pool [(1, .class_ 2), (0, u "java/lang/constant/ConstantDesc"), (0, .class_ 4), (0, u "java/lang/Object")] 32

/-- java/lang/constant/ConstantDesc -/
def k6 : Class := { plain "java/lang/constant/ConstantDesc" (some 0) with
  accessFlags := 1537
  interfaces := #[]
  cf := some (fileOf pool6 1 #[] #[] 1537 3 #[] #[])
  fields := #[]
  methods := #[]
  instanceTypes := #[]
  staticTypes := #[]
  resolved := Array.replicate 37 none
  statics := none }

def pool7 : Array CpInfo := pool [(1, .class_ 2), (0, u "java/lang/Long"), (55, .nameAndType 59 60), (0, u "<init>"), (0, u "()V"), (24, u "valueOf"), (143, u "(J)Ljava/lang/Long;"), (0, .long 18446744073709551488), (1, .long 127), (1, .fieldref 235 236), (0, .class_ 237), (0, .nameAndType 238 239), (0, u "java/lang/Long$LongCache"), (0, u "cache"), (0, u "[Ljava/lang/Long;"), (0, .methodref 1 241), (0, .nameAndType 59 242), (0, u "(J)V"), (27, .methodref 271 58), (0, .class_ 272), (0, u "java/lang/Number"), (0, .fieldref 1 274), (0, .nameAndType 275 276), (0, u "value"), (0, u "J"), (5, u "longValue"), (0, u "()J"), (77, u "TYPE"), (0, u "Ljava/lang/Class;"), (0, .class_ 364), (0, u "java/lang/Comparable"), (0, .class_ 366), (0, u "java/lang/constant/Constable"), (0, .class_ 368), (0, u "java/lang/constant/ConstantDesc"), (0, u "MIN_VALUE"), (1, u "MAX_VALUE"), (4, u "SIZE"), (0, u "I"), (1, u "BYTES"), (1, u "serialVersionUID")] 142

def k7c0 : Code := { maxStack := 4, maxLocals := 3, code := jdk_35_method_24_code, exceptionTable := #[], attributes := #[] }
def k7m0 : Method := { name := "valueOf", desc := "(J)Ljava/lang/Long;", sig := { parameters := [.long], returnType := some (.object "java/lang/Long") }, accessFlags := 9, code := some k7c0 }
def k7c1 : Code := { maxStack := 3, maxLocals := 3, code := jdk_35_method_26_code, exceptionTable := #[], attributes := #[] }
def k7m1 : Method := { name := "<init>", desc := "(J)V", sig := { parameters := [.long], returnType := none }, accessFlags := 1, code := some k7c1 }
def k7c2 : Code := { maxStack := 2, maxLocals := 1, code := jdk_35_method_31_code, exceptionTable := #[], attributes := #[] }
def k7m2 : Method := { name := "longValue", desc := "()J", sig := { parameters := [], returnType := some .long }, accessFlags := 1, code := some k7c2 }
/-- java/lang/Long -/
def k7 : Class := { plain "java/lang/Long" (some 3) with
  accessFlags := 49
  interfaces := #[4, 5, 6]
  cf := some (fileOf pool7 1 #[.nestMembers #[235]] #[{ accessFlags := 9, nameIndex := 85, descriptorIndex := 229, attributes := #[] }, { accessFlags := 1, nameIndex := 59, descriptorIndex := 242, attributes := #[] }, { accessFlags := 1, nameIndex := 282, descriptorIndex := 283, attributes := #[] }] 49 271 #[363, 365, 367] #[{ accessFlags := 25, nameIndex := 369, descriptorIndex := 276, attributes := #[] }, { accessFlags := 25, nameIndex := 371, descriptorIndex := 276, attributes := #[] }, { accessFlags := 25, nameIndex := 361, descriptorIndex := 362, attributes := #[] }, { accessFlags := 18, nameIndex := 275, descriptorIndex := 276, attributes := #[] }, { accessFlags := 25, nameIndex := 376, descriptorIndex := 377, attributes := #[] }, { accessFlags := 25, nameIndex := 379, descriptorIndex := 377, attributes := #[] }, { accessFlags := 26, nameIndex := 381, descriptorIndex := 276, attributes := #[] }])
  fields := #[{ name := "MIN_VALUE", type := .long, accessFlags := 25, slot := 0, constantValue := 0 }, { name := "MAX_VALUE", type := .long, accessFlags := 25, slot := 1, constantValue := 0 }, { name := "TYPE", type := (.object "java/lang/Class"), accessFlags := 25, slot := 2, constantValue := 0 }, { name := "value", type := .long, accessFlags := 18, slot := 0, constantValue := 0 }, { name := "SIZE", type := .int, accessFlags := 25, slot := 3, constantValue := 0 }, { name := "BYTES", type := .int, accessFlags := 25, slot := 4, constantValue := 0 }, { name := "serialVersionUID", type := .long, accessFlags := 26, slot := 5, constantValue := 0 }]
  methods := #[k7m0, k7m1, k7m2]
  instanceTypes := #[.long]
  staticTypes := #[.long, .long, (.object "java/lang/Class"), .int, .int, .long]
  resolved := Array.replicate 524 none
  statics := none }

def pool8 : Array CpInfo := pool [(1, .methodref 2 3), (0, .class_ 4), (0, .nameAndType 5 6), (0, u "java/lang/Object"), (0, u "<init>"), (0, u "()V"), (6, .fieldref 14 15), (0, .class_ 16), (0, .nameAndType 17 18), (0, u "com/example/equipe/equipe/JobSpec"), (0, u "command"), (0, u "Ljava/util/List;"), (0, .fieldref 14 20), (0, .nameAndType 21 22), (0, u "payload"), (0, u "Ljava/lang/String;"), (0, .fieldref 14 24), (0, .nameAndType 25 26), (0, u "maxAttempts"), (0, u "Ljava/lang/Long;"), (0, .fieldref 14 28), (0, .nameAndType 29 26), (0, u "timeLimitMs"), (0, .long 2147483648), (1, .methodref 33 34), (0, .class_ 35), (0, .nameAndType 36 37), (0, u "java/lang/Long"), (0, u "longValue"), (0, u "()J"), (0, .fieldref 14 39), (0, .nameAndType 40 41), (0, u "priority"), (0, u "J"), (0, .fieldref 14 43), (0, .nameAndType 44 26), (0, u "delayMs"), (35, u "DEFAULT_PRIORITY"), (1, u "MAX_PRIORITY"), (0, u "MAX_ATTEMPTS"), (0, u "MIN_TIME_LIMIT_MS"), (0, u "MAX_TIME_LIMIT_MS"), (0, u "MAX_DELAY_MS"), (2, u "(Ljava/util/List;Ljava/lang/String;Ljava/lang/Long;Ljava/lang/Long;Ljava/lang/Long;Ljava/lang/Long;)V"), (9, u "isDelayed"), (0, u "()Z")] 2

def k8c0 : Code := { maxStack := 3, maxLocals := 7, code := prog_7_method_1_code, exceptionTable := #[], attributes := #[] }
def k8m0 : Method := { name := "<init>", desc := "(Ljava/util/List;Ljava/lang/String;Ljava/lang/Long;Ljava/lang/Long;Ljava/lang/Long;Ljava/lang/Long;)V", sig := { parameters := [(.object "java/util/List"), (.object "java/lang/String"), (.object "java/lang/Long"), (.object "java/lang/Long"), (.object "java/lang/Long"), (.object "java/lang/Long")], returnType := none }, accessFlags := 1, code := some k8c0 }
def k8c1 : Code := { maxStack := 4, maxLocals := 1, code := prog_7_method_9_code, exceptionTable := #[], attributes := #[] }
def k8m1 : Method := { name := "isDelayed", desc := "()Z", sig := { parameters := [], returnType := some .boolean }, accessFlags := 0, code := some k8c1 }
/-- com/example/equipe/equipe/JobSpec -/
def k8 : Class := { plain "com/example/equipe/equipe/JobSpec" (some 0) with
  accessFlags := 33
  interfaces := #[]
  cf := some (fileOf pool8 14 #[] #[{ accessFlags := 1, nameIndex := 5, descriptorIndex := 89, attributes := #[] }, { accessFlags := 0, nameIndex := 99, descriptorIndex := 100, attributes := #[] }] 33 2 #[] #[{ accessFlags := 25, nameIndex := 80, descriptorIndex := 41, attributes := #[] }, { accessFlags := 25, nameIndex := 82, descriptorIndex := 41, attributes := #[] }, { accessFlags := 25, nameIndex := 83, descriptorIndex := 41, attributes := #[] }, { accessFlags := 25, nameIndex := 84, descriptorIndex := 41, attributes := #[] }, { accessFlags := 25, nameIndex := 85, descriptorIndex := 41, attributes := #[] }, { accessFlags := 25, nameIndex := 86, descriptorIndex := 41, attributes := #[] }, { accessFlags := 18, nameIndex := 17, descriptorIndex := 18, attributes := #[] }, { accessFlags := 18, nameIndex := 21, descriptorIndex := 22, attributes := #[] }, { accessFlags := 18, nameIndex := 25, descriptorIndex := 26, attributes := #[] }, { accessFlags := 18, nameIndex := 29, descriptorIndex := 26, attributes := #[] }, { accessFlags := 18, nameIndex := 40, descriptorIndex := 41, attributes := #[] }, { accessFlags := 18, nameIndex := 44, descriptorIndex := 26, attributes := #[] }])
  fields := #[{ name := "DEFAULT_PRIORITY", type := .long, accessFlags := 25, slot := 0, constantValue := 0 }, { name := "MAX_PRIORITY", type := .long, accessFlags := 25, slot := 1, constantValue := 0 }, { name := "MAX_ATTEMPTS", type := .long, accessFlags := 25, slot := 2, constantValue := 0 }, { name := "MIN_TIME_LIMIT_MS", type := .long, accessFlags := 25, slot := 3, constantValue := 0 }, { name := "MAX_TIME_LIMIT_MS", type := .long, accessFlags := 25, slot := 4, constantValue := 0 }, { name := "MAX_DELAY_MS", type := .long, accessFlags := 25, slot := 5, constantValue := 0 }, { name := "command", type := (.object "java/util/List"), accessFlags := 18, slot := 0, constantValue := 0 }, { name := "payload", type := (.object "java/lang/String"), accessFlags := 18, slot := 1, constantValue := 0 }, { name := "maxAttempts", type := (.object "java/lang/Long"), accessFlags := 18, slot := 2, constantValue := 0 }, { name := "timeLimitMs", type := (.object "java/lang/Long"), accessFlags := 18, slot := 3, constantValue := 0 }, { name := "priority", type := .long, accessFlags := 18, slot := 4, constantValue := 0 }, { name := "delayMs", type := (.object "java/lang/Long"), accessFlags := 18, slot := 5, constantValue := 0 }]
  methods := #[k8m0, k8m1]
  instanceTypes := #[(.object "java/util/List"), (.object "java/lang/String"), (.object "java/lang/Long"), (.object "java/lang/Long"), .long, (.object "java/lang/Long")]
  staticTypes := #[.long, .long, .long, .long, .long, .long]
  resolved := Array.replicate 103 none
  statics := none }

def pool9 : Array CpInfo := pool [(2, .class_ 4), (1, u "java/lang/Object"), (0, u "<init>"), (0, u "()V"), (0, .class_ 8), (0, u "java/lang/Long"), (7, .class_ 18), (1, u "java/lang/Long$LongCache"), (0, u "$assertionsDisabled"), (0, u "Z"), (8, u "archivedCache"), (0, u "[Ljava/lang/Long;"), (7, u "cache")] 24

def k9m0 : Method := { name := "<init>", desc := "()V", sig := { parameters := [], returnType := none }, accessFlags := 2, code := none }
/-- java/lang/Long$LongCache -/
def k9 : Class := { plain "java/lang/Long$LongCache" (some 0) with
  accessFlags := 48
  interfaces := #[]
  cf := some (fileOf pool9 16 #[.nestHost 7] #[{ accessFlags := 2, nameIndex := 5, descriptorIndex := 6, attributes := #[] }] 48 2 #[] #[{ accessFlags := 24, nameIndex := 38, descriptorIndex := 30, attributes := #[] }, { accessFlags := 8, nameIndex := 29, descriptorIndex := 30, attributes := #[] }, { accessFlags := 4120, nameIndex := 19, descriptorIndex := 20, attributes := #[] }])
  fields := #[{ name := "cache", type := (.array (.object "java/lang/Long")), accessFlags := 24, slot := 0, constantValue := 0 }, { name := "archivedCache", type := (.array (.object "java/lang/Long")), accessFlags := 8, slot := 1, constantValue := 0 }, { name := "$assertionsDisabled", type := .boolean, accessFlags := 4120, slot := 2, constantValue := 0 }]
  methods := #[k9m0]
  instanceTypes := #[]
  staticTypes := #[(.array (.object "java/lang/Long")), (.array (.object "java/lang/Long")), .boolean]
  resolved := Array.replicate 63 none
  statics := some 0 }

def pool10 : Array CpInfo := pool [(1, u "java/lang/Cloneable"), (0, .class_ 1), (0, u "java/lang/Object"), (0, .class_ 3)] 3

/-- java/lang/Cloneable -/
def k10 : Class := { plain "java/lang/Cloneable" (some 0) with
  accessFlags := 1537
  interfaces := #[]
  cf := some (fileOf pool10 2 #[] #[] 1537 4 #[] #[])
  fields := #[]
  methods := #[]
  instanceTypes := #[]
  staticTypes := #[]
  resolved := Array.replicate 8 none
  statics := none }

/-- the primitive byte -/
def k11 : Class := { plain "byte" none with kind := .primitive 'B', accessFlags := 0x411 }
/-- [B -/
def k12 : Class := { plain "[B" (some 0) with kind := .array 11 .byte, interfaces := #[10, 2], accessFlags := 1041 }

/-- the primitive int -/
def k13 : Class := { plain "int" none with kind := .primitive 'I', accessFlags := 0x411 }
/-- [I -/
def k14 : Class := { plain "[I" (some 0) with kind := .array 13 .int, interfaces := #[10, 2], accessFlags := 1041 }

/-- [Ljava/lang/Long; -/
def k15 : Class := { plain "[Ljava/lang/Long;" (some 0) with kind := .array 7 (.object "java/lang/Long"), interfaces := #[10, 2], accessFlags := 1041 }

def heap : Heap := #[{ cls := 9, slots := #[.ref 1, .null, .int 0], vm := .statics 9 },
  { cls := 15, slots := #[.ref 2, .ref 3, .ref 4, .ref 5, .ref 6, .ref 7, .ref 8, .ref 9, .ref 10, .ref 11, .ref 12, .ref 13, .ref 14, .ref 15, .ref 16, .ref 17, .ref 18, .ref 19, .ref 20, .ref 21, .ref 22, .ref 23, .ref 24, .ref 25, .ref 26, .ref 27, .ref 28, .ref 29, .ref 30, .ref 31, .ref 32, .ref 33, .ref 34, .ref 35, .ref 36, .ref 37, .ref 38, .ref 39, .ref 40, .ref 41, .ref 42, .ref 43, .ref 44, .ref 45, .ref 46, .ref 47, .ref 48, .ref 49, .ref 50, .ref 51, .ref 52, .ref 53, .ref 54, .ref 55, .ref 56, .ref 57, .ref 58, .ref 59, .ref 60, .ref 61, .ref 62, .ref 63, .ref 64, .ref 65, .ref 66, .ref 67, .ref 68, .ref 69, .ref 70, .ref 71, .ref 72, .ref 73, .ref 74, .ref 75, .ref 76, .ref 77, .ref 78, .ref 79, .ref 80, .ref 81, .ref 82, .ref 83, .ref 84, .ref 85, .ref 86, .ref 87, .ref 88, .ref 89, .ref 90, .ref 91, .ref 92, .ref 93, .ref 94, .ref 95, .ref 96, .ref 97, .ref 98, .ref 99, .ref 100, .ref 101, .ref 102, .ref 103, .ref 104, .ref 105, .ref 106, .ref 107, .ref 108, .ref 109, .ref 110, .ref 111, .ref 112, .ref 113, .ref 114, .ref 115, .ref 116, .ref 117, .ref 118, .ref 119, .ref 120, .ref 121, .ref 122, .ref 123, .ref 124, .ref 125, .ref 126, .ref 127, .ref 128, .ref 129, .ref 130, .ref 131, .ref 132, .ref 133, .ref 134, .ref 135, .ref 136, .ref 137, .ref 138, .ref 139, .ref 140, .ref 141, .ref 142, .ref 143, .ref 144, .ref 145, .ref 146, .ref 147, .ref 148, .ref 149, .ref 150, .ref 151, .ref 152, .ref 153, .ref 154, .ref 155, .ref 156, .ref 157, .ref 158, .ref 159, .ref 160, .ref 161, .ref 162, .ref 163, .ref 164, .ref 165, .ref 166, .ref 167, .ref 168, .ref 169, .ref 170, .ref 171, .ref 172, .ref 173, .ref 174, .ref 175, .ref 176, .ref 177, .ref 178, .ref 179, .ref 180, .ref 181, .ref 182, .ref 183, .ref 184, .ref 185, .ref 186, .ref 187, .ref 188, .ref 189, .ref 190, .ref 191, .ref 192, .ref 193, .ref 194, .ref 195, .ref 196, .ref 197, .ref 198, .ref 199, .ref 200, .ref 201, .ref 202, .ref 203, .ref 204, .ref 205, .ref 206, .ref 207, .ref 208, .ref 209, .ref 210, .ref 211, .ref 212, .ref 213, .ref 214, .ref 215, .ref 216, .ref 217, .ref 218, .ref 219, .ref 220, .ref 221, .ref 222, .ref 223, .ref 224, .ref 225, .ref 226, .ref 227, .ref 228, .ref 229, .ref 230, .ref 231, .ref 232, .ref 233, .ref 234, .ref 235, .ref 236, .ref 237, .ref 238, .ref 239, .ref 240, .ref 241, .ref 242, .ref 243, .ref 244, .ref 245, .ref 246, .ref 247, .ref 248, .ref 249, .ref 250, .ref 251, .ref 252, .ref 253, .ref 254, .ref 255, .ref 256, .ref 257], vm := .none },
  { cls := 7, slots := #[.long (-128)], vm := .none },
  { cls := 7, slots := #[.long (-127)], vm := .none },
  { cls := 7, slots := #[.long (-126)], vm := .none },
  { cls := 7, slots := #[.long (-125)], vm := .none },
  { cls := 7, slots := #[.long (-124)], vm := .none },
  { cls := 7, slots := #[.long (-123)], vm := .none },
  { cls := 7, slots := #[.long (-122)], vm := .none },
  { cls := 7, slots := #[.long (-121)], vm := .none },
  { cls := 7, slots := #[.long (-120)], vm := .none },
  { cls := 7, slots := #[.long (-119)], vm := .none },
  { cls := 7, slots := #[.long (-118)], vm := .none },
  { cls := 7, slots := #[.long (-117)], vm := .none },
  { cls := 7, slots := #[.long (-116)], vm := .none },
  { cls := 7, slots := #[.long (-115)], vm := .none },
  { cls := 7, slots := #[.long (-114)], vm := .none },
  { cls := 7, slots := #[.long (-113)], vm := .none },
  { cls := 7, slots := #[.long (-112)], vm := .none },
  { cls := 7, slots := #[.long (-111)], vm := .none },
  { cls := 7, slots := #[.long (-110)], vm := .none },
  { cls := 7, slots := #[.long (-109)], vm := .none },
  { cls := 7, slots := #[.long (-108)], vm := .none },
  { cls := 7, slots := #[.long (-107)], vm := .none },
  { cls := 7, slots := #[.long (-106)], vm := .none },
  { cls := 7, slots := #[.long (-105)], vm := .none },
  { cls := 7, slots := #[.long (-104)], vm := .none },
  { cls := 7, slots := #[.long (-103)], vm := .none },
  { cls := 7, slots := #[.long (-102)], vm := .none },
  { cls := 7, slots := #[.long (-101)], vm := .none },
  { cls := 7, slots := #[.long (-100)], vm := .none },
  { cls := 7, slots := #[.long (-99)], vm := .none },
  { cls := 7, slots := #[.long (-98)], vm := .none },
  { cls := 7, slots := #[.long (-97)], vm := .none },
  { cls := 7, slots := #[.long (-96)], vm := .none },
  { cls := 7, slots := #[.long (-95)], vm := .none },
  { cls := 7, slots := #[.long (-94)], vm := .none },
  { cls := 7, slots := #[.long (-93)], vm := .none },
  { cls := 7, slots := #[.long (-92)], vm := .none },
  { cls := 7, slots := #[.long (-91)], vm := .none },
  { cls := 7, slots := #[.long (-90)], vm := .none },
  { cls := 7, slots := #[.long (-89)], vm := .none },
  { cls := 7, slots := #[.long (-88)], vm := .none },
  { cls := 7, slots := #[.long (-87)], vm := .none },
  { cls := 7, slots := #[.long (-86)], vm := .none },
  { cls := 7, slots := #[.long (-85)], vm := .none },
  { cls := 7, slots := #[.long (-84)], vm := .none },
  { cls := 7, slots := #[.long (-83)], vm := .none },
  { cls := 7, slots := #[.long (-82)], vm := .none },
  { cls := 7, slots := #[.long (-81)], vm := .none },
  { cls := 7, slots := #[.long (-80)], vm := .none },
  { cls := 7, slots := #[.long (-79)], vm := .none },
  { cls := 7, slots := #[.long (-78)], vm := .none },
  { cls := 7, slots := #[.long (-77)], vm := .none },
  { cls := 7, slots := #[.long (-76)], vm := .none },
  { cls := 7, slots := #[.long (-75)], vm := .none },
  { cls := 7, slots := #[.long (-74)], vm := .none },
  { cls := 7, slots := #[.long (-73)], vm := .none },
  { cls := 7, slots := #[.long (-72)], vm := .none },
  { cls := 7, slots := #[.long (-71)], vm := .none },
  { cls := 7, slots := #[.long (-70)], vm := .none },
  { cls := 7, slots := #[.long (-69)], vm := .none },
  { cls := 7, slots := #[.long (-68)], vm := .none },
  { cls := 7, slots := #[.long (-67)], vm := .none },
  { cls := 7, slots := #[.long (-66)], vm := .none },
  { cls := 7, slots := #[.long (-65)], vm := .none },
  { cls := 7, slots := #[.long (-64)], vm := .none },
  { cls := 7, slots := #[.long (-63)], vm := .none },
  { cls := 7, slots := #[.long (-62)], vm := .none },
  { cls := 7, slots := #[.long (-61)], vm := .none },
  { cls := 7, slots := #[.long (-60)], vm := .none },
  { cls := 7, slots := #[.long (-59)], vm := .none },
  { cls := 7, slots := #[.long (-58)], vm := .none },
  { cls := 7, slots := #[.long (-57)], vm := .none },
  { cls := 7, slots := #[.long (-56)], vm := .none },
  { cls := 7, slots := #[.long (-55)], vm := .none },
  { cls := 7, slots := #[.long (-54)], vm := .none },
  { cls := 7, slots := #[.long (-53)], vm := .none },
  { cls := 7, slots := #[.long (-52)], vm := .none },
  { cls := 7, slots := #[.long (-51)], vm := .none },
  { cls := 7, slots := #[.long (-50)], vm := .none },
  { cls := 7, slots := #[.long (-49)], vm := .none },
  { cls := 7, slots := #[.long (-48)], vm := .none },
  { cls := 7, slots := #[.long (-47)], vm := .none },
  { cls := 7, slots := #[.long (-46)], vm := .none },
  { cls := 7, slots := #[.long (-45)], vm := .none },
  { cls := 7, slots := #[.long (-44)], vm := .none },
  { cls := 7, slots := #[.long (-43)], vm := .none },
  { cls := 7, slots := #[.long (-42)], vm := .none },
  { cls := 7, slots := #[.long (-41)], vm := .none },
  { cls := 7, slots := #[.long (-40)], vm := .none },
  { cls := 7, slots := #[.long (-39)], vm := .none },
  { cls := 7, slots := #[.long (-38)], vm := .none },
  { cls := 7, slots := #[.long (-37)], vm := .none },
  { cls := 7, slots := #[.long (-36)], vm := .none },
  { cls := 7, slots := #[.long (-35)], vm := .none },
  { cls := 7, slots := #[.long (-34)], vm := .none },
  { cls := 7, slots := #[.long (-33)], vm := .none },
  { cls := 7, slots := #[.long (-32)], vm := .none },
  { cls := 7, slots := #[.long (-31)], vm := .none },
  { cls := 7, slots := #[.long (-30)], vm := .none },
  { cls := 7, slots := #[.long (-29)], vm := .none },
  { cls := 7, slots := #[.long (-28)], vm := .none },
  { cls := 7, slots := #[.long (-27)], vm := .none },
  { cls := 7, slots := #[.long (-26)], vm := .none },
  { cls := 7, slots := #[.long (-25)], vm := .none },
  { cls := 7, slots := #[.long (-24)], vm := .none },
  { cls := 7, slots := #[.long (-23)], vm := .none },
  { cls := 7, slots := #[.long (-22)], vm := .none },
  { cls := 7, slots := #[.long (-21)], vm := .none },
  { cls := 7, slots := #[.long (-20)], vm := .none },
  { cls := 7, slots := #[.long (-19)], vm := .none },
  { cls := 7, slots := #[.long (-18)], vm := .none },
  { cls := 7, slots := #[.long (-17)], vm := .none },
  { cls := 7, slots := #[.long (-16)], vm := .none },
  { cls := 7, slots := #[.long (-15)], vm := .none },
  { cls := 7, slots := #[.long (-14)], vm := .none },
  { cls := 7, slots := #[.long (-13)], vm := .none },
  { cls := 7, slots := #[.long (-12)], vm := .none },
  { cls := 7, slots := #[.long (-11)], vm := .none },
  { cls := 7, slots := #[.long (-10)], vm := .none },
  { cls := 7, slots := #[.long (-9)], vm := .none },
  { cls := 7, slots := #[.long (-8)], vm := .none },
  { cls := 7, slots := #[.long (-7)], vm := .none },
  { cls := 7, slots := #[.long (-6)], vm := .none },
  { cls := 7, slots := #[.long (-5)], vm := .none },
  { cls := 7, slots := #[.long (-4)], vm := .none },
  { cls := 7, slots := #[.long (-3)], vm := .none },
  { cls := 7, slots := #[.long (-2)], vm := .none },
  { cls := 7, slots := #[.long (-1)], vm := .none },
  { cls := 7, slots := #[.long (0)], vm := .none },
  { cls := 7, slots := #[.long (1)], vm := .none },
  { cls := 7, slots := #[.long (2)], vm := .none },
  { cls := 7, slots := #[.long (3)], vm := .none },
  { cls := 7, slots := #[.long (4)], vm := .none },
  { cls := 7, slots := #[.long (5)], vm := .none },
  { cls := 7, slots := #[.long (6)], vm := .none },
  { cls := 7, slots := #[.long (7)], vm := .none },
  { cls := 7, slots := #[.long (8)], vm := .none },
  { cls := 7, slots := #[.long (9)], vm := .none },
  { cls := 7, slots := #[.long (10)], vm := .none },
  { cls := 7, slots := #[.long (11)], vm := .none },
  { cls := 7, slots := #[.long (12)], vm := .none },
  { cls := 7, slots := #[.long (13)], vm := .none },
  { cls := 7, slots := #[.long (14)], vm := .none },
  { cls := 7, slots := #[.long (15)], vm := .none },
  { cls := 7, slots := #[.long (16)], vm := .none },
  { cls := 7, slots := #[.long (17)], vm := .none },
  { cls := 7, slots := #[.long (18)], vm := .none },
  { cls := 7, slots := #[.long (19)], vm := .none },
  { cls := 7, slots := #[.long (20)], vm := .none },
  { cls := 7, slots := #[.long (21)], vm := .none },
  { cls := 7, slots := #[.long (22)], vm := .none },
  { cls := 7, slots := #[.long (23)], vm := .none },
  { cls := 7, slots := #[.long (24)], vm := .none },
  { cls := 7, slots := #[.long (25)], vm := .none },
  { cls := 7, slots := #[.long (26)], vm := .none },
  { cls := 7, slots := #[.long (27)], vm := .none },
  { cls := 7, slots := #[.long (28)], vm := .none },
  { cls := 7, slots := #[.long (29)], vm := .none },
  { cls := 7, slots := #[.long (30)], vm := .none },
  { cls := 7, slots := #[.long (31)], vm := .none },
  { cls := 7, slots := #[.long (32)], vm := .none },
  { cls := 7, slots := #[.long (33)], vm := .none },
  { cls := 7, slots := #[.long (34)], vm := .none },
  { cls := 7, slots := #[.long (35)], vm := .none },
  { cls := 7, slots := #[.long (36)], vm := .none },
  { cls := 7, slots := #[.long (37)], vm := .none },
  { cls := 7, slots := #[.long (38)], vm := .none },
  { cls := 7, slots := #[.long (39)], vm := .none },
  { cls := 7, slots := #[.long (40)], vm := .none },
  { cls := 7, slots := #[.long (41)], vm := .none },
  { cls := 7, slots := #[.long (42)], vm := .none },
  { cls := 7, slots := #[.long (43)], vm := .none },
  { cls := 7, slots := #[.long (44)], vm := .none },
  { cls := 7, slots := #[.long (45)], vm := .none },
  { cls := 7, slots := #[.long (46)], vm := .none },
  { cls := 7, slots := #[.long (47)], vm := .none },
  { cls := 7, slots := #[.long (48)], vm := .none },
  { cls := 7, slots := #[.long (49)], vm := .none },
  { cls := 7, slots := #[.long (50)], vm := .none },
  { cls := 7, slots := #[.long (51)], vm := .none },
  { cls := 7, slots := #[.long (52)], vm := .none },
  { cls := 7, slots := #[.long (53)], vm := .none },
  { cls := 7, slots := #[.long (54)], vm := .none },
  { cls := 7, slots := #[.long (55)], vm := .none },
  { cls := 7, slots := #[.long (56)], vm := .none },
  { cls := 7, slots := #[.long (57)], vm := .none },
  { cls := 7, slots := #[.long (58)], vm := .none },
  { cls := 7, slots := #[.long (59)], vm := .none },
  { cls := 7, slots := #[.long (60)], vm := .none },
  { cls := 7, slots := #[.long (61)], vm := .none },
  { cls := 7, slots := #[.long (62)], vm := .none },
  { cls := 7, slots := #[.long (63)], vm := .none },
  { cls := 7, slots := #[.long (64)], vm := .none },
  { cls := 7, slots := #[.long (65)], vm := .none },
  { cls := 7, slots := #[.long (66)], vm := .none },
  { cls := 7, slots := #[.long (67)], vm := .none },
  { cls := 7, slots := #[.long (68)], vm := .none },
  { cls := 7, slots := #[.long (69)], vm := .none },
  { cls := 7, slots := #[.long (70)], vm := .none },
  { cls := 7, slots := #[.long (71)], vm := .none },
  { cls := 7, slots := #[.long (72)], vm := .none },
  { cls := 7, slots := #[.long (73)], vm := .none },
  { cls := 7, slots := #[.long (74)], vm := .none },
  { cls := 7, slots := #[.long (75)], vm := .none },
  { cls := 7, slots := #[.long (76)], vm := .none },
  { cls := 7, slots := #[.long (77)], vm := .none },
  { cls := 7, slots := #[.long (78)], vm := .none },
  { cls := 7, slots := #[.long (79)], vm := .none },
  { cls := 7, slots := #[.long (80)], vm := .none },
  { cls := 7, slots := #[.long (81)], vm := .none },
  { cls := 7, slots := #[.long (82)], vm := .none },
  { cls := 7, slots := #[.long (83)], vm := .none },
  { cls := 7, slots := #[.long (84)], vm := .none },
  { cls := 7, slots := #[.long (85)], vm := .none },
  { cls := 7, slots := #[.long (86)], vm := .none },
  { cls := 7, slots := #[.long (87)], vm := .none },
  { cls := 7, slots := #[.long (88)], vm := .none },
  { cls := 7, slots := #[.long (89)], vm := .none },
  { cls := 7, slots := #[.long (90)], vm := .none },
  { cls := 7, slots := #[.long (91)], vm := .none },
  { cls := 7, slots := #[.long (92)], vm := .none },
  { cls := 7, slots := #[.long (93)], vm := .none },
  { cls := 7, slots := #[.long (94)], vm := .none },
  { cls := 7, slots := #[.long (95)], vm := .none },
  { cls := 7, slots := #[.long (96)], vm := .none },
  { cls := 7, slots := #[.long (97)], vm := .none },
  { cls := 7, slots := #[.long (98)], vm := .none },
  { cls := 7, slots := #[.long (99)], vm := .none },
  { cls := 7, slots := #[.long (100)], vm := .none },
  { cls := 7, slots := #[.long (101)], vm := .none },
  { cls := 7, slots := #[.long (102)], vm := .none },
  { cls := 7, slots := #[.long (103)], vm := .none },
  { cls := 7, slots := #[.long (104)], vm := .none },
  { cls := 7, slots := #[.long (105)], vm := .none },
  { cls := 7, slots := #[.long (106)], vm := .none },
  { cls := 7, slots := #[.long (107)], vm := .none },
  { cls := 7, slots := #[.long (108)], vm := .none },
  { cls := 7, slots := #[.long (109)], vm := .none },
  { cls := 7, slots := #[.long (110)], vm := .none },
  { cls := 7, slots := #[.long (111)], vm := .none },
  { cls := 7, slots := #[.long (112)], vm := .none },
  { cls := 7, slots := #[.long (113)], vm := .none },
  { cls := 7, slots := #[.long (114)], vm := .none },
  { cls := 7, slots := #[.long (115)], vm := .none },
  { cls := 7, slots := #[.long (116)], vm := .none },
  { cls := 7, slots := #[.long (117)], vm := .none },
  { cls := 7, slots := #[.long (118)], vm := .none },
  { cls := 7, slots := #[.long (119)], vm := .none },
  { cls := 7, slots := #[.long (120)], vm := .none },
  { cls := 7, slots := #[.long (121)], vm := .none },
  { cls := 7, slots := #[.long (122)], vm := .none },
  { cls := 7, slots := #[.long (123)], vm := .none },
  { cls := 7, slots := #[.long (124)], vm := .none },
  { cls := 7, slots := #[.long (125)], vm := .none },
  { cls := 7, slots := #[.long (126)], vm := .none },
  { cls := 7, slots := #[.long (127)], vm := .none }]
def classes : Array Class := #[k0, k1, k2, k3, k4, k5, k6, k7, k8, k9, k10, k11, k12, k13, k14, k15]
def interned : List (Array UInt16 × Addr) := []
def slotsUsed : Nat := 515
def theMethod : MethodId := ⟨1, 1⟩
def args0 : Array Value := #[.long 5, .int 5, .long 5]
def aboutOver (below : List Frame) : State where
  vm := { classes := classes, interned := interned.toArray }
  heap := heap
  slotsUsed := slotsUsed
  threads := #[{ frames := .invoking theMethod args0 :: below }]
def below0 : List Frame := [.native { method := ⟨0, 0⟩, args := #[] }]
def about1 : State := aboutOver below0
def p0 : Program := .bare "" "" ""
def e0 : Env := launch0.env 0 0 0
theorem w_frames : about1.frames = Frame.invoking theMethod args0 :: below0 := rfl
set_option maxRecDepth 65536 in
theorem w_args : argsFit about1.vm theMethod args0 = true := by decide +kernel
set_option maxRecDepth 65536 in
theorem w_heap : heapFits about1 = true := by decide +kernel
set_option maxRecDepth 65536 in
theorem w_runnable : about1.curStatus? = some .runnable := by decide +kernel
set_option maxRecDepth 65536 in
theorem w_alone : about1.alone = true := by decide +kernel
set_option maxRecDepth 65536 in
theorem w_named : about1.methodNamed? x = some theMethod := by decide +kernel
set_option maxRecDepth 65536 in
theorem w_hears : about1.hears theMethod below0 = true := by decide +kernel
set_option maxRecDepth 65536 in
theorem w_ripe : about1.ripe theMethod args0 below0 = true := by decide +kernel
theorem w_running : about1.status = .running := rfl
set_option maxRecDepth 65536 in
theorem w_room : about1.hasRoom e0.platform room_1 = true :=
  launch0.hasRoom_least _ room_1 (by decide +kernel) (by decide +kernel) (by decide +kernel) (by decide +kernel) (by decide +kernel) (by decide +kernel)
theorem allAtoms_all (ts : List Jvm.Cond) (a : Array Jvm.Value) (st : Jvm.State) : (allAtoms ts).before a st = ts.all (fun c => c.before a st) := by
  induction ts with
  | nil => rfl
  | cons c t ih =>
    show (Jvm.Cond.and c (allAtoms t)).before a st = _
    rw [Jvm.Cond.before_and, ih, List.all_cons]
def words1 : List Jvm.Cond := Jvm.Cond.code x code maxLocals ret :: tables_1
/-- a 'code' word, met by the world's own term for the bytes: nothing is compared byte by byte -/
theorem code_word {y : MethodName} {bytes : ByteArray} {mx : Nat} {rt : Option FieldType} {a : Array Value} {s : State} {m : MethodId} {meth : Method} {c : Code} (h1 : s.methodNamed? y = some m) (h2 : s.vm.method? m = some meth) (h3 : meth.code = some c) (h4 : c.code = bytes)
    (h5 : (c.maxLocals == mx && c.exceptionTable.isEmpty && decide (c.maxStack ≤ mostOperands) && decide (meth.sig.returnType = rt) && !meth.locks && decide (parseMethodDescriptor y.desc = some meth.sig)) = true) : (Jvm.Cond.code y bytes mx rt).before a s = true := by
  simp only [Bool.and_eq_true, beq_iff_eq, Bool.not_eq_true', decide_eq_true_eq] at h5
  obtain ⟨⟨⟨⟨⟨g1, g2⟩, g3⟩, g4⟩, g5⟩, g6⟩ := h5
  simp [Cond.before, Cond.holds, Cond.value, h1, h2, h3, h4, g1, g2, g3, g4, g5, g6]
def isCode : Jvm.Cond → Bool
  | .code _ _ _ _ => true
  | _ => false
theorem all_split {L : List Jvm.Cond} {P : Jvm.Cond → Bool} (h1 : L.all (fun c => isCode c || P c) = true) (h2 : ∀ c ∈ L.filter isCode, P c = true) : L.all P = true := by
  refine List.all_eq_true.mpr fun c hc => ?_
  have h := List.all_eq_true.mp h1 c hc
  rcases Bool.eq_false_or_eq_true (isCode c) with hi | hi
  · exact h2 c (List.mem_filter.mpr ⟨hc, hi⟩)
  · simpa [hi] using h
set_option maxRecDepth 65536 in
theorem w_c0 : (Jvm.Cond.code x code maxLocals ret).before args0 about1 = true := code_word (m := ⟨1, 1⟩) (meth := k1m1) (c := k1c1) (by decide +kernel) rfl rfl rfl (by decide +kernel)
set_option maxRecDepth 65536 in
theorem w_c1 : (Jvm.Cond.code ({ cls := "java/lang/Long", name := "valueOf", desc := "(J)Ljava/lang/Long;" } : Jvm.MethodName) jdk_35_method_24_code (3 : Nat) (Option.some (Jvm.ClassFile.FieldType.object "java/lang/Long"))).before args0 about1 = true := code_word (m := ⟨7, 0⟩) (meth := k7m0) (c := k7c0) (by decide +kernel) rfl rfl rfl (by decide +kernel)
set_option maxRecDepth 65536 in
theorem w_c2 : (Jvm.Cond.code ({ cls := "java/lang/Long", name := "<init>", desc := "(J)V" } : Jvm.MethodName) jdk_35_method_26_code (3 : Nat) (Option.none : Option Jvm.ClassFile.FieldType)).before args0 about1 = true := code_word (m := ⟨7, 1⟩) (meth := k7m1) (c := k7c1) (by decide +kernel) rfl rfl rfl (by decide +kernel)
set_option maxRecDepth 65536 in
theorem w_c3 : (Jvm.Cond.code ({ cls := "java/lang/Number", name := "<init>", desc := "()V" } : Jvm.MethodName) jdk_18_method_1_code (1 : Nat) (Option.none : Option Jvm.ClassFile.FieldType)).before args0 about1 = true := code_word (m := ⟨3, 0⟩) (meth := k3m0) (c := k3c0) (by decide +kernel) rfl rfl rfl (by decide +kernel)
set_option maxRecDepth 65536 in
theorem w_c4 : (Jvm.Cond.code ({ cls := "java/lang/Object", name := "<init>", desc := "()V" } : Jvm.MethodName) object_method_1_code (1 : Nat) (Option.none : Option Jvm.ClassFile.FieldType)).before args0 about1 = true := code_word (m := ⟨0, 0⟩) (meth := k0m0) (c := k0c0) (by decide +kernel) rfl rfl rfl (by decide +kernel)
set_option maxRecDepth 65536 in
theorem w_c5 : (Jvm.Cond.code ({ cls := "com/example/equipe/equipe/JobSpec", name := "<init>", desc := "(Ljava/util/List;Ljava/lang/String;Ljava/lang/Long;Ljava/lang/Long;Ljava/lang/Long;Ljava/lang/Long;)V" } : Jvm.MethodName) prog_7_method_1_code (7 : Nat) (Option.none : Option Jvm.ClassFile.FieldType)).before args0 about1 = true := code_word (m := ⟨8, 0⟩) (meth := k8m0) (c := k8c0) (by decide +kernel) rfl rfl rfl (by decide +kernel)
set_option maxRecDepth 65536 in
theorem w_c6 : (Jvm.Cond.code ({ cls := "java/lang/Long", name := "longValue", desc := "()J" } : Jvm.MethodName) jdk_35_method_31_code (1 : Nat) (Option.some Jvm.ClassFile.FieldType.long)).before args0 about1 = true := code_word (m := ⟨7, 2⟩) (meth := k7m2) (c := k7c2) (by decide +kernel) rfl rfl rfl (by decide +kernel)
set_option maxRecDepth 65536 in
theorem w_c7 : (Jvm.Cond.code ({ cls := "com/example/equipe/equipe/JobSpec", name := "isDelayed", desc := "()Z" } : Jvm.MethodName) prog_7_method_9_code (1 : Nat) (Option.some Jvm.ClassFile.FieldType.boolean)).before args0 about1 = true := code_word (m := ⟨8, 1⟩) (meth := k8m1) (c := k8c1) (by decide +kernel) rfl rfl rfl (by decide +kernel)
def codes1 : List Jvm.Cond := [Jvm.Cond.code x code maxLocals ret, Jvm.Cond.code ({ cls := "java/lang/Long", name := "valueOf", desc := "(J)Ljava/lang/Long;" } : Jvm.MethodName) jdk_35_method_24_code (3 : Nat) (Option.some (Jvm.ClassFile.FieldType.object "java/lang/Long")), Jvm.Cond.code ({ cls := "java/lang/Long", name := "<init>", desc := "(J)V" } : Jvm.MethodName) jdk_35_method_26_code (3 : Nat) (Option.none : Option Jvm.ClassFile.FieldType), Jvm.Cond.code ({ cls := "java/lang/Number", name := "<init>", desc := "()V" } : Jvm.MethodName) jdk_18_method_1_code (1 : Nat) (Option.none : Option Jvm.ClassFile.FieldType), Jvm.Cond.code ({ cls := "java/lang/Object", name := "<init>", desc := "()V" } : Jvm.MethodName) object_method_1_code (1 : Nat) (Option.none : Option Jvm.ClassFile.FieldType), Jvm.Cond.code ({ cls := "com/example/equipe/equipe/JobSpec", name := "<init>", desc := "(Ljava/util/List;Ljava/lang/String;Ljava/lang/Long;Ljava/lang/Long;Ljava/lang/Long;Ljava/lang/Long;)V" } : Jvm.MethodName) prog_7_method_1_code (7 : Nat) (Option.none : Option Jvm.ClassFile.FieldType), Jvm.Cond.code ({ cls := "java/lang/Long", name := "longValue", desc := "()J" } : Jvm.MethodName) jdk_35_method_31_code (1 : Nat) (Option.some Jvm.ClassFile.FieldType.long), Jvm.Cond.code ({ cls := "com/example/equipe/equipe/JobSpec", name := "isDelayed", desc := "()Z" } : Jvm.MethodName) prog_7_method_9_code (1 : Nat) (Option.some Jvm.ClassFile.FieldType.boolean)]
set_option maxRecDepth 65536 in
theorem codes_eq : words1.filter isCode = codes1 := rfl
theorem w_codes : ∀ c ∈ words1.filter isCode, c.before args0 about1 = true := by
  rw [codes_eq]
  intro c hc
  simp only [codes1, List.mem_cons, List.not_mem_nil, or_false] at hc
  rcases hc with rfl | rfl | rfl | rfl | rfl | rfl | rfl | rfl
  · exact w_c0
  · exact w_c1
  · exact w_c2
  · exact w_c3
  · exact w_c4
  · exact w_c5
  · exact w_c6
  · exact w_c7
set_option maxRecDepth 65536 in
theorem w_t1 : (words1.take 24).all (fun c => isCode c || c.before args0 about1) = true := by decide +kernel
set_option maxRecDepth 65536 in
theorem w_t2 : ((words1.drop 24).take 24).all (fun c => isCode c || c.before args0 about1) = true := by decide +kernel
set_option maxRecDepth 65536 in
theorem w_t3 : ((words1.drop 24).drop 24).all (fun c => isCode c || c.before args0 about1) = true := by decide +kernel
theorem w_tables : (allAtoms (Jvm.Cond.code x code maxLocals ret :: tables_1)).before args0 about1 = true := by
  rw [allAtoms_all]
  show words1.all (fun c => c.before args0 about1) = true
  refine all_split ?_ w_codes
  rw [← List.take_append_drop 24 words1, List.all_append, w_t1, ← List.take_append_drop 24 (words1.drop 24), List.all_append, w_t2, w_t3]
  rfl
set_option maxRecDepth 65536 in
theorem w_rest : rest_1_c.before args0 about1 = true := by decide +kernel
set_option maxRecDepth 65536 in
theorem w_case : (Jvm.Cond.and given_1 narrow_1).before args0 about1 = true := by decide +kernel
theorem w_applies : (headSpec (Jvm.Cond.code x code maxLocals ret :: tables_1) room_1).applies x e0.platform about1 = true :=
  (Spec.applies_iff w_frames).mpr ⟨w_running, w_runnable, w_alone, w_named, w_hears, w_ripe, w_room, w_tables⟩
theorem atStart : AtStart classFile x code maxLocals ret World_1 tables_1 room_1 Calls_1 rest_1 Pre_1 launch0 p0 e0 about1 theMethod args0 below0 :=
  ⟨lists_1, trivial, launch0.admits_env _ _ _, launch0.least_env, fairChoices_fair.cas, fairChoices_fair.clock, w_frames, w_args, w_heap, w_applies, trivial, w_rest, w_case⟩
end start1
theorem witness_1 : WitnessClaimed_1 := ⟨start1.p0, start1.e0, start1.about1, start1.theMethod, start1.args0, start1.below0, start1.atStart⟩
end Jvm.Pilot.@@N@@
