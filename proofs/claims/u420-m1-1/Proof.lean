import JvmDerived
import JvmDerived.Pilot.@@N@@Statement
import JvmDerived.Pilot.@@N@@Code
set_option linter.unusedVariables false
set_option linter.unusedSimpArgs false
namespace Jvm.Pilot.@@N@@
open Jvm Jvm.ClassFile Sem Op Lib Jvm.Free Jvm.Stand Jvm.LawKit Jvm.RoadKit Bundle Jvm.Pilot.@@N@@.Jvm.D
abbrev jv (x : Int64) : Slot := .val (.long x)
theorem ow {Z : State} {a0 : Array Value} (hw : ∀ d ∈ tables_1, d.before a0 Z = true) (i : Nat) {d : Jvm.Cond} (h : tables_1[i]? = some d) : d.before a0 Z = true := hw _ (List.mem_of_getElem? h)
section OwnKit
variable {p : Program} {l : Launch} {e : Env} {R : Room} {s : State} {m : MethodId} {args : Array Value} {below : List Frame} {meth : Method} {c : Code} {T T' : State} {locs : List Loc} {cells slots kc ks : Nat} {Q : Option Value → Heap → List Loc → Prop} {g g' : JFrame}
/-- from this state and frame on the body ends, and Q holds of what it returns, of the heap and of the places written -/
def OwnG (p : Program) (e : Env) (below : List Frame) (s : State) (kc ks : Nat) (Q : Option Value → Heap → List Loc → Prop) (T : State) (g : JFrame) : Prop :=
  ∃ s₂ o, Steps p.tables e below (T.setTop g) s₂ ∧ s₂.status = .running ∧ Ended s₂ below o ∧ ∃ v L, o = .returned v ∧ Q v s₂.heap L ∧ FrameEnd s o s₂ L kc ks
theorem own_by (k : ∀ t, Steps p.tables e below (T'.setTop g') t → Steps p.tables e below (T.setTop g) t) (h : OwnG p e below s kc ks Q T' g') : OwnG p e below s kc ks Q T g := by
  obtain ⟨s₂, o, st, r⟩ := h
  exact ⟨s₂, o, k _ st, r⟩
theorem own_out (X : Stand p l e R s m args below meth c T locs cells slots) (hlk : meth.locks = false) {v : Option Value} (hv : meth.sig.returnType = none → v = none)
    (hst : ∀ fs, (∀ (f : JFrame) (acts : List Action), f.method = m → f.locked = none → f.entered = [] → (doReturn e (T.setTop f) acts v).1 = T.setFrames fs) → Steps p.tables e below (T.setTop g) (T.setFrames fs))
    (hq : Q v T.heap locs) (hc : cells ≤ kc) (hs : slots ≤ ks) : OwnG p e below s kc ks Q T g := by
  obtain ⟨fs, hr, hrun, hended, hW, hsame⟩ := X.leave (v := v) hv hlk
  exact ⟨_, _, hst fs hr, hrun, hended, v, locs, rfl, hq, ⟨_, rfl⟩, hW, hsame.mono hc hs⟩
def OwnGW (p : Program) (e : Env) (below : List Frame) (s : State) (kc ks : Nat) (Q : Option Value → Heap → List Loc → Prop) (T : State) (g : JFrame) : Prop :=
  ∃ s₂ o, Steps p.tables e below (T.setTop g) s₂ ∧ s₂.status = .running ∧ Ended s₂ below o ∧ ∃ v L, o = .returned v ∧ Q v s₂.heap L ∧ ReturnedEndW s o s₂ L kc ks
theorem own_byW (k : ∀ t, Steps p.tables e below (T'.setTop g') t → Steps p.tables e below (T.setTop g) t) (h : OwnGW p e below s kc ks Q T' g') : OwnGW p e below s kc ks Q T g := by
  obtain ⟨s₂, o, st, r⟩ := h
  exact ⟨s₂, o, k _ st, r⟩
theorem own_outW {vm : Vm} {k : Nat} (X : Stand p l e R (s.setVm vm) m args below meth c T locs cells slots) (hS : s.Since vm k) (hk : k ≤ T.heap.size) (hlk : meth.locks = false) {v : Option Value} (hv : meth.sig.returnType = none → v = none)
    (hst : ∀ fs, (∀ (f : JFrame) (acts : List Action), f.method = m → f.locked = none → f.entered = [] → (doReturn e (T.setTop f) acts v).1 = T.setFrames fs) → Steps p.tables e below (T.setTop g) (T.setFrames fs))
    (hq : Q v T.heap locs) (hc : cells ≤ kc) (hs : slots ≤ ks) : OwnGW p e below s kc ks Q T g := by
  obtain ⟨fs, hr, hrun, hended, h1, h2, h3, h4⟩ := X.leaveW hS hk (v := v) hv hlk
  exact ⟨_, _, hst fs hr, hrun, hended, v, locs, rfl, hq, h1, h2, h3, h4.mono hc hs⟩
def OwnGH (p : Program) (e : Env) (below : List Frame) (s Z : State) (EL : List (String × Nat)) (kc ks : Nat) (Q : Option Value → Heap → List Loc → Prop) (T : State) (g : JFrame) : Prop :=
  ∃ s₂ o, Steps p.tables e below (T.setTop g) s₂ ∧ s₂.status = .running ∧ Ended s₂ below o ∧ ∃ v L, o = .returned v ∧ Q v s₂.heap L ∧ CHr Z EL s.vm s.heap s₂.vm s₂.heap ∧ ReturnedEndW s o s₂ L kc ks
theorem own_byH {Z : State} {EL : List (String × Nat)} (k : ∀ t, Steps p.tables e below (T'.setTop g') t → Steps p.tables e below (T.setTop g) t) (h : OwnGH p e below s Z EL kc ks Q T' g') : OwnGH p e below s Z EL kc ks Q T g := by
  obtain ⟨s₂, o, st, r⟩ := h
  exact ⟨s₂, o, k _ st, r⟩
theorem own_outH {Z : State} {a0 : Array Value} {EL : List (String × Nat)} {h0 : Heap} {vm : Vm} {k : Nat} (X : Stand p l e R (s.setVm vm) m args below meth c T locs cells slots) (hh : s.heap = h0) (hEL : EW Z a0 EL) (hS : s.Since vm k) (hk : k ≤ T.heap.size) (HR : CHr Z EL s.vm h0 vm T.heap) (hZ : Z.Warmed39 vm) (hlk : meth.locks = false) {v : Option Value} (hv : meth.sig.returnType = none → v = none)
    (hst : ∀ fs, (∀ (f : JFrame) (acts : List Action), f.method = m → f.locked = none → f.entered = [] → (doReturn e (T.setTop f) acts v).1 = T.setFrames fs) → Steps p.tables e below (T.setTop g) (T.setFrames fs))
    (hq : Q v T.heap locs) (hc : cells ≤ kc) (hs : slots ≤ ks) : OwnGH p e below s Z EL kc ks Q T g := by
  obtain ⟨fs, hr, hrun, hended, h1, h2, h3, h4⟩ := X.leaveW hS hk (v := v) hv hlk
  have C := HR.trans (CHv.at X hZ hEL HR.1)
  exact ⟨_, _, hst fs hr, hrun, hended, v, locs, rfl, hq, (by rw [hh]; exact C), h1, h2, h3, h4.mono hc hs⟩
theorem own_lt (x y : Int64) : lcmpW x y < 0 ↔ x < y := by rw [lcW]; exact lc_lt x y
theorem own_gt (x y : Int64) : 0 < lcmpW x y ↔ y < x := by rw [lcW]; exact lc_gt x y
theorem own_eq (x y : Int64) : lcmpW x y = 0 ↔ x = y := by rw [lcW]; exact lc_eq x y
theorem own_fldI {Z : State} {a : Addr} {t : Jvm.Term} {C n d : String} {k : Int32} (ev : t.eval args Z none [] Z = some (.ref a)) (h : (Jvm.Cond.eq (Jvm.Term.field t C n d) (Jvm.Term.int k)).value args Z none Z [] = some true) : Fld Z Z.heap a C n d (.int k) := by
  obtain ⟨x, y, h1, h2, h3, h4⟩ := cmp_v (Or.inl h)
  cases (Term.int_eval k).symm.trans h2
  obtain ⟨z, rfl⟩ := h4
  rw [fld_at ev] at h1
  have h5 : (Jvm.Cond.eq (Jvm.Term.field t C n d) (Jvm.Term.int k)).value args Z none Z [] = some (decide (z = k)) := by simp [Jvm.Cond.value, fld_at ev, h1, Term.int_eval]
  cases gotT h5 h
  exact Fld.start h1
theorem own_fldJ {Z : State} {a : Addr} {t : Jvm.Term} {C n d : String} {k : Int64} (ev : t.eval args Z none [] Z = some (.ref a)) (h : (Jvm.Cond.eq (Jvm.Term.field t C n d) (Jvm.Term.long k)).value args Z none Z [] = some true) : Fld Z Z.heap a C n d (.long k) := by
  obtain ⟨x, y, h1, h2, h3, h4⟩ := cmp_v (Or.inl h)
  cases (long_at k).symm.trans h2
  obtain ⟨z, rfl⟩ := h4
  have h5 := gotT (eq_L h1 (long_at k)) h
  rw [fld_at ev] at h1
  cases h5
  exact Fld.start h1
theorem own_fldN {Z : State} {a : Addr} {t : Jvm.Term} {C n d : String} (ev : t.eval args Z none [] Z = some (.ref a)) (h : (Jvm.Cond.eq (Jvm.Term.field t C n d) Jvm.Term.null).value args Z none Z [] = some true) : Fld Z Z.heap a C n d .null := by
  have h1 := null_v h
  rw [fld_at ev] at h1
  exact Fld.start h1
theorem own_e0 {P : Prop} [Decidable P] (h : (if P then (1 : Int32) else (0 : Int32)) = 0) : ¬ P := fun q => by rw [if_pos q] at h; exact absurd h (by decide)
theorem own_e1 {P : Prop} [Decidable P] (h : ¬ (if P then (1 : Int32) else (0 : Int32)) = 0) : P := by
  by_cases q : P
  · exact q
  · exact absurd (if_neg q) h
theorem own_n2 {P Q : Prop} [Decidable P] [Decidable Q] {A : Int32} (h : ¬ (P ∧ Q)) : (if P then (if Q then A else (0 : Int32)) else (0 : Int32)) = 0 := by
  by_cases p : P
  · rw [if_pos p, if_neg (fun q => h ⟨p, q⟩)]
  · rw [if_neg p]
theorem own_narR {v : Value} {C : String} (h : v.isRef = true) : narrow (.object C) v = v := by rcases ref_cases h with rfl | ⟨_, rfl⟩ <;> rfl
theorem own_fitR {v : Value} {C : String} (h : v.isRef = true) : fits (.object C) v = true := by rcases ref_cases h with rfl | ⟨_, rfl⟩ <;> rfl
theorem own_len {Z : State} {t : Jvm.Term} {a : Addr} {cl : Cell} {ty : FieldType} {k : Int32} (et : t.eval args Z none [] Z = some (.ref a)) (A : Arr Z Z.heap a cl ty) (h : (Jvm.Term.length t).eval args Z none [] Z = some (.int k)) : cl.slots.size < 2 ^ 31 ∧ cl.slots.size.toInt32 = k := by
  have hA := A.fin (Vm.Alike.refl Z.vm)
  by_cases q : cl.slots.size < 2 ^ 31
  · rw [len_f et hA q] at h; exact ⟨q, by simpa using h⟩
  · simp [Jvm.Term.eval, et, hA] at h; exact absurd h.1 q
theorem own_mvM {Z : State} {a0 : Array Value} {own host : String} {index : Nat} {y : MethodName} (hZ : Z.Warmed39 s.vm) (w : (Jvm.Cond.methodLinkNest own index y host).before a0 Z = true) : (Jvm.Cond.methodLinkNest own index y host).before args s = true := (Cond.methodLinkNest_wide hZ w :)
end OwnKit
theorem d1_0 : decode jdk_29_method_70_code 0 = .ok (.lload_n 0, 1) := by decide +kernel
theorem d1_1 : decode jdk_29_method_70_code 1 = .ok (.lload_n 2, 1) := by decide +kernel
theorem d1_2 : decode jdk_29_method_70_code 2 = .ok (.lcmp, 1) := by decide +kernel
theorem d1_3 : decode jdk_29_method_70_code 3 = .ok (.ifCond .gt 7, 3) := by decide +kernel
theorem d1_6 : decode jdk_29_method_70_code 6 = .ok (.lload_n 0, 1) := by decide +kernel
theorem d1_7 : decode jdk_29_method_70_code 7 = .ok (.goto 4, 3) := by decide +kernel
theorem d1_10 : decode jdk_29_method_70_code 10 = .ok (.lload_n 2, 1) := by decide +kernel
theorem d1_11 : decode jdk_29_method_70_code 11 = .ok (.lreturn, 1) := by decide +kernel
theorem d2_0 : decode jdk_29_method_66_code 0 = .ok (.lload_n 0, 1) := by decide +kernel
theorem d2_1 : decode jdk_29_method_66_code 1 = .ok (.lload_n 2, 1) := by decide +kernel
theorem d2_2 : decode jdk_29_method_66_code 2 = .ok (.lcmp, 1) := by decide +kernel
theorem d2_3 : decode jdk_29_method_66_code 3 = .ok (.ifCond .lt 7, 3) := by decide +kernel
theorem d2_6 : decode jdk_29_method_66_code 6 = .ok (.lload_n 0, 1) := by decide +kernel
theorem d2_7 : decode jdk_29_method_66_code 7 = .ok (.goto 4, 3) := by decide +kernel
theorem d2_10 : decode jdk_29_method_66_code 10 = .ok (.lload_n 2, 1) := by decide +kernel
theorem d2_11 : decode jdk_29_method_66_code 11 = .ok (.lreturn, 1) := by decide +kernel
theorem d3_0 : decode prog_9_method_1_code 0 = .ok (.aload_n 0, 1) := by decide +kernel
theorem d3_1 : decode prog_9_method_1_code 1 = .ok (.invokespecial 1, 3) := by decide +kernel
theorem d3_4 : decode prog_9_method_1_code 4 = .ok (.aload_n 1, 1) := by decide +kernel
theorem d3_5 : decode prog_9_method_1_code 5 = .ok (.ldc 7, 2) := by decide +kernel
theorem d3_7 : decode prog_9_method_1_code 7 = .ok (.invokestatic 9, 3) := by decide +kernel
theorem d3_10 : decode prog_9_method_1_code 10 = .ok (.pop, 1) := by decide +kernel
theorem d3_11 : decode prog_9_method_1_code 11 = .ok (.aload_n 2, 1) := by decide +kernel
theorem d3_12 : decode prog_9_method_1_code 12 = .ok (.ldc 15, 2) := by decide +kernel
theorem d3_14 : decode prog_9_method_1_code 14 = .ok (.invokestatic 9, 3) := by decide +kernel
theorem d3_17 : decode prog_9_method_1_code 17 = .ok (.pop, 1) := by decide +kernel
theorem d3_18 : decode prog_9_method_1_code 18 = .ok (.aload_n 1, 1) := by decide +kernel
theorem d3_19 : decode prog_9_method_1_code 19 = .ok (.invokevirtual 17, 3) := by decide +kernel
theorem d3_22 : decode prog_9_method_1_code 22 = .ok (.ifCond .eq 13, 3) := by decide +kernel
theorem d3_35 : decode prog_9_method_1_code 35 = .ok (.lload_n 3, 1) := by decide +kernel
theorem d3_36 : decode prog_9_method_1_code 36 = .ok (.lload 5, 2) := by decide +kernel
theorem d3_38 : decode prog_9_method_1_code 38 = .ok (.lcmp, 1) := by decide +kernel
theorem d3_39 : decode prog_9_method_1_code 39 = .ok (.ifCond .le 39, 3) := by decide +kernel
theorem d3_78 : decode prog_9_method_1_code 78 = .ok (.aload_n 0, 1) := by decide +kernel
theorem d3_79 : decode prog_9_method_1_code 79 = .ok (.aload_n 1, 1) := by decide +kernel
theorem d3_80 : decode prog_9_method_1_code 80 = .ok (.putfield 42, 3) := by decide +kernel
theorem d3_83 : decode prog_9_method_1_code 83 = .ok (.aload_n 0, 1) := by decide +kernel
theorem d3_84 : decode prog_9_method_1_code 84 = .ok (.aload_n 2, 1) := by decide +kernel
theorem d3_85 : decode prog_9_method_1_code 85 = .ok (.putfield 47, 3) := by decide +kernel
theorem d3_88 : decode prog_9_method_1_code 88 = .ok (.aload_n 0, 1) := by decide +kernel
theorem d3_89 : decode prog_9_method_1_code 89 = .ok (.lload_n 3, 1) := by decide +kernel
theorem d3_90 : decode prog_9_method_1_code 90 = .ok (.putfield 50, 3) := by decide +kernel
theorem d3_93 : decode prog_9_method_1_code 93 = .ok (.aload_n 0, 1) := by decide +kernel
theorem d3_94 : decode prog_9_method_1_code 94 = .ok (.lload 5, 2) := by decide +kernel
theorem d3_96 : decode prog_9_method_1_code 96 = .ok (.putfield 54, 3) := by decide +kernel
theorem d3_99 : decode prog_9_method_1_code 99 = .ok (.return_, 1) := by decide +kernel
theorem d5_0 : decode jdk_31_method_11_code 0 = .ok (.aload_n 0, 1) := by decide +kernel
theorem d5_1 : decode jdk_31_method_11_code 1 = .ok (.ifnonnull 12, 3) := by decide +kernel
theorem d5_13 : decode jdk_31_method_11_code 13 = .ok (.aload_n 0, 1) := by decide +kernel
theorem d5_14 : decode jdk_31_method_11_code 14 = .ok (.areturn, 1) := by decide +kernel
theorem d6_0 : decode jdk_42_method_55_code 0 = .ok (.aload_n 0, 1) := by decide +kernel
theorem d6_1 : decode jdk_42_method_55_code 1 = .ok (.getfield 9, 3) := by decide +kernel
theorem d6_4 : decode jdk_42_method_55_code 4 = .ok (.arraylength, 1) := by decide +kernel
theorem d6_5 : decode jdk_42_method_55_code 5 = .ok (.ifCond .ne 7, 3) := by decide +kernel
theorem d6_12 : decode jdk_42_method_55_code 12 = .ok (.iconst 0, 1) := by decide +kernel
theorem d6_13 : decode jdk_42_method_55_code 13 = .ok (.ireturn, 1) := by decide +kernel
theorem d7_0 : decode prog_9_method_7_code 0 = .ok (.aload_n 0, 1) := by decide +kernel
theorem d7_1 : decode prog_9_method_7_code 1 = .ok (.getfield 50, 3) := by decide +kernel
theorem d7_4 : decode prog_9_method_7_code 4 = .ok (.lload_n 1, 1) := by decide +kernel
theorem d7_5 : decode prog_9_method_7_code 5 = .ok (.lcmp, 1) := by decide +kernel
theorem d7_6 : decode prog_9_method_7_code 6 = .ok (.ifCond .gt 16, 3) := by decide +kernel
theorem d7_9 : decode prog_9_method_7_code 9 = .ok (.lload_n 1, 1) := by decide +kernel
theorem d7_10 : decode prog_9_method_7_code 10 = .ok (.aload_n 0, 1) := by decide +kernel
theorem d7_11 : decode prog_9_method_7_code 11 = .ok (.getfield 54, 3) := by decide +kernel
theorem d7_14 : decode prog_9_method_7_code 14 = .ok (.lcmp, 1) := by decide +kernel
theorem d7_15 : decode prog_9_method_7_code 15 = .ok (.ifCond .gt 7, 3) := by decide +kernel
theorem d7_18 : decode prog_9_method_7_code 18 = .ok (.iconst 1, 1) := by decide +kernel
theorem d7_19 : decode prog_9_method_7_code 19 = .ok (.goto 4, 3) := by decide +kernel
theorem d7_22 : decode prog_9_method_7_code 22 = .ok (.iconst 0, 1) := by decide +kernel
theorem d7_23 : decode prog_9_method_7_code 23 = .ok (.ireturn, 1) := by decide +kernel
theorem pn_0 : plainName "java/util/Objects" = true := by first | (simp [plainName, overriddenIn]; done) | decide +kernel
theorem pn_1 : plainName "java/lang/String" = true := by first | (simp [plainName, overriddenIn]; done) | decide +kernel
theorem pn_2 : plainName "com/example/rhadamanthus/rhadamanthus/order/Field" = true := by first | (simp [plainName, overriddenIn]; done) | decide +kernel
theorem pn_3 : plainName "com/example/rhadamanthus/rhadamanthus/order/FieldContainsPinLaw" = true := by first | (simp [plainName, overriddenIn]; done) | decide +kernel
theorem pd_0 : parseMethodDescriptor "(Ljava/lang/Object;Ljava/lang/String;)Ljava/lang/Object;" = some ⟨[(.object "java/lang/Object"), (.object "java/lang/String")], some (.object "java/lang/Object")⟩ := by decide +kernel
theorem pd_1 : parseMethodDescriptor "()Z" = some ⟨[], some .boolean⟩ := by decide +kernel
theorem pd_2 : parseMethodDescriptor "(JJ)J" = some ⟨[.long, .long], some .long⟩ := by decide +kernel
theorem pd_3 : parseMethodDescriptor "(Ljava/lang/String;Lcom/example/rhadamanthus/rhadamanthus/order/Direction;JJ)V" = some ⟨[(.object "java/lang/String"), (.object "com/example/rhadamanthus/rhadamanthus/order/Direction"), .long, .long], none⟩ := by decide +kernel
theorem pd_4 : parseMethodDescriptor "(J)Z" = some ⟨[.long], some .boolean⟩ := by decide +kernel
theorem ef_rm1 (m : MethodId) (x0 : Int64) (x1 : Int64) : entryFrame m #[(.long x0), (.long x1)] 4 = mkF m 0 #[.val (.long x0), .second, .val (.long x1), .second] [] := by first | (simp [entryFrame, mkF, argsToLocals, Value.category]; done) | rfl
theorem ef_rm2 (m : MethodId) (x0 : Int64) (x1 : Int64) : entryFrame m #[(.long x0), (.long x1)] 4 = mkF m 0 #[.val (.long x0), .second, .val (.long x1), .second] [] := by first | (simp [entryFrame, mkF, argsToLocals, Value.category]; done) | rfl
theorem ef_rm5 (m : MethodId) (x0 : Addr) (x1 : Addr) : entryFrame m #[(.ref x0), (.ref x1)] 2 = mkF m 0 #[.val (.ref x0), .val (.ref x1)] [] := by first | (simp [entryFrame, mkF, argsToLocals, Value.category]; done) | rfl
theorem ef_rm6 (m : MethodId) (x0 : Addr) : entryFrame m #[(.ref x0)] 1 = mkF m 0 #[.val (.ref x0)] [] := by first | (simp [entryFrame, mkF, argsToLocals, Value.category]; done) | rfl
theorem ef_rm3 (m : MethodId) (x0 : Addr) (x1 : Addr) (x2 : Addr) (x3 : Int64) (x4 : Int64) : entryFrame m #[(.ref x0), (.ref x1), (.ref x2), (.long x3), (.long x4)] 7 = mkF m 0 #[.val (.ref x0), .val (.ref x1), .val (.ref x2), .val (.long x3), .second, .val (.long x4), .second] [] := by first | (simp [entryFrame, mkF, argsToLocals, Value.category]; done) | rfl
theorem ef_rm7 (m : MethodId) (x0 : Addr) (x1 : Int64) : entryFrame m #[(.ref x0), (.long x1)] 3 = mkF m 0 #[.val (.ref x0), .val (.long x1), .second] [] := by first | (simp [entryFrame, mkF, argsToLocals, Value.category]; done) | rfl
theorem ef_rm0 (m : MethodId) (x0 : Int64) (x1 : Int64) (x2 : Int64) (x3 : Int32) : entryFrame m #[(.long x0), (.long x1), (.long x2), (.int x3)] maxLocals = mkF m 0 #[.val (.long x0), .second, .val (.long x1), .second, .val (.long x2), .second, .val (.int x3), .unset, .unset, .unset, .unset, .unset, .unset, .unset, .unset] [] := by first | (simp [entryFrame, mkF, argsToLocals, Value.category, maxLocals]; done) | rfl
theorem own_wS {Z : State} {a0 : Array Value} (hw : ∀ d ∈ tables_1, d.before a0 Z = true) : ∀ a ∈ Bundle.stringAtoms, a.before a0 Z = true := by
  intro a ha
  simp only [Bundle.stringAtoms, List.mem_cons, List.not_mem_nil, or_false] at ha
  rcases ha with rfl | rfl | rfl | rfl | rfl | rfl | rfl
  · exact (ow hw 14 rfl)
  · exact (ow hw 15 rfl)
  · exact (ow hw 16 rfl)
  · exact (ow hw 17 rfl)
  · exact (ow hw 18 rfl)
  · exact (ow hw 19 rfl)
  · exact (ow hw 20 rfl)
def own_min (x y : Int64) : Int64 := if y < x then y else x
def own_max (x y : Int64) : Int64 := if x < y then y else x
def own_in (lo hi q : Int64) : Int32 := if q < lo then 0 else if hi < q then 0 else 1
theorem own_mm (x y : Int64) : ¬ own_max x y < own_min x y := by
  unfold own_max own_min
  simp only [Int64.lt_iff_toInt_lt]
  split <;> split <;> omega
theorem own_in1 {lo hi q : Int64} (h1 : ¬ q < lo) (h2 : ¬ hi < q) : own_in lo hi q = 1 := by simp [own_in, h1, h2]
theorem own_irrL (x : Int64) : ¬ x < x := by rw [Int64.lt_iff_toInt_lt]; omega
theorem own_pred {lo hi : Int64} (h : ¬ lo = (-9223372036854775808 : Int64)) : own_in lo hi (lo - (1 : Int64)) = 0 := by
  have h1 : lo - 1 < lo := by
    rw [Int64.lt_iff_toInt_lt, Int64.toInt_sub]
    have a1 : (1 : Int64).toInt = 1 := rfl
    have a2 : ((-9223372036854775808 : Int64)).toInt = -9223372036854775808 := rfl
    have a3 := Int64.le_toInt lo
    have a4 := Int64.toInt_lt lo
    have a5 : lo.toInt ≠ -9223372036854775808 := fun e => h (Int64.toInt_inj.mp (by rw [e, a2]))
    rw [a1, Int.bmod_eq_of_le (by omega) (by omega)]
    omega
  simp [own_in, h1]
theorem own_next {lo hi : Int64} (h : ¬ hi = (9223372036854775807 : Int64)) : own_in lo hi (hi + (1 : Int64)) = 0 := by
  have h1 : hi < hi + 1 := by
    rw [Int64.lt_iff_toInt_lt, Int64.toInt_add]
    have a1 : (1 : Int64).toInt = 1 := rfl
    have a2 : ((9223372036854775807 : Int64)).toInt = 9223372036854775807 := rfl
    have a3 := Int64.le_toInt hi
    have a4 := Int64.toInt_lt hi
    have a5 : hi.toInt ≠ 9223372036854775807 := fun e => h (Int64.toInt_inj.mp (by rw [e, a2]))
    rw [a1, Int.bmod_eq_of_le (by omega) (by omega)]
    omega
  unfold own_in
  split
  · rfl
  · simp [h1]
theorem own_cl1 {lo hi v : Int64} (h0 : ¬ hi < lo) (h : own_max lo (own_min v hi) = v) : own_in lo hi v = 1 := by
  apply own_in1
  · rw [← h]; unfold own_max own_min; simp only [Int64.lt_iff_toInt_lt] at h0 ⊢; split <;> split <;> omega
  · rw [← h]; unfold own_max own_min; simp only [Int64.lt_iff_toInt_lt] at h0 ⊢; split <;> split <;> omega
theorem own_cl0 {lo hi v : Int64} (h : ¬ own_max lo (own_min v hi) = v) : own_in lo hi v = 0 := by
  unfold own_in
  split
  · rfl
  · split
    · rfl
    · rename_i h1 h2
      exfalso; apply h
      unfold own_max own_min
      simp only [h2, if_false]
      split
      · rename_i h3
        first
          | rfl
          | (have h4 : ¬ v < lo := h1
             rw [Int64.lt_iff_toInt_lt] at h4
             apply Int64.toInt_inj.mp
             omega)
      · rename_i h3
        rw [Int64.lt_iff_toInt_lt] at h1 h3
        apply Int64.toInt_inj.mp
        omega
def Q_rm1 (Z : State) (q1 q2 : Int64) (h0 : Heap) (n0 : Nat) : Option Value → Heap → List Loc → Prop := fun v h L => v = some (.long (own_min q1 q2)) ∧ L = [] ∧ h = h0
set_option maxRecDepth 65536 in
set_option maxHeartbeats 40000000 in
theorem rm1 (l : Launch) (Z : State) (a0 : Array Value) (hw : ∀ d ∈ tables_1, d.before a0 Z = true) (ws : List Jvm.Cond) (q1 q2 : Int64) (h0 : Heap) (n0 : Nat) (O : Old Z n0 h0) :
    MetFree l (⟨"java/lang/Math", "min", "(JJ)J"⟩ : MethodName) (head1 (Jvm.Cond.code (⟨"java/lang/Math", "min", "(JJ)J"⟩ : MethodName) jdk_29_method_70_code 4 (some .long) :: ws) ({ frames := 0, cells := 0, slots := 0, locals := 0 } : Room)) (fun a U => a = #[(.long q1), (.long q2)] ∧ Z.Warmed39 U.vm ∧ U.heap = h0) (fun _ _ _ _ _ => True) (fun _ U o U' => ∃ v L, o = .returned v ∧ (Q_rm1 Z q1 q2 h0 n0) v U'.heap L ∧ FrameEnd U o U' L ({ frames := 0, cells := 0, slots := 0, locals := 0 } : Room).cells ({ frames := 0, cells := 0, slots := 0, locals := 0 } : Room).slots) := by
  refine MetFree.of_bodySF (Jvm.Free.JP.mathPlain rfl (by decide +kernel)) hisR ?_
  intro p e s m args below meth c s₁ Bd hml0 hP hK
  obtain ⟨rfl, hZ, hh⟩ := hP
  have hx := Bd.exec
  have hby := Bd.bytes
  have hml : c.maxLocals = 4 := hml0
  have hown : s.vm.findClass "java/lang/Math" = some m.cls := findClass_of_methodNamed Bd.named
  have hnm := (name_of_methodNamed Bd.named Bd.method).1
  have hlk := BodyLoose.notSynchronized Bd
  have X0 : Stand p l e ({ frames := 0, cells := 0, slots := 0, locals := 0 } : Room) s m #[(.long q1), (.long q2)] below meth c s₁ [] 0 0 := Stand.of_body Bd
  have e0 : s₁.heap = h0 := by rw [← hh, Bd.state]; rfl
  have N := Fr.nil n0
  obtain ⟨G, hG⟩ : ∃ G : State → JFrame → Prop, G = OwnG p e below s ({ frames := 0, cells := 0, slots := 0, locals := 0 } : Room).cells ({ frames := 0, cells := 0, slots := 0, locals := 0 } : Room).slots (Q_rm1 Z q1 q2 h0 n0) := ⟨_, rfl⟩
  have gb : ∀ {T T' : State} {g g' : JFrame}, (∀ t, Steps p.tables e below (T'.setTop g') t → Steps p.tables e below (T.setTop g) t) → G T' g' → G T g := by subst hG; exact fun k h => own_by k h
  have go : ∀ {T : State} {locs : List Loc} {cells slots : Nat} {g : JFrame} {v : Option Value}, Stand p l e ({ frames := 0, cells := 0, slots := 0, locals := 0 } : Room) s m #[(.long q1), (.long q2)] below meth c T locs cells slots → (meth.sig.returnType = none → v = none) → (∀ fs, (∀ (f : JFrame) (acts : List Action), f.method = m → f.locked = none → f.entered = [] → (doReturn e (T.setTop f) acts v).1 = T.setFrames fs) → Steps p.tables e below (T.setTop g) (T.setFrames fs)) → (Q_rm1 Z q1 q2 h0 n0) v T.heap locs → cells ≤ ({ frames := 0, cells := 0, slots := 0, locals := 0 } : Room).cells → slots ≤ ({ frames := 0, cells := 0, slots := 0, locals := 0 } : Room).slots → G T g := by subst hG; exact fun X h1 h2 h3 h4 h5 => own_out X hlk h1 h2 h3 h4 h5
  show OwnG p e below s ({ frames := 0, cells := 0, slots := 0, locals := 0 } : Room).cells ({ frames := 0, cells := 0, slots := 0, locals := 0 } : Room).slots (Q_rm1 Z q1 q2 h0 n0) s₁ (entryFrame m #[(.long q1), (.long q2)] 4)
  rw [← hG, ef_rm1 m q1 q2]
  clear hG
  show G s₁ (mkF m 0 #[.val (.long q1), .second, .val (.long q2), .second] [])
  refine gb (fun _ k => XS.lloadN X0.here hx rfl (hb hby d1_0) rfl (XS.lloadN X0.here hx rfl (hb hby d1_1) rfl (XS.lcmp X0.here hx rfl (hb hby d1_2) rfl k))) ?_
  show G s₁ (mkF m 3 #[jv q1, .second, jv q2, .second] [.int (lcmpW q1 q2)])
  by_cases hc3 : q2 < q1
  · skip
    refine gb (fun _ k => XS.ifYes X0.here hx rfl (pc0 := 3) (pc' := 10) rfl (hb hby d1_3) rfl ((if0 _ _).trans (tlt ((own_gt _ _).mpr hc3)).2.2.1) (by decide) (by decide) (XS.lloadN X0.here hx rfl (hb hby d1_10) rfl k)) ?_
    show G s₁ (mkF m 11 #[jv q1, .second, jv q2, .second] [.long q2])
    exact go X0 (v := (some (.long q2))) (fun h => by rw [Bd.returns] at h; cases h) (fun fs hr => retOut X0 hx Bd.returns rfl (Or.inr (Or.inl ⟨rfl, rfl, _, rfl⟩)) (hb hby d1_11) hr) (⟨by simp [own_min, hc3], rfl, e0⟩) (by decide) (by decide)
  · skip
    refine gb (fun _ k => XS.ifNo X0.here hx rfl (hb hby d1_3) rfl ((if0 _ _).trans (flt (fun q => hc3 ((own_gt _ _).mp q))).2.2.1) (XS.lloadN X0.here hx rfl (hb hby d1_6) rfl (XS.goto X0.here hx rfl (pc0 := 7) (pc' := 11) rfl (hb hby d1_7) (by decide) (by decide) k))) ?_
    show G s₁ (mkF m 11 #[jv q1, .second, jv q2, .second] [.long q1])
    exact go X0 (v := (some (.long q1))) (fun h => by rw [Bd.returns] at h; cases h) (fun fs hr => retOut X0 hx Bd.returns rfl (Or.inr (Or.inl ⟨rfl, rfl, _, rfl⟩)) (hb hby d1_11) hr) (⟨by simp [own_min, hc3], rfl, e0⟩) (by decide) (by decide)
def Q_rm2 (Z : State) (q1 q2 : Int64) (h0 : Heap) (n0 : Nat) : Option Value → Heap → List Loc → Prop := fun v h L => v = some (.long (own_max q1 q2)) ∧ L = [] ∧ h = h0
set_option maxRecDepth 65536 in
set_option maxHeartbeats 40000000 in
theorem rm2 (l : Launch) (Z : State) (a0 : Array Value) (hw : ∀ d ∈ tables_1, d.before a0 Z = true) (ws : List Jvm.Cond) (q1 q2 : Int64) (h0 : Heap) (n0 : Nat) (O : Old Z n0 h0) :
    MetFree l (⟨"java/lang/Math", "max", "(JJ)J"⟩ : MethodName) (head1 (Jvm.Cond.code (⟨"java/lang/Math", "max", "(JJ)J"⟩ : MethodName) jdk_29_method_66_code 4 (some .long) :: ws) ({ frames := 0, cells := 0, slots := 0, locals := 0 } : Room)) (fun a U => a = #[(.long q1), (.long q2)] ∧ Z.Warmed39 U.vm ∧ U.heap = h0) (fun _ _ _ _ _ => True) (fun _ U o U' => ∃ v L, o = .returned v ∧ (Q_rm2 Z q1 q2 h0 n0) v U'.heap L ∧ FrameEnd U o U' L ({ frames := 0, cells := 0, slots := 0, locals := 0 } : Room).cells ({ frames := 0, cells := 0, slots := 0, locals := 0 } : Room).slots) := by
  refine MetFree.of_bodySF (Jvm.Free.JP.mathPlain rfl (by decide +kernel)) hisR ?_
  intro p e s m args below meth c s₁ Bd hml0 hP hK
  obtain ⟨rfl, hZ, hh⟩ := hP
  have hx := Bd.exec
  have hby := Bd.bytes
  have hml : c.maxLocals = 4 := hml0
  have hown : s.vm.findClass "java/lang/Math" = some m.cls := findClass_of_methodNamed Bd.named
  have hnm := (name_of_methodNamed Bd.named Bd.method).1
  have hlk := BodyLoose.notSynchronized Bd
  have X0 : Stand p l e ({ frames := 0, cells := 0, slots := 0, locals := 0 } : Room) s m #[(.long q1), (.long q2)] below meth c s₁ [] 0 0 := Stand.of_body Bd
  have e0 : s₁.heap = h0 := by rw [← hh, Bd.state]; rfl
  have N := Fr.nil n0
  obtain ⟨G, hG⟩ : ∃ G : State → JFrame → Prop, G = OwnG p e below s ({ frames := 0, cells := 0, slots := 0, locals := 0 } : Room).cells ({ frames := 0, cells := 0, slots := 0, locals := 0 } : Room).slots (Q_rm2 Z q1 q2 h0 n0) := ⟨_, rfl⟩
  have gb : ∀ {T T' : State} {g g' : JFrame}, (∀ t, Steps p.tables e below (T'.setTop g') t → Steps p.tables e below (T.setTop g) t) → G T' g' → G T g := by subst hG; exact fun k h => own_by k h
  have go : ∀ {T : State} {locs : List Loc} {cells slots : Nat} {g : JFrame} {v : Option Value}, Stand p l e ({ frames := 0, cells := 0, slots := 0, locals := 0 } : Room) s m #[(.long q1), (.long q2)] below meth c T locs cells slots → (meth.sig.returnType = none → v = none) → (∀ fs, (∀ (f : JFrame) (acts : List Action), f.method = m → f.locked = none → f.entered = [] → (doReturn e (T.setTop f) acts v).1 = T.setFrames fs) → Steps p.tables e below (T.setTop g) (T.setFrames fs)) → (Q_rm2 Z q1 q2 h0 n0) v T.heap locs → cells ≤ ({ frames := 0, cells := 0, slots := 0, locals := 0 } : Room).cells → slots ≤ ({ frames := 0, cells := 0, slots := 0, locals := 0 } : Room).slots → G T g := by subst hG; exact fun X h1 h2 h3 h4 h5 => own_out X hlk h1 h2 h3 h4 h5
  show OwnG p e below s ({ frames := 0, cells := 0, slots := 0, locals := 0 } : Room).cells ({ frames := 0, cells := 0, slots := 0, locals := 0 } : Room).slots (Q_rm2 Z q1 q2 h0 n0) s₁ (entryFrame m #[(.long q1), (.long q2)] 4)
  rw [← hG, ef_rm2 m q1 q2]
  clear hG
  show G s₁ (mkF m 0 #[.val (.long q1), .second, .val (.long q2), .second] [])
  refine gb (fun _ k => XS.lloadN X0.here hx rfl (hb hby d2_0) rfl (XS.lloadN X0.here hx rfl (hb hby d2_1) rfl (XS.lcmp X0.here hx rfl (hb hby d2_2) rfl k))) ?_
  show G s₁ (mkF m 3 #[jv q1, .second, jv q2, .second] [.int (lcmpW q1 q2)])
  by_cases hc3 : q1 < q2
  · skip
    refine gb (fun _ k => XS.ifYes X0.here hx rfl (pc0 := 3) (pc' := 10) rfl (hb hby d2_3) rfl ((if0 _ _).trans (tlt ((own_lt _ _).mpr hc3)).1) (by decide) (by decide) (XS.lloadN X0.here hx rfl (hb hby d2_10) rfl k)) ?_
    show G s₁ (mkF m 11 #[jv q1, .second, jv q2, .second] [.long q2])
    exact go X0 (v := (some (.long q2))) (fun h => by rw [Bd.returns] at h; cases h) (fun fs hr => retOut X0 hx Bd.returns rfl (Or.inr (Or.inl ⟨rfl, rfl, _, rfl⟩)) (hb hby d2_11) hr) (⟨by simp [own_max, hc3], rfl, e0⟩) (by decide) (by decide)
  · skip
    refine gb (fun _ k => XS.ifNo X0.here hx rfl (hb hby d2_3) rfl ((if0 _ _).trans (flt (fun q => hc3 ((own_lt _ _).mp q))).1) (XS.lloadN X0.here hx rfl (hb hby d2_6) rfl (XS.goto X0.here hx rfl (pc0 := 7) (pc' := 11) rfl (hb hby d2_7) (by decide) (by decide) k))) ?_
    show G s₁ (mkF m 11 #[jv q1, .second, jv q2, .second] [.long q1])
    exact go X0 (v := (some (.long q1))) (fun h => by rw [Bd.returns] at h; cases h) (fun fs hr => retOut X0 hx Bd.returns rfl (Or.inr (Or.inl ⟨rfl, rfl, _, rfl⟩)) (hb hby d2_11) hr) (⟨by simp [own_max, hc3], rfl, e0⟩) (by decide) (by decide)
def Q_rm5 (Z : State) (a1 a2 : Addr) (h0 : Heap) (n0 : Nat) : Option Value → Heap → List Loc → Prop := fun v h L => v = some (.ref a1) ∧ L = [] ∧ h = h0
set_option maxRecDepth 65536 in
set_option maxHeartbeats 40000000 in
theorem rm5 (l : Launch) (Z : State) (a0 : Array Value) (hw : ∀ d ∈ tables_1, d.before a0 Z = true) (ws : List Jvm.Cond) (a1 a2 : Addr) (h0 : Heap) (n0 : Nat) (O : Old Z n0 h0) :
    MetFree l (⟨"java/util/Objects", "requireNonNull", "(Ljava/lang/Object;Ljava/lang/String;)Ljava/lang/Object;"⟩ : MethodName) (head1 (Jvm.Cond.code (⟨"java/util/Objects", "requireNonNull", "(Ljava/lang/Object;Ljava/lang/String;)Ljava/lang/Object;"⟩ : MethodName) jdk_31_method_11_code 2 (some (.object "java/lang/Object")) :: ws) ({ frames := 0, cells := 0, slots := 0, locals := 0 } : Room)) (fun a U => a = #[(.ref a1), (.ref a2)] ∧ Z.Warmed39 U.vm ∧ U.heap = h0) (fun _ _ _ _ _ => True) (fun _ U o U' => ∃ v L, o = .returned v ∧ (Q_rm5 Z a1 a2 h0 n0) v U'.heap L ∧ FrameEnd U o U' L ({ frames := 0, cells := 0, slots := 0, locals := 0 } : Room).cells ({ frames := 0, cells := 0, slots := 0, locals := 0 } : Room).slots) := by
  refine MetFree.of_bodySF (plainFor_of_name pn_0) hisR ?_
  intro p e s m args below meth c s₁ Bd hml0 hP hK
  obtain ⟨rfl, hZ, hh⟩ := hP
  have hx := Bd.exec
  have hby := Bd.bytes
  have hml : c.maxLocals = 2 := hml0
  have hown : s.vm.findClass "java/util/Objects" = some m.cls := findClass_of_methodNamed Bd.named
  have hnm := (name_of_methodNamed Bd.named Bd.method).1
  have hlk := BodyLoose.notSynchronized Bd
  have X0 : Stand p l e ({ frames := 0, cells := 0, slots := 0, locals := 0 } : Room) s m #[(.ref a1), (.ref a2)] below meth c s₁ [] 0 0 := Stand.of_body Bd
  have e0 : s₁.heap = h0 := by rw [← hh, Bd.state]; rfl
  have N := Fr.nil n0
  obtain ⟨G, hG⟩ : ∃ G : State → JFrame → Prop, G = OwnG p e below s ({ frames := 0, cells := 0, slots := 0, locals := 0 } : Room).cells ({ frames := 0, cells := 0, slots := 0, locals := 0 } : Room).slots (Q_rm5 Z a1 a2 h0 n0) := ⟨_, rfl⟩
  have gb : ∀ {T T' : State} {g g' : JFrame}, (∀ t, Steps p.tables e below (T'.setTop g') t → Steps p.tables e below (T.setTop g) t) → G T' g' → G T g := by subst hG; exact fun k h => own_by k h
  have go : ∀ {T : State} {locs : List Loc} {cells slots : Nat} {g : JFrame} {v : Option Value}, Stand p l e ({ frames := 0, cells := 0, slots := 0, locals := 0 } : Room) s m #[(.ref a1), (.ref a2)] below meth c T locs cells slots → (meth.sig.returnType = none → v = none) → (∀ fs, (∀ (f : JFrame) (acts : List Action), f.method = m → f.locked = none → f.entered = [] → (doReturn e (T.setTop f) acts v).1 = T.setFrames fs) → Steps p.tables e below (T.setTop g) (T.setFrames fs)) → (Q_rm5 Z a1 a2 h0 n0) v T.heap locs → cells ≤ ({ frames := 0, cells := 0, slots := 0, locals := 0 } : Room).cells → slots ≤ ({ frames := 0, cells := 0, slots := 0, locals := 0 } : Room).slots → G T g := by subst hG; exact fun X h1 h2 h3 h4 h5 => own_out X hlk h1 h2 h3 h4 h5
  show OwnG p e below s ({ frames := 0, cells := 0, slots := 0, locals := 0 } : Room).cells ({ frames := 0, cells := 0, slots := 0, locals := 0 } : Room).slots (Q_rm5 Z a1 a2 h0 n0) s₁ (entryFrame m #[(.ref a1), (.ref a2)] 2)
  rw [← hG, ef_rm5 m a1 a2]
  clear hG
  show G s₁ (mkF m 0 #[.val (.ref a1), .val (.ref a2)] [])
  refine gb (fun _ k => XS.aloadN X0.here hx rfl (hb hby d5_0) rfl rfl (XS.ifnonnullYes X0.here hx rfl (pc0 := 1) (pc' := 13) rfl (hb hby d5_1) rfl (by decide) (by decide) (XS.aloadN X0.here hx rfl (hb hby d5_13) rfl rfl k))) ?_
  show G s₁ (mkF m 14 #[rv a1, rv a2] [.ref a1])
  exact go X0 (v := (some (.ref a1))) (fun h => by rw [Bd.returns] at h; cases h) (fun fs hr => retOut X0 hx Bd.returns rfl (Or.inr (Or.inr (Or.inr (Or.inr ⟨rfl, rfl, rfl⟩)))) (hb hby d5_14) hr) (⟨rfl, rfl, e0⟩) (by decide) (by decide)
def Q_rm6 (Z : State) (a2 a4 : Addr) (k4 : ClassId) (z4 : Int32) (vs4 : List Value) (h0 : Heap) (n0 : Nat) : Option Value → Heap → List Loc → Prop := fun v h L => v = some (.int (0 : Int32)) ∧ L = [] ∧ h = h0
set_option maxRecDepth 65536 in
set_option maxHeartbeats 40000000 in
theorem rm6 (l : Launch) (Z : State) (a0 : Array Value) (hw : ∀ d ∈ tables_1, d.before a0 Z = true) (ws : List Jvm.Cond) (a2 a4 : Addr) (k4 : ClassId) (z4 : Int32) (vs4 : List Value) (h0 : Heap) (n0 : Nat) (O : Old Z n0 h0) (E_a2 : Exa Z h0 a2 "java/lang/String") (F_value_a2 : Fld Z h0 a2 "java/lang/String" "value" "[B" (.ref a4)) (V_a4 : Arv Z h0 a4 k4 .byte z4 vs4 (.int (0 : Int32))) (hz : ¬ z4 = (0 : Int32)) :
    MetFree l (⟨"java/lang/String", "isEmpty", "()Z"⟩ : MethodName) (head1 (Jvm.Cond.code (⟨"java/lang/String", "isEmpty", "()Z"⟩ : MethodName) jdk_42_method_55_code 1 (some .boolean) :: ws) ({ frames := 0, cells := 0, slots := 0, locals := 0 } : Room)) (fun a U => a = #[(.ref a2)] ∧ Z.Warmed39 U.vm ∧ U.heap = h0) (fun _ _ _ _ _ => True) (fun _ U o U' => ∃ v L, o = .returned v ∧ (Q_rm6 Z a2 a4 k4 z4 vs4 h0 n0) v U'.heap L ∧ FrameEnd U o U' L ({ frames := 0, cells := 0, slots := 0, locals := 0 } : Room).cells ({ frames := 0, cells := 0, slots := 0, locals := 0 } : Room).slots) := by
  refine MetFree.of_bodySF (plainFor_of_name pn_1) hisR ?_
  intro p e s m args below meth c s₁ Bd hml0 hP hK
  obtain ⟨rfl, hZ, hh⟩ := hP
  have hx := Bd.exec
  have hby := Bd.bytes
  have hml : c.maxLocals = 1 := hml0
  have hown : s.vm.findClass "java/lang/String" = some m.cls := findClass_of_methodNamed Bd.named
  have hnm := (name_of_methodNamed Bd.named Bd.method).1
  have hlk := BodyLoose.notSynchronized Bd
  have X0 : Stand p l e ({ frames := 0, cells := 0, slots := 0, locals := 0 } : Room) s m #[(.ref a2)] below meth c s₁ [] 0 0 := Stand.of_body Bd
  have e0 : s₁.heap = h0 := by rw [← hh, Bd.state]; rfl
  have N := Fr.nil n0
  obtain ⟨G, hG⟩ : ∃ G : State → JFrame → Prop, G = OwnG p e below s ({ frames := 0, cells := 0, slots := 0, locals := 0 } : Room).cells ({ frames := 0, cells := 0, slots := 0, locals := 0 } : Room).slots (Q_rm6 Z a2 a4 k4 z4 vs4 h0 n0) := ⟨_, rfl⟩
  have gb : ∀ {T T' : State} {g g' : JFrame}, (∀ t, Steps p.tables e below (T'.setTop g') t → Steps p.tables e below (T.setTop g) t) → G T' g' → G T g := by subst hG; exact fun k h => own_by k h
  have go : ∀ {T : State} {locs : List Loc} {cells slots : Nat} {g : JFrame} {v : Option Value}, Stand p l e ({ frames := 0, cells := 0, slots := 0, locals := 0 } : Room) s m #[(.ref a2)] below meth c T locs cells slots → (meth.sig.returnType = none → v = none) → (∀ fs, (∀ (f : JFrame) (acts : List Action), f.method = m → f.locked = none → f.entered = [] → (doReturn e (T.setTop f) acts v).1 = T.setFrames fs) → Steps p.tables e below (T.setTop g) (T.setFrames fs)) → (Q_rm6 Z a2 a4 k4 z4 vs4 h0 n0) v T.heap locs → cells ≤ ({ frames := 0, cells := 0, slots := 0, locals := 0 } : Room).cells → slots ≤ ({ frames := 0, cells := 0, slots := 0, locals := 0 } : Room).slots → G T g := by subst hG; exact fun X h1 h2 h3 h4 h5 => own_out X hlk h1 h2 h3 h4 h5
  show OwnG p e below s ({ frames := 0, cells := 0, slots := 0, locals := 0 } : Room).cells ({ frames := 0, cells := 0, slots := 0, locals := 0 } : Room).slots (Q_rm6 Z a2 a4 k4 z4 vs4 h0 n0) s₁ (entryFrame m #[(.ref a2)] 1)
  rw [← hG, ef_rm6 m a2]
  clear hG
  show G s₁ (mkF m 0 #[.val (.ref a2)] [])
  refine gb (fun _ k => XS.aloadN X0.here hx rfl (hb hby d6_0) rfl rfl k) ?_
  show G s₁ (mkF m 1 #[rv a2] [.ref a2])
  obtain ⟨T1, X1, e1, st1⟩ := getF X0 hx hZ hown (host := "") (Or.inl (ow hw 38 rfl)) Via.refl e0 F_value_a2 (g := (mkF m 1 #[rv a2] [.ref a2])) rfl rfl (hb hby d6_1)
  refine gb st1 ?_
  show G T1 (mkF m 4 #[rv a2] [.ref a4])
  have V'2 := V_a4
  obtain ⟨cl2, Ar2, qk2, sz2, nn2, hs2, ft2⟩ := V'2
  refine gb (X1.arraylength hx (by rw [e1]; exact Ar2.1) (State.isArrayOf_alike hZ.alike Ar2.2.1) (g := (mkF m 4 #[rv a2] [.ref a4])) rfl rfl (hb hby d6_4)) ?_
  rw [len_of sz2 nn2]
  show G T1 (mkF m 5 #[rv a2] [.int z4])
  refine gb (fun _ k => XS.ifYes X1.here hx rfl (pc0 := 5) (pc' := 12) rfl (hb hby d6_5) rfl ((if0 _ _).trans (feq hz).2) (by decide) (by decide) (XS.iconst X1.here hx rfl (hb hby d6_12) k)) ?_
  show G T1 (mkF m 13 #[rv a2] [.int 0])
  exact go X1 (v := (some (.int (0 : Int32)))) (fun h => by rw [Bd.returns] at h; cases h) (fun fs hr => retOut X1 hx Bd.returns rfl (Or.inl ⟨rfl, by simp, _, rfl⟩) (hb hby d6_13) hr) (⟨rfl, rfl, e1⟩) (by decide) (by decide)
def Q_rm3 (Z : State) (a1 a2 a3 a4 : Addr) (k4 : ClassId) (z4 : Int32) (vs4 : List Value) (q1 q2 : Int64) (h0 : Heap) (n0 : Nat) : Option Value → Heap → List Loc → Prop := fun v h L => v = none ∧ Fr n0 L ∧ Keep h0 h [a1] ∧ Exa Z h a1 "com/example/rhadamanthus/rhadamanthus/order/Field" ∧ Fld Z h a1 "com/example/rhadamanthus/rhadamanthus/order/Field" "min" "J" (.long q1) ∧ Fld Z h a1 "com/example/rhadamanthus/rhadamanthus/order/Field" "max" "J" (.long q2)
set_option maxRecDepth 65536 in
set_option maxHeartbeats 40000000 in
theorem rm3 (l : Launch) (Z : State) (a0 : Array Value) (hw : ∀ d ∈ tables_1, d.before a0 Z = true) (ws : List Jvm.Cond) (a1 a2 a3 a4 : Addr) (k4 : ClassId) (z4 : Int32) (vs4 : List Value) (q1 q2 : Int64) (h0 : Heap) (n0 : Nat) (O : Old Z n0 h0) (E_a1 : Exa Z h0 a1 "com/example/rhadamanthus/rhadamanthus/order/Field") (F_name : Fld Z h0 a1 "com/example/rhadamanthus/rhadamanthus/order/Field" "name" "Ljava/lang/String;" .null) (F_direction : Fld Z h0 a1 "com/example/rhadamanthus/rhadamanthus/order/Field" "direction" "Lcom/example/rhadamanthus/rhadamanthus/order/Direction;" .null) (F_min : Fld Z h0 a1 "com/example/rhadamanthus/rhadamanthus/order/Field" "min" "J" (.long (0 : Int64))) (F_max : Fld Z h0 a1 "com/example/rhadamanthus/rhadamanthus/order/Field" "max" "J" (.long (0 : Int64))) (g_a1 : n0 ≤ a1) (E_a2 : Exa Z h0 a2 "java/lang/String") (F_value_a2 : Fld Z h0 a2 "java/lang/String" "value" "[B" (.ref a4)) (V_a4 : Arv Z h0 a4 k4 .byte z4 vs4 (.int (0 : Int32))) (hz : ¬ z4 = (0 : Int32)) (ne_a2_a1 : a2 ≠ a1) (ne_a4_a1 : a4 ≠ a1) (h1 : ¬ (q2 < q1)) :
    MetFree l (⟨"com/example/rhadamanthus/rhadamanthus/order/Field", "<init>", "(Ljava/lang/String;Lcom/example/rhadamanthus/rhadamanthus/order/Direction;JJ)V"⟩ : MethodName) (head1 (Jvm.Cond.code (⟨"com/example/rhadamanthus/rhadamanthus/order/Field", "<init>", "(Ljava/lang/String;Lcom/example/rhadamanthus/rhadamanthus/order/Direction;JJ)V"⟩ : MethodName) prog_9_method_1_code 7 none :: ws) ({ frames := 1, cells := 4, slots := 60, locals := 13 } : Room)) (fun a U => a = #[(.ref a1), (.ref a2), (.ref a3), (.long q1), (.long q2)] ∧ Z.Warmed39 U.vm ∧ U.heap = h0) (fun _ _ _ _ _ => True) (fun _ U o U' => ∃ v L, o = .returned v ∧ (Q_rm3 Z a1 a2 a3 a4 k4 z4 vs4 q1 q2 h0 n0) v U'.heap L ∧ ReturnedEndW U o U' L ({ frames := 1, cells := 4, slots := 60, locals := 13 } : Room).cells ({ frames := 1, cells := 4, slots := 60, locals := 13 } : Room).slots) := by
  refine MetFree.of_bodySF (plainFor_of_name pn_2) hisR ?_
  intro p e s m args below meth c s₁ Bd hml0 hP hK
  obtain ⟨rfl, hZ, hh⟩ := hP
  have hx := Bd.exec
  have hby := Bd.bytes
  have hml : c.maxLocals = 7 := hml0
  have hown : s.vm.findClass "com/example/rhadamanthus/rhadamanthus/order/Field" = some m.cls := findClass_of_methodNamed Bd.named
  have hnm := (name_of_methodNamed Bd.named Bd.method).1
  have hlk := BodyLoose.notSynchronized Bd
  have X0 : Stand p l e ({ frames := 1, cells := 4, slots := 60, locals := 13 } : Room) (s.setVm s.vm) m #[(.ref a1), (.ref a2), (.ref a3), (.long q1), (.long q2)] below meth c s₁ [] 0 0 := Stand.of_body Bd
  have e0 : s₁.heap = h0 := by rw [← hh, Bd.state]; rfl
  have N := Fr.nil n0
  have hS : s.Since s.vm h0.size := (State.WarmedH.refl s).since _
  have hk := Nat.le_refl h0.size
  have K := Keep.refl h0 [a1]
  obtain ⟨G, hG⟩ : ∃ G : State → JFrame → Prop, G = OwnGW p e below s ({ frames := 1, cells := 4, slots := 60, locals := 13 } : Room).cells ({ frames := 1, cells := 4, slots := 60, locals := 13 } : Room).slots (Q_rm3 Z a1 a2 a3 a4 k4 z4 vs4 q1 q2 h0 n0) := ⟨_, rfl⟩
  have gb : ∀ {T T' : State} {g g' : JFrame}, (∀ t, Steps p.tables e below (T'.setTop g') t → Steps p.tables e below (T.setTop g) t) → G T' g' → G T g := by subst hG; exact fun k h => own_byW k h
  have go : ∀ {T : State} {locs : List Loc} {cells slots : Nat} {g : JFrame} {v : Option Value} {vm : Vm} {k : Nat}, Stand p l e ({ frames := 1, cells := 4, slots := 60, locals := 13 } : Room) (s.setVm vm) m #[(.ref a1), (.ref a2), (.ref a3), (.long q1), (.long q2)] below meth c T locs cells slots → s.Since vm k → k ≤ T.heap.size → (meth.sig.returnType = none → v = none) → (∀ fs, (∀ (f : JFrame) (acts : List Action), f.method = m → f.locked = none → f.entered = [] → (doReturn e (T.setTop f) acts v).1 = T.setFrames fs) → Steps p.tables e below (T.setTop g) (T.setFrames fs)) → (Q_rm3 Z a1 a2 a3 a4 k4 z4 vs4 q1 q2 h0 n0) v T.heap locs → cells ≤ ({ frames := 1, cells := 4, slots := 60, locals := 13 } : Room).cells → slots ≤ ({ frames := 1, cells := 4, slots := 60, locals := 13 } : Room).slots → G T g := by subst hG; exact fun X a b h1 h2 h3 h4 h5 => own_outW X a b hlk h1 h2 h3 h4 h5
  show OwnGW p e below s ({ frames := 1, cells := 4, slots := 60, locals := 13 } : Room).cells ({ frames := 1, cells := 4, slots := 60, locals := 13 } : Room).slots (Q_rm3 Z a1 a2 a3 a4 k4 z4 vs4 q1 q2 h0 n0) s₁ (entryFrame m #[(.ref a1), (.ref a2), (.ref a3), (.long q1), (.long q2)] 7)
  rw [← hG, ef_rm3 m a1 a2 a3 q1 q2]
  clear hG
  show G s₁ (mkF m 0 #[.val (.ref a1), .val (.ref a2), .val (.ref a3), .val (.long q1), .second, .val (.long q2), .second] [])
  refine gb (fun _ k => XS.aloadN X0.here hx rfl (hb hby d3_0) rfl rfl k) ?_
  show G s₁ (mkF m 1 #[rv a1, rv a2, rv a3, jv q1, .second, jv q2, .second] [.ref a1])
  obtain ⟨T1, X1, e1, st1⟩ := initO X0 hx hZ hown (ow hw 24 rfl) (ow hw 25 rfl) (ow hw 26 rfl) e0 (g := (mkF m 1 #[rv a1, rv a2, rv a3, jv q1, .second, jv q2, .second] [.ref a1])) rfl (by rw [hml]; rfl) rfl (hb hby d3_1) (by decide) (W := 0) (by show 2 * 0 + _ ≤ _; exact Nat.le_of_eq rfl) (by decide)
  refine gb st1 ?_
  show G T1 (mkF m 4 #[rv a1, rv a2, rv a3, jv q1, .second, jv q2, .second] [])
  refine gb (fun _ k => XS.aloadN X1.here hx rfl (hb hby d3_4) rfl rfl k) ?_
  show G T1 (mkF m 5 #[rv a1, rv a2, rv a3, jv q1, .second, jv q2, .second] [.ref a2])
  obtain ⟨b2, T2, h2, kn2, X2, e2, E2, hS, hk2, hZ, hown, st2⟩ := ldcS X1 hx hZ hown (ow hw 27 rfl) (own_wS hw) e1 hS hk (g := (mkF m 5 #[rv a1, rv a2, rv a3, jv q1, .second, jv q2, .second] [.ref a2])) rfl (hb hby d3_5) (n := 16) (by decide) (by decide) (by decide) (by decide)
  have E_a1 := E_a1.ext E2
  have F_name := F_name.ext E2
  have F_direction := F_direction.ext E2
  have F_min := F_min.ext E2
  have F_max := F_max.ext E2
  have E_a2 := E_a2.ext E2
  have F_value_a2 := F_value_a2.ext E2
  have V_a4 := V_a4.ext E2
  have O := O.ext E2
  have hk := Nat.le_trans hk E2.1
  have K := K.ext E2
  have hk := hk2
  refine gb st2 ?_
  show G T2 (mkF m 7 #[rv a1, rv a2, rv a3, jv q1, .second, jv q2, .second] [.ref b2, .ref a2])
  obtain ⟨_, _, ⟨T3, Lz3, kz3, nz3⟩, -, X3, ⟨Lc3, hQ3, lq3, yq3, zq3⟩, st3⟩ := Jvm.LawKit.callS X2 hx (y := (⟨"java/util/Objects", "requireNonNull", "(Ljava/lang/Object;Ljava/lang/String;)Ljava/lang/Object;"⟩ : MethodName)) hown (mvT hZ (ow hw 28 rfl)) (mvT hZ (ow hw 29 rfl)) (mvT hZ (ow hw 30 rfl)) (mvT hZ (ow hw 31 rfl)) (by decide) (backOf (W := 0) (rm5 l Z a0 hw [] a2 b2 h2 n0 O) hZ (ow hw 31 rfl) (ow hw 30 rfl) (by decide) (by decide)) (g := (mkF m 7 #[rv a1, rv a2, rv a3, jv q1, .second, jv q2, .second] [.ref b2, .ref a2])) rfl (by rw [hml]; rfl) (argsL := [(.ref a2), (.ref b2)]) (rest := []) (lenOf pd_0 rfl) rfl (by show 2 * 0 + _ ≤ _; exact Nat.le_of_eq rfl) (hb hby d3_7) (fun _ _ => ⟨rfl, e2, (by decide : 2 + 0 ≤ _), (by decide : 20 + 0 ≤ _)⟩)
  dsimp only [Pt.U, Pt.locs, Pt.cells, Pt.slots] at X3 lq3 yq3 zq3 st3 hQ3
  subst lq3 yq3 zq3
  obtain ⟨rfl, rfl, e3⟩ := hQ3
  try rw [List.append_nil] at X3
  refine gb st3 ?_
  show G T3 (mkF m 10 #[rv a1, rv a2, rv a3, jv q1, .second, jv q2, .second] [.ref a2])
  refine gb (fun _ k => XS.pop X3.here hx rfl (hb hby d3_10) rfl rfl (XS.aloadN X3.here hx rfl (hb hby d3_11) rfl rfl k)) ?_
  show G T3 (mkF m 12 #[rv a1, rv a2, rv a3, jv q1, .second, jv q2, .second] [.ref a3])
  obtain ⟨b4, T4, h4, kn4, X4, e4, E4, hS, hk4, hZ, hown, st4⟩ := ldcS X3 hx hZ hown (ow hw 32 rfl) (own_wS hw) e3 hS hk (g := (mkF m 12 #[rv a1, rv a2, rv a3, jv q1, .second, jv q2, .second] [.ref a3])) rfl (hb hby d3_12) (n := 36) (by decide) (by decide) (by decide) (by decide)
  have E_a1 := E_a1.ext E4
  have F_name := F_name.ext E4
  have F_direction := F_direction.ext E4
  have F_min := F_min.ext E4
  have F_max := F_max.ext E4
  have E_a2 := E_a2.ext E4
  have F_value_a2 := F_value_a2.ext E4
  have V_a4 := V_a4.ext E4
  have O := O.ext E4
  have hk := Nat.le_trans hk E4.1
  have K := K.ext E4
  have hk := hk4
  refine gb st4 ?_
  show G T4 (mkF m 14 #[rv a1, rv a2, rv a3, jv q1, .second, jv q2, .second] [.ref b4, .ref a3])
  obtain ⟨_, _, ⟨T5, Lz5, kz5, nz5⟩, -, X5, ⟨Lc5, hQ5, lq5, yq5, zq5⟩, st5⟩ := Jvm.LawKit.callS X4 hx (y := (⟨"java/util/Objects", "requireNonNull", "(Ljava/lang/Object;Ljava/lang/String;)Ljava/lang/Object;"⟩ : MethodName)) hown (mvT hZ (ow hw 28 rfl)) (mvT hZ (ow hw 29 rfl)) (mvT hZ (ow hw 30 rfl)) (mvT hZ (ow hw 31 rfl)) (by decide) (backOf (W := 0) (rm5 l Z a0 hw [] a3 b4 h4 n0 O) hZ (ow hw 31 rfl) (ow hw 30 rfl) (by decide) (by decide)) (g := (mkF m 14 #[rv a1, rv a2, rv a3, jv q1, .second, jv q2, .second] [.ref b4, .ref a3])) rfl (by rw [hml]; rfl) (argsL := [(.ref a3), (.ref b4)]) (rest := []) (lenOf pd_0 rfl) rfl (by show 2 * 0 + _ ≤ _; exact Nat.le_of_eq rfl) (hb hby d3_14) (fun _ _ => ⟨rfl, e4, (by decide : 4 + 0 ≤ _), (by decide : 60 + 0 ≤ _)⟩)
  dsimp only [Pt.U, Pt.locs, Pt.cells, Pt.slots] at X5 lq5 yq5 zq5 st5 hQ5
  subst lq5 yq5 zq5
  obtain ⟨rfl, rfl, e5⟩ := hQ5
  try rw [List.append_nil] at X5
  refine gb st5 ?_
  show G T5 (mkF m 17 #[rv a1, rv a2, rv a3, jv q1, .second, jv q2, .second] [.ref a3])
  refine gb (fun _ k => XS.pop X5.here hx rfl (hb hby d3_17) rfl rfl (XS.aloadN X5.here hx rfl (hb hby d3_18) rfl rfl k)) ?_
  show G T5 (mkF m 19 #[rv a1, rv a2, rv a3, jv q1, .second, jv q2, .second] [.ref a2])
  obtain ⟨cq6, kq6, q6a, q6b, q6c⟩ := isOf hZ e5 E_a2
  obtain ⟨_, _, ⟨T6, Lz6, kz6, nz6⟩, -, X6, ⟨Lc6, hQ6, lq6, yq6, zq6⟩, st6⟩ := X5.virtualBack hx (y := (⟨"java/lang/String", "isEmpty", "()Z"⟩ : MethodName)) (z := (⟨"java/lang/String", "isEmpty", "()Z"⟩ : MethodName)) hown (mvT hZ (ow hw 33 rfl)) (mvT hZ (ow hw 34 rfl)) (notFace_of_selects (args := #[]) (mvT hZ (ow hw 36 rfl))) (mvT hZ (ow hw 36 rfl)) (mvT hZ (ow hw 35 rfl)) (by decide) (backOf (W := 0) (rm6 l Z a0 hw [] a2 a4 k4 z4 vs4 h4 n0 O E_a2 F_value_a2 V_a4 hz) hZ (ow hw 37 rfl) (ow hw 14 rfl) (by decide) (by decide)) q6a q6c (g := (mkF m 19 #[rv a1, rv a2, rv a3, jv q1, .second, jv q2, .second] [.ref a2])) rfl (by rw [hml]; rfl) (Steps.refl _) (argsL := []) (rest := []) (lenOf pd_1 rfl) rfl (by show 2 * 0 + _ ≤ _; exact Nat.le_of_eq rfl) (hb hby d3_19) (fun _ _ => ⟨rfl, e5, (by decide : 4 + 0 ≤ _), (by decide : 60 + 0 ≤ _)⟩)
  dsimp only [Pt.U, Pt.locs, Pt.cells, Pt.slots] at X6 lq6 yq6 zq6 st6 hQ6
  subst lq6 yq6 zq6
  obtain ⟨rfl, rfl, e6⟩ := hQ6
  try rw [List.append_nil] at X6
  refine gb (fun _ k => st6.trans k) ?_
  show G T6 (mkF m 22 #[rv a1, rv a2, rv a3, jv q1, .second, jv q2, .second] [.int 0])
  refine gb (fun _ k => XS.ifYes X6.here hx rfl (pc0 := 22) (pc' := 35) rfl (hb hby d3_22) rfl ((if0 _ _).trans (teq (by decide : (0 : Int32) = (0 : Int32))).1) (by decide) (by decide) (XS.lloadN X6.here hx rfl (hb hby d3_35) rfl (XS.lload X6.here hx rfl (hb hby d3_36) rfl (XS.lcmp X6.here hx rfl (hb hby d3_38) rfl (XS.ifYes X6.here hx rfl (pc0 := 39) (pc' := 78) rfl (hb hby d3_39) rfl ((if0 _ _).trans (flt (fun q => h1 ((own_gt _ _).mp q))).2.2.2) (by decide) (by decide) (XS.aloadN X6.here hx rfl (hb hby d3_78) rfl rfl k)))))) ?_
  show G T6 (mkF m 79 #[rv a1, rv a2, rv a3, jv q1, .second, jv q2, .second] [.ref a1])
  refine gb (fun _ k => XS.aloadN X6.here hx rfl (hb hby d3_79) rfl rfl k) ?_
  show G T6 (mkF m 80 #[rv a1, rv a2, rv a3, jv q1, .second, jv q2, .second] [.ref a2, .ref a1])
  obtain ⟨T7, h7, X7, e7, W7, st7⟩ := putF X6 hx hZ hown (host := "") (Or.inl (ow hw 39 rfl)) Via.refl e6 F_name E_a1 (Or.inr ⟨(ow hw 40 rfl), rfl, hnm⟩) (ow hw 11 rfl) (ty := (.object "java/lang/String")) (by decide) rfl rfl (g := (mkF m 80 #[rv a1, rv a2, rv a3, jv q1, .second, jv q2, .second] [.ref a2, .ref a1])) rfl rfl (hb hby d3_80)
  refine gb st7 ?_
  have F_name := F_name.same W7
  have E_a1 := E_a1.wr W7
  have F_direction := F_direction.other W7 (Or.inr (slot_ne (Or.inr (ow hw 42 rfl)) (Or.inr (ow hw 40 rfl)) (by decide) (t := (.object "com/example/rhadamanthus/rhadamanthus/order/Direction")) (t' := (.object "java/lang/String")) (by decide) (by decide)))
  have F_min := F_min.other W7 (Or.inr (slot_ne (Or.inr (ow hw 44 rfl)) (Or.inr (ow hw 40 rfl)) (by decide) (t := .long) (t' := (.object "java/lang/String")) (by decide) (by decide)))
  have F_max := F_max.other W7 (Or.inr (slot_ne (Or.inr (ow hw 46 rfl)) (Or.inr (ow hw 40 rfl)) (by decide) (t := .long) (t' := (.object "java/lang/String")) (by decide) (by decide)))
  have E_a2 := E_a2.wr W7
  have F_value_a2 := F_value_a2.other W7 (Or.inl ne_a2_a1)
  have V_a4 := V_a4.other W7 ne_a4_a1
  have O := O.wr W7 g_a1
  have hk := Nat.le_trans hk (Keep.of_wr W7).1
  have K := K.wr W7 (Or.inl (List.mem_of_getElem? (i := 0) rfl))
  have N := Fr.snoc X7 N g_a1
  show G T7 (mkF m 83 #[rv a1, rv a2, rv a3, jv q1, .second, jv q2, .second] [])
  refine gb (fun _ k => XS.aloadN X7.here hx rfl (hb hby d3_83) rfl rfl (XS.aloadN X7.here hx rfl (hb hby d3_84) rfl rfl k)) ?_
  show G T7 (mkF m 85 #[rv a1, rv a2, rv a3, jv q1, .second, jv q2, .second] [.ref a3, .ref a1])
  obtain ⟨T8, h8, X8, e8, W8, st8⟩ := putF X7 hx hZ hown (host := "") (Or.inl (ow hw 41 rfl)) Via.refl e7 F_direction E_a1 (Or.inr ⟨(ow hw 42 rfl), rfl, hnm⟩) (ow hw 11 rfl) (ty := (.object "com/example/rhadamanthus/rhadamanthus/order/Direction")) (by decide) rfl rfl (g := (mkF m 85 #[rv a1, rv a2, rv a3, jv q1, .second, jv q2, .second] [.ref a3, .ref a1])) rfl rfl (hb hby d3_85)
  refine gb st8 ?_
  have F_direction := F_direction.same W8
  have E_a1 := E_a1.wr W8
  have F_min := F_min.other W8 (Or.inr (slot_ne (Or.inr (ow hw 44 rfl)) (Or.inr (ow hw 42 rfl)) (by decide) (t := .long) (t' := (.object "com/example/rhadamanthus/rhadamanthus/order/Direction")) (by decide) (by decide)))
  have F_max := F_max.other W8 (Or.inr (slot_ne (Or.inr (ow hw 46 rfl)) (Or.inr (ow hw 42 rfl)) (by decide) (t := .long) (t' := (.object "com/example/rhadamanthus/rhadamanthus/order/Direction")) (by decide) (by decide)))
  have E_a2 := E_a2.wr W8
  have F_value_a2 := F_value_a2.other W8 (Or.inl ne_a2_a1)
  have V_a4 := V_a4.other W8 ne_a4_a1
  have F_name := F_name.other W8 (Or.inr (slot_ne (Or.inr (ow hw 40 rfl)) (Or.inr (ow hw 42 rfl)) (by decide) (t := (.object "java/lang/String")) (t' := (.object "com/example/rhadamanthus/rhadamanthus/order/Direction")) (by decide) (by decide)))
  have O := O.wr W8 g_a1
  have hk := Nat.le_trans hk (Keep.of_wr W8).1
  have K := K.wr W8 (Or.inl (List.mem_of_getElem? (i := 0) rfl))
  have N := Fr.snoc X8 N g_a1
  show G T8 (mkF m 88 #[rv a1, rv a2, rv a3, jv q1, .second, jv q2, .second] [])
  refine gb (fun _ k => XS.aloadN X8.here hx rfl (hb hby d3_88) rfl rfl (XS.lloadN X8.here hx rfl (hb hby d3_89) rfl k)) ?_
  show G T8 (mkF m 90 #[rv a1, rv a2, rv a3, jv q1, .second, jv q2, .second] [.long q1, .ref a1])
  obtain ⟨T9, h9, X9, e9, W9, st9⟩ := putF X8 hx hZ hown (host := "") (Or.inl (ow hw 43 rfl)) Via.refl e8 F_min E_a1 (Or.inr ⟨(ow hw 44 rfl), rfl, hnm⟩) (ow hw 11 rfl) (ty := .long) (by decide) rfl rfl (g := (mkF m 90 #[rv a1, rv a2, rv a3, jv q1, .second, jv q2, .second] [.long q1, .ref a1])) rfl rfl (hb hby d3_90)
  refine gb st9 ?_
  have F_min := F_min.same W9
  have E_a1 := E_a1.wr W9
  have F_max := F_max.other W9 (Or.inr (slot_ne (Or.inr (ow hw 46 rfl)) (Or.inr (ow hw 44 rfl)) (by decide) (t := .long) (t' := .long) (by decide) (by decide)))
  have E_a2 := E_a2.wr W9
  have F_value_a2 := F_value_a2.other W9 (Or.inl ne_a2_a1)
  have V_a4 := V_a4.other W9 ne_a4_a1
  have F_name := F_name.other W9 (Or.inr (slot_ne (Or.inr (ow hw 40 rfl)) (Or.inr (ow hw 44 rfl)) (by decide) (t := (.object "java/lang/String")) (t' := .long) (by decide) (by decide)))
  have F_direction := F_direction.other W9 (Or.inr (slot_ne (Or.inr (ow hw 42 rfl)) (Or.inr (ow hw 44 rfl)) (by decide) (t := (.object "com/example/rhadamanthus/rhadamanthus/order/Direction")) (t' := .long) (by decide) (by decide)))
  have O := O.wr W9 g_a1
  have hk := Nat.le_trans hk (Keep.of_wr W9).1
  have K := K.wr W9 (Or.inl (List.mem_of_getElem? (i := 0) rfl))
  have N := Fr.snoc X9 N g_a1
  show G T9 (mkF m 93 #[rv a1, rv a2, rv a3, jv q1, .second, jv q2, .second] [])
  refine gb (fun _ k => XS.aloadN X9.here hx rfl (hb hby d3_93) rfl rfl (XS.lload X9.here hx rfl (hb hby d3_94) rfl k)) ?_
  show G T9 (mkF m 96 #[rv a1, rv a2, rv a3, jv q1, .second, jv q2, .second] [.long q2, .ref a1])
  obtain ⟨T10, h10, X10, e10, W10, st10⟩ := putF X9 hx hZ hown (host := "") (Or.inl (ow hw 45 rfl)) Via.refl e9 F_max E_a1 (Or.inr ⟨(ow hw 46 rfl), rfl, hnm⟩) (ow hw 11 rfl) (ty := .long) (by decide) rfl rfl (g := (mkF m 96 #[rv a1, rv a2, rv a3, jv q1, .second, jv q2, .second] [.long q2, .ref a1])) rfl rfl (hb hby d3_96)
  refine gb st10 ?_
  have F_max := F_max.same W10
  have E_a1 := E_a1.wr W10
  have E_a2 := E_a2.wr W10
  have F_value_a2 := F_value_a2.other W10 (Or.inl ne_a2_a1)
  have V_a4 := V_a4.other W10 ne_a4_a1
  have F_name := F_name.other W10 (Or.inr (slot_ne (Or.inr (ow hw 40 rfl)) (Or.inr (ow hw 46 rfl)) (by decide) (t := (.object "java/lang/String")) (t' := .long) (by decide) (by decide)))
  have F_direction := F_direction.other W10 (Or.inr (slot_ne (Or.inr (ow hw 42 rfl)) (Or.inr (ow hw 46 rfl)) (by decide) (t := (.object "com/example/rhadamanthus/rhadamanthus/order/Direction")) (t' := .long) (by decide) (by decide)))
  have F_min := F_min.other W10 (Or.inr (slot_ne (Or.inr (ow hw 44 rfl)) (Or.inr (ow hw 46 rfl)) (by decide) (t := .long) (t' := .long) (by decide) (by decide)))
  have O := O.wr W10 g_a1
  have hk := Nat.le_trans hk (Keep.of_wr W10).1
  have K := K.wr W10 (Or.inl (List.mem_of_getElem? (i := 0) rfl))
  have N := Fr.snoc X10 N g_a1
  show G T10 (mkF m 99 #[rv a1, rv a2, rv a3, jv q1, .second, jv q2, .second] [])
  exact go X10 hS (by rw [e10]; exact hk) (v := none) (fun _ => rfl) (fun fs hr => X10.returnOut hx Bd.returns (hb hby d3_99) hr) (by rw [e10]; exact ⟨rfl, N, K, E_a1, F_min, F_max⟩) (by decide) (by decide)
def Q_rm7 (Z : State) (a1 : Addr) (q1 q2 q3 : Int64) (k1 : Int32) (h0 : Heap) (n0 : Nat) : Option Value → Heap → List Loc → Prop := fun v h L => v = some (.int k1) ∧ L = [] ∧ h = h0
set_option maxRecDepth 65536 in
set_option maxHeartbeats 40000000 in
theorem rm7 (l : Launch) (Z : State) (a0 : Array Value) (hw : ∀ d ∈ tables_1, d.before a0 Z = true) (ws : List Jvm.Cond) (a1 : Addr) (q1 q2 q3 : Int64) (k1 : Int32) (h0 : Heap) (n0 : Nat) (O : Old Z n0 h0) (F_min : Fld Z h0 a1 "com/example/rhadamanthus/rhadamanthus/order/Field" "min" "J" (.long q2)) (F_max : Fld Z h0 a1 "com/example/rhadamanthus/rhadamanthus/order/Field" "max" "J" (.long q3)) (hr : own_in q2 q3 q1 = k1) :
    MetFree l (⟨"com/example/rhadamanthus/rhadamanthus/order/Field", "contains", "(J)Z"⟩ : MethodName) (head1 (Jvm.Cond.code (⟨"com/example/rhadamanthus/rhadamanthus/order/Field", "contains", "(J)Z"⟩ : MethodName) prog_9_method_7_code 3 (some .boolean) :: ws) ({ frames := 0, cells := 0, slots := 0, locals := 0 } : Room)) (fun a U => a = #[(.ref a1), (.long q1)] ∧ Z.Warmed39 U.vm ∧ U.heap = h0) (fun _ _ _ _ _ => True) (fun _ U o U' => ∃ v L, o = .returned v ∧ (Q_rm7 Z a1 q1 q2 q3 k1 h0 n0) v U'.heap L ∧ FrameEnd U o U' L ({ frames := 0, cells := 0, slots := 0, locals := 0 } : Room).cells ({ frames := 0, cells := 0, slots := 0, locals := 0 } : Room).slots) := by
  refine MetFree.of_bodySF (plainFor_of_name pn_2) hisR ?_
  intro p e s m args below meth c s₁ Bd hml0 hP hK
  obtain ⟨rfl, hZ, hh⟩ := hP
  have hx := Bd.exec
  have hby := Bd.bytes
  have hml : c.maxLocals = 3 := hml0
  have hown : s.vm.findClass "com/example/rhadamanthus/rhadamanthus/order/Field" = some m.cls := findClass_of_methodNamed Bd.named
  have hnm := (name_of_methodNamed Bd.named Bd.method).1
  have hlk := BodyLoose.notSynchronized Bd
  have X0 : Stand p l e ({ frames := 0, cells := 0, slots := 0, locals := 0 } : Room) s m #[(.ref a1), (.long q1)] below meth c s₁ [] 0 0 := Stand.of_body Bd
  have e0 : s₁.heap = h0 := by rw [← hh, Bd.state]; rfl
  have N := Fr.nil n0
  obtain ⟨G, hG⟩ : ∃ G : State → JFrame → Prop, G = OwnG p e below s ({ frames := 0, cells := 0, slots := 0, locals := 0 } : Room).cells ({ frames := 0, cells := 0, slots := 0, locals := 0 } : Room).slots (Q_rm7 Z a1 q1 q2 q3 k1 h0 n0) := ⟨_, rfl⟩
  have gb : ∀ {T T' : State} {g g' : JFrame}, (∀ t, Steps p.tables e below (T'.setTop g') t → Steps p.tables e below (T.setTop g) t) → G T' g' → G T g := by subst hG; exact fun k h => own_by k h
  have go : ∀ {T : State} {locs : List Loc} {cells slots : Nat} {g : JFrame} {v : Option Value}, Stand p l e ({ frames := 0, cells := 0, slots := 0, locals := 0 } : Room) s m #[(.ref a1), (.long q1)] below meth c T locs cells slots → (meth.sig.returnType = none → v = none) → (∀ fs, (∀ (f : JFrame) (acts : List Action), f.method = m → f.locked = none → f.entered = [] → (doReturn e (T.setTop f) acts v).1 = T.setFrames fs) → Steps p.tables e below (T.setTop g) (T.setFrames fs)) → (Q_rm7 Z a1 q1 q2 q3 k1 h0 n0) v T.heap locs → cells ≤ ({ frames := 0, cells := 0, slots := 0, locals := 0 } : Room).cells → slots ≤ ({ frames := 0, cells := 0, slots := 0, locals := 0 } : Room).slots → G T g := by subst hG; exact fun X h1 h2 h3 h4 h5 => own_out X hlk h1 h2 h3 h4 h5
  show OwnG p e below s ({ frames := 0, cells := 0, slots := 0, locals := 0 } : Room).cells ({ frames := 0, cells := 0, slots := 0, locals := 0 } : Room).slots (Q_rm7 Z a1 q1 q2 q3 k1 h0 n0) s₁ (entryFrame m #[(.ref a1), (.long q1)] 3)
  rw [← hG, ef_rm7 m a1 q1]
  clear hG
  show G s₁ (mkF m 0 #[.val (.ref a1), .val (.long q1), .second] [])
  refine gb (fun _ k => XS.aloadN X0.here hx rfl (hb hby d7_0) rfl rfl k) ?_
  show G s₁ (mkF m 1 #[rv a1, jv q1, .second] [.ref a1])
  obtain ⟨T1, X1, e1, st1⟩ := getF X0 hx hZ hown (host := "") (Or.inl (ow hw 43 rfl)) Via.refl e0 F_min (g := (mkF m 1 #[rv a1, jv q1, .second] [.ref a1])) rfl rfl (hb hby d7_1)
  refine gb st1 ?_
  show G T1 (mkF m 4 #[rv a1, jv q1, .second] [.long q2])
  refine gb (fun _ k => XS.lloadN X1.here hx rfl (hb hby d7_4) rfl (XS.lcmp X1.here hx rfl (hb hby d7_5) rfl k)) ?_
  show G T1 (mkF m 6 #[rv a1, jv q1, .second] [.int (lcmpW q2 q1)])
  by_cases hc6 : q1 < q2
  · skip
    refine gb (fun _ k => XS.ifYes X1.here hx rfl (pc0 := 6) (pc' := 22) rfl (hb hby d7_6) rfl ((if0 _ _).trans (tlt ((own_gt _ _).mpr hc6)).2.2.1) (by decide) (by decide) (XS.iconst X1.here hx rfl (hb hby d7_22) k)) ?_
    show G T1 (mkF m 23 #[rv a1, jv q1, .second] [.int 0])
    exact go X1 (v := (some (.int (0 : Int32)))) (fun h => by rw [Bd.returns] at h; cases h) (fun fs hr => retOut X1 hx Bd.returns rfl (Or.inl ⟨rfl, by simp, _, rfl⟩) (hb hby d7_23) hr) (⟨by rw [← hr]; first | simp [own_in, hc6, hc15] | simp [own_in, hc6], rfl, e1⟩) (by decide) (by decide)
  · skip
    refine gb (fun _ k => XS.ifNo X1.here hx rfl (hb hby d7_6) rfl ((if0 _ _).trans (flt (fun q => hc6 ((own_gt _ _).mp q))).2.2.1) (XS.lloadN X1.here hx rfl (hb hby d7_9) rfl (XS.aloadN X1.here hx rfl (hb hby d7_10) rfl rfl k))) ?_
    show G T1 (mkF m 11 #[rv a1, jv q1, .second] [.ref a1, .long q1])
    obtain ⟨T2, X2, e2, st2⟩ := getF X1 hx hZ hown (host := "") (Or.inl (ow hw 45 rfl)) Via.refl e1 F_max (g := (mkF m 11 #[rv a1, jv q1, .second] [.ref a1, .long q1])) rfl rfl (hb hby d7_11)
    refine gb st2 ?_
    show G T2 (mkF m 14 #[rv a1, jv q1, .second] [.long q3, .long q1])
    refine gb (fun _ k => XS.lcmp X2.here hx rfl (hb hby d7_14) rfl k) ?_
    show G T2 (mkF m 15 #[rv a1, jv q1, .second] [.int (lcmpW q1 q3)])
    by_cases hc15 : q3 < q1
    · skip
      refine gb (fun _ k => XS.ifYes X2.here hx rfl (pc0 := 15) (pc' := 22) rfl (hb hby d7_15) rfl ((if0 _ _).trans (tlt ((own_gt _ _).mpr hc15)).2.2.1) (by decide) (by decide) (XS.iconst X2.here hx rfl (hb hby d7_22) k)) ?_
      show G T2 (mkF m 23 #[rv a1, jv q1, .second] [.int 0])
      exact go X2 (v := (some (.int (0 : Int32)))) (fun h => by rw [Bd.returns] at h; cases h) (fun fs hr => retOut X2 hx Bd.returns rfl (Or.inl ⟨rfl, by simp, _, rfl⟩) (hb hby d7_23) hr) (⟨by rw [← hr]; first | simp [own_in, hc6, hc15] | simp [own_in, hc6], rfl, e2⟩) (by decide) (by decide)
    · skip
      refine gb (fun _ k => XS.ifNo X2.here hx rfl (hb hby d7_15) rfl ((if0 _ _).trans (flt (fun q => hc15 ((own_gt _ _).mp q))).2.2.1) (XS.iconst X2.here hx rfl (hb hby d7_18) (XS.goto X2.here hx rfl (pc0 := 19) (pc' := 23) rfl (hb hby d7_19) (by decide) (by decide) k))) ?_
      show G T2 (mkF m 23 #[rv a1, jv q1, .second] [.int 1])
      exact go X2 (v := (some (.int (1 : Int32)))) (fun h => by rw [Bd.returns] at h; cases h) (fun fs hr => retOut X2 hx Bd.returns rfl (Or.inl ⟨rfl, by simp, _, rfl⟩) (hb hby d7_23) hr) (⟨by rw [← hr]; first | simp [own_in, hc6, hc15] | simp [own_in, hc6], rfl, e2⟩) (by decide) (by decide)
def Q_rm0 (Z : State) (i0 i1 i2 : Int64) (i3 : Int32) (h0 : Heap) (n0 : Nat) (w_LOW_FIRST : Addr) (w_HIGH_FIRST : Addr) : Option Value → Heap → List Loc → Prop := fun v h L => v = some (.int 1) ∧ Fr n0 L
set_option maxRecDepth 65536 in
set_option maxHeartbeats 40000000 in
theorem rm0 (l : Launch) (Z : State) (a0 : Array Value) (hw : ∀ d ∈ tables_1, d.before a0 Z = true) (ws : List Jvm.Cond) (i0 i1 i2 : Int64) (i3 : Int32) (h0 : Heap) (n0 : Nat) (O : Old Z n0 h0) (w_LOW_FIRST : Addr) (S_LOW_FIRST : Sta Z Z.heap "com/example/rhadamanthus/rhadamanthus/order/Direction" "LOW_FIRST" "Lcom/example/rhadamanthus/rhadamanthus/order/Direction;" (.ref w_LOW_FIRST)) (w_HIGH_FIRST : Addr) (S_HIGH_FIRST : Sta Z Z.heap "com/example/rhadamanthus/rhadamanthus/order/Direction" "HIGH_FIRST" "Lcom/example/rhadamanthus/rhadamanthus/order/Direction;" (.ref w_HIGH_FIRST)) (hheld : Jvm.Lit.constHeld Z "com/example/rhadamanthus/rhadamanthus/order/FieldContainsPinLaw" 27) (hcw : Jvm.Lit.compactW.before a0 Z = true) :
    MetFree l x (head1 (Jvm.Cond.code x code maxLocals ret :: ws) room_1) (fun a U => a = #[(.long i0), (.long i1), (.long i2), (.int i3)] ∧ Z.Warmed39 U.vm ∧ U.heap = h0 ∧ U = Z) (fun _ _ _ _ _ => True) (fun _ U o U' => ∃ v L, o = .returned v ∧ (Q_rm0 Z i0 i1 i2 i3 h0 n0 w_LOW_FIRST w_HIGH_FIRST) v U'.heap L ∧ ReturnedEndW U o U' L 7 72) := by
  refine MetFree.of_bodySF (plainFor_of_name pn_3) hisR ?_
  intro p e s m args below meth c s₁ Bd hml0 hP hK
  obtain ⟨rfl, hZ, hh, hUZ⟩ := hP
  have hx := Bd.exec
  have hby := Bd.bytes
  have hml : c.maxLocals = 15 := hml0
  have hown : s.vm.findClass "com/example/rhadamanthus/rhadamanthus/order/FieldContainsPinLaw" = some m.cls := findClass_of_methodNamed Bd.named
  have hnm := (name_of_methodNamed Bd.named Bd.method).1
  have hlk := BodyLoose.notSynchronized Bd
  have X0 : Stand p l e room_1 (s.setVm s.vm) m #[(.long i0), (.long i1), (.long i2), (.int i3)] below meth c s₁ [] 0 0 := Stand.of_body Bd
  have e0 : s₁.heap = h0 := by rw [← hh, Bd.state]; rfl
  have N := Fr.nil n0
  have O0 := O
  have hS : s.Since s.vm h0.size := (State.WarmedH.refl s).since _
  have hk := Nat.le_refl h0.size
  obtain ⟨G, hG⟩ : ∃ G : State → JFrame → Prop, G = OwnGW p e below s 7 72 (Q_rm0 Z i0 i1 i2 i3 h0 n0 w_LOW_FIRST w_HIGH_FIRST) := ⟨_, rfl⟩
  have gb : ∀ {T T' : State} {g g' : JFrame}, (∀ t, Steps p.tables e below (T'.setTop g') t → Steps p.tables e below (T.setTop g) t) → G T' g' → G T g := by subst hG; exact fun k h => own_byW k h
  have go : ∀ {T : State} {locs : List Loc} {cells slots : Nat} {g : JFrame} {v : Option Value} {vm : Vm} {k : Nat}, Stand p l e room_1 (s.setVm vm) m #[(.long i0), (.long i1), (.long i2), (.int i3)] below meth c T locs cells slots → s.Since vm k → k ≤ T.heap.size → (meth.sig.returnType = none → v = none) → (∀ fs, (∀ (f : JFrame) (acts : List Action), f.method = m → f.locked = none → f.entered = [] → (doReturn e (T.setTop f) acts v).1 = T.setFrames fs) → Steps p.tables e below (T.setTop g) (T.setFrames fs)) → (Q_rm0 Z i0 i1 i2 i3 h0 n0 w_LOW_FIRST w_HIGH_FIRST) v T.heap locs → cells ≤ 7 → slots ≤ 72 → G T g := by subst hG; exact fun X a b h1 h2 h3 h4 h5 => own_outW X a b hlk h1 h2 h3 h4 h5
  show OwnGW p e below s 7 72 (Q_rm0 Z i0 i1 i2 i3 h0 n0 w_LOW_FIRST w_HIGH_FIRST) s₁ (entryFrame m #[(.long i0), (.long i1), (.long i2), (.int i3)] maxLocals)
  rw [← hG, ef_rm0 m i0 i1 i2 i3]
  clear hG
  show G s₁ (mkF m 0 #[.val (.long i0), .second, .val (.long i1), .second, .val (.long i2), .second, .val (.int i3), .unset, .unset, .unset, .unset, .unset, .unset, .unset, .unset] [])
  refine gb (fun _ k => XS.lloadN X0.here hx rfl (hb hby at_0) rfl (XS.lloadN X0.here hx rfl (hb hby at_1) rfl k)) ?_
  show G s₁ (mkF m 2 #[jv i0, .second, jv i1, .second, jv i2, .second, iv i3, .unset, .unset, .unset, .unset, .unset, .unset, .unset, .unset] [.long i1, .long i0])
  obtain ⟨_, _, ⟨T1, Lz1, kz1, nz1⟩, -, X1, ⟨Lc1, hQ1, lq1, yq1, zq1⟩, st1⟩ := Jvm.LawKit.callS X0 hx (y := (⟨"java/lang/Math", "min", "(JJ)J"⟩ : MethodName)) hown (mvT hZ (ow hw 0 rfl)) (mvT hZ (ow hw 1 rfl)) (mvT hZ (ow hw 2 rfl)) (mvT hZ (ow hw 3 rfl)) (by decide) (backOf (W := 0) (rm1 l Z a0 hw [] i0 i1 h0 n0 O) hZ (ow hw 3 rfl) (ow hw 2 rfl) (by decide) (by decide)) (g := (mkF m 2 #[jv i0, .second, jv i1, .second, jv i2, .second, iv i3, .unset, .unset, .unset, .unset, .unset, .unset, .unset, .unset] [.long i1, .long i0])) rfl (by rw [hml]; rfl) (argsL := [(.long i0), (.long i1)]) (rest := []) (lenOf pd_2 rfl) rfl (by show 2 * 0 + _ ≤ _; exact Nat.le_of_eq rfl) (hb hby at_2) (fun _ _ => ⟨rfl, e0, (by decide : 0 + 0 ≤ _), (by decide : 0 + 0 ≤ _)⟩)
  dsimp only [Pt.U, Pt.locs, Pt.cells, Pt.slots] at X1 lq1 yq1 zq1 st1 hQ1
  subst lq1 yq1 zq1
  obtain ⟨rfl, rfl, e1⟩ := hQ1
  try rw [List.append_nil] at X1
  refine gb st1 ?_
  show G T1 (mkF m 5 #[jv i0, .second, jv i1, .second, jv i2, .second, iv i3, .unset, .unset, .unset, .unset, .unset, .unset, .unset, .unset] [.long (own_min i0 i1)])
  refine gb (fun _ k => XS.lstore X1.here hx rfl (hb hby at_5) rfl (l' := #[jv i0, .second, jv i1, .second, jv i2, .second, iv i3, jv (own_min i0 i1), .second, .unset, .unset, .unset, .unset, .unset, .unset]) rfl (XS.lloadN X1.here hx rfl (hb hby at_7) rfl (XS.lloadN X1.here hx rfl (hb hby at_8) rfl k))) ?_
  show G T1 (mkF m 9 #[jv i0, .second, jv i1, .second, jv i2, .second, iv i3, jv (own_min i0 i1), .second, .unset, .unset, .unset, .unset, .unset, .unset] [.long i1, .long i0])
  obtain ⟨_, _, ⟨T2, Lz2, kz2, nz2⟩, -, X2, ⟨Lc2, hQ2, lq2, yq2, zq2⟩, st2⟩ := Jvm.LawKit.callS X1 hx (y := (⟨"java/lang/Math", "max", "(JJ)J"⟩ : MethodName)) hown (mvT hZ (ow hw 4 rfl)) (mvT hZ (ow hw 5 rfl)) (mvT hZ (ow hw 2 rfl)) (mvT hZ (ow hw 6 rfl)) (by decide) (backOf (W := 0) (rm2 l Z a0 hw [] i0 i1 h0 n0 O) hZ (ow hw 6 rfl) (ow hw 2 rfl) (by decide) (by decide)) (g := (mkF m 9 #[jv i0, .second, jv i1, .second, jv i2, .second, iv i3, jv (own_min i0 i1), .second, .unset, .unset, .unset, .unset, .unset, .unset] [.long i1, .long i0])) rfl (by rw [hml]; rfl) (argsL := [(.long i0), (.long i1)]) (rest := []) (lenOf pd_2 rfl) rfl (by show 2 * 0 + _ ≤ _; exact Nat.le_of_eq rfl) (hb hby at_9) (fun _ _ => ⟨rfl, e1, (by decide : 0 + 0 ≤ _), (by decide : 0 + 0 ≤ _)⟩)
  dsimp only [Pt.U, Pt.locs, Pt.cells, Pt.slots] at X2 lq2 yq2 zq2 st2 hQ2
  subst lq2 yq2 zq2
  obtain ⟨rfl, rfl, e2⟩ := hQ2
  try rw [List.append_nil] at X2
  refine gb st2 ?_
  show G T2 (mkF m 12 #[jv i0, .second, jv i1, .second, jv i2, .second, iv i3, jv (own_min i0 i1), .second, .unset, .unset, .unset, .unset, .unset, .unset] [.long (own_max i0 i1)])
  refine gb (fun _ k => XS.lstore X2.here hx rfl (hb hby at_12) rfl (l' := #[jv i0, .second, jv i1, .second, jv i2, .second, iv i3, jv (own_min i0 i1), .second, jv (own_max i0 i1), .second, .unset, .unset, .unset, .unset]) rfl k) ?_
  show G T2 (mkF m 14 #[jv i0, .second, jv i1, .second, jv i2, .second, iv i3, jv (own_min i0 i1), .second, jv (own_max i0 i1), .second, .unset, .unset, .unset, .unset] [])
  have I0 : IB Z s.vm [] := by rw [hUZ]; exact IB.start
  have J3 : ∀ (T3 : State) (locs3 : List Loc) (vm3 : Vm) (kn3 : Nat) (hS : s.Since vm3 kn3) (hk : kn3 ≤ h0.size) (hZ : Z.Warmed39 (s.setVm vm3).vm) (hown : (s.setVm vm3).vm.findClass "com/example/rhadamanthus/rhadamanthus/order/FieldContainsPinLaw" = some m.cls) (X3 : Stand p l e room_1 (s.setVm vm3) m #[(.long i0), (.long i1), (.long i2), (.int i3)] below meth c T3 locs3 0 0) (N : Fr n0 locs3) (e3 : T3.heap = h0)  (d1 : Addr) (I0 : IB Z vm3 []), G T3 (mkF m 30 #[jv i0, .second, jv i1, .second, jv i2, .second, iv i3, jv (own_min i0 i1), .second, jv (own_max i0 i1), .second, .unset, .unset, .unset, .unset] [.ref d1]) := by
    intro T3 locs3 vm3 kn3 hS hk hZ hown X3 N e3  d1 I0
    show G T3 (mkF m 30 #[jv i0, .second, jv i1, .second, jv i2, .second, iv i3, jv (own_min i0 i1), .second, jv (own_max i0 i1), .second, .unset, .unset, .unset, .unset] [.ref d1])
    refine gb (fun _ k => XS.astore X3.here hx rfl (hb hby at_30) rfl rfl (l' := #[jv i0, .second, jv i1, .second, jv i2, .second, iv i3, jv (own_min i0 i1), .second, jv (own_max i0 i1), .second, rv d1, .unset, .unset, .unset]) rfl k) ?_
    show G T3 (mkF m 32 #[jv i0, .second, jv i1, .second, jv i2, .second, iv i3, jv (own_min i0 i1), .second, jv (own_max i0 i1), .second, rv d1, .unset, .unset, .unset] [])
    obtain ⟨T4, h4, X4, e4, E4, A4, D4, U4, st4⟩ := newO X3 hx hZ hown (ow hw 10 rfl) (ow hw 11 rfl) (ow hw 12 rfl) e3 (g := (mkF m 32 #[jv i0, .second, jv i1, .second, jv i2, .second, iv i3, jv (own_min i0 i1), .second, jv (own_max i0 i1), .second, rv d1, .unset, .unset, .unset] [])) rfl (hb hby at_32) (by decide) (by decide)
    obtain ⟨b4, g4⟩ : ∃ z, z = h0.size := ⟨_, rfl⟩
    rw [← g4] at A4 D4 U4 st4
    have g_b4 : n0 ≤ b4 := Nat.le_trans (by have := O.2.1; rw [O.1] at this; exact this) (Nat.le_of_eq g4.symm)
    have O := O.ext E4
    have hk := Nat.le_trans hk E4.1
    have E_b4 := A4
    have F_name_b4 : Fld Z h4 b4 "com/example/rhadamanthus/rhadamanthus/order/Field" "name" "Ljava/lang/String;" .null := D4 (Or.inr (ow hw 40 rfl)) (ty := (.object "java/lang/String")) (by decide)
    have F_direction_b4 : Fld Z h4 b4 "com/example/rhadamanthus/rhadamanthus/order/Field" "direction" "Lcom/example/rhadamanthus/rhadamanthus/order/Direction;" .null := D4 (Or.inr (ow hw 42 rfl)) (ty := (.object "com/example/rhadamanthus/rhadamanthus/order/Direction")) (by decide)
    have F_min_b4 : Fld Z h4 b4 "com/example/rhadamanthus/rhadamanthus/order/Field" "min" "J" (.long (0 : Int64)) := D4 (Or.inr (ow hw 44 rfl)) (ty := .long) (by decide)
    have F_max_b4 : Fld Z h4 b4 "com/example/rhadamanthus/rhadamanthus/order/Field" "max" "J" (.long (0 : Int64)) := D4 (Or.inr (ow hw 46 rfl)) (ty := .long) (by decide)
    refine gb st4 ?_
    show G T4 (mkF m 35 #[jv i0, .second, jv i1, .second, jv i2, .second, iv i3, jv (own_min i0 i1), .second, jv (own_max i0 i1), .second, rv d1, .unset, .unset, .unset] [.ref b4])
    refine gb (fun _ k => XS.dup X4.here hx rfl (hb hby at_35) rfl rfl k) ?_
    show G T4 (mkF m 36 #[jv i0, .second, jv i1, .second, jv i2, .second, iv i3, jv (own_min i0 i1), .second, jv (own_max i0 i1), .second, rv d1, .unset, .unset, .unset] [.ref b4, .ref b4])
    obtain ⟨b5, T5, h5, kn5, bb5, kb5, X5, e5, E5, hS, hk5, hZ, hown, E_b5, F_coder_b5, F_value_b5, V_bb5, -, -, IBv, st5⟩ := ldcSV X4 hx hZ hown (ow hw 13 rfl) (own_wS hw) e4 hS hk (by rw [hUZ, O0.1]; exact N) (fun b cl q => by rw [hUZ]; exact q) I0 (by simp) hheld hcw (z := (1 : Int32)) ⟨by decide, rfl⟩ (by decide) rfl (g := (mkF m 36 #[jv i0, .second, jv i1, .second, jv i2, .second, iv i3, jv (own_min i0 i1), .second, jv (own_max i0 i1), .second, rv d1, .unset, .unset, .unset] [.ref b4, .ref b4])) rfl (hb hby at_36) (n := 4) (by decide) (by decide) (by decide) (by decide)
    have E_b4 := E_b4.ext E5
    have F_name_b4 := F_name_b4.ext E5
    have F_direction_b4 := F_direction_b4.ext E5
    have F_min_b4 := F_min_b4.ext E5
    have F_max_b4 := F_max_b4.ext E5
    have O := O.ext E5
    have hk := Nat.le_trans hk E5.1
    have hk := hk5
    have ne_b5_b4 : b5 ≠ b4 := Exa.ne E_b5 E_b4 (by decide)
    have ne_b4_bb5 : b4 ≠ bb5 := Exa.neArv E_b4 V_bb5 (ow hw 11 rfl)
    refine gb st5 ?_
    show G T5 (mkF m 38 #[jv i0, .second, jv i1, .second, jv i2, .second, iv i3, jv (own_min i0 i1), .second, jv (own_max i0 i1), .second, rv d1, .unset, .unset, .unset] [.ref b5, .ref b4, .ref b4])
    refine gb (fun _ k => XS.aload X5.here hx rfl (hb hby at_38) rfl rfl (XS.lload X5.here hx rfl (hb hby at_40) rfl (XS.lload X5.here hx rfl (hb hby at_42) rfl k))) ?_
    show G T5 (mkF m 44 #[jv i0, .second, jv i1, .second, jv i2, .second, iv i3, jv (own_min i0 i1), .second, jv (own_max i0 i1), .second, rv d1, .unset, .unset, .unset] [.long (own_max i0 i1), .long (own_min i0 i1), .ref d1, .ref b5, .ref b4, .ref b4])
    obtain ⟨_, _, ⟨T6, Lz6, kz6, nz6⟩, -, X6, hS6, hg6, ⟨Lc6, hQ6, lq6, yq6, zq6⟩, st6⟩ := X5.specialBackS hx (y := (⟨"com/example/rhadamanthus/rhadamanthus/order/Field", "<init>", "(Ljava/lang/String;Lcom/example/rhadamanthus/rhadamanthus/order/Direction;JJ)V"⟩ : MethodName)) rfl hown (mvT hZ (ow hw 21 rfl)) (mvT hZ (ow hw 22 rfl)) (mvT hZ (ow hw 23 rfl)) (by decide) (backOfS (W := 1) (rm3 l Z a0 hw [] b4 b5 d1 bb5 kb5 (1 : Int32) _ (own_min i0 i1) (own_max i0 i1) h5 n0 O E_b4 F_name_b4 F_direction_b4 F_min_b4 F_max_b4 g_b4 E_b5 F_value_b5 V_bb5 (by decide) ne_b5_b4 (Ne.symm ne_b4_bb5) (own_mm _ _)) hZ (ow hw 23 rfl) (ow hw 12 rfl) (by decide) (by decide)) (g := (mkF m 44 #[jv i0, .second, jv i1, .second, jv i2, .second, iv i3, jv (own_min i0 i1), .second, jv (own_max i0 i1), .second, rv d1, .unset, .unset, .unset] [.long (own_max i0 i1), .long (own_min i0 i1), .ref d1, .ref b5, .ref b4, .ref b4])) rfl (by rw [hml]; rfl) (Steps.refl _) (a := b4) (argsL := [(.ref b5), (.ref d1), (.long (own_min i0 i1)), (.long (own_max i0 i1))]) (rest := [(.ref b4)]) (lenOf pd_3 rfl) rfl (by show 2 * 0 + _ ≤ _; exact Nat.le_of_eq rfl) (hb hby at_44) (fun _ _ => ⟨rfl, e5, (by decide : 3 + 4 ≤ _), (by decide : 12 + 60 ≤ _)⟩)
    dsimp only [Pt.U, Pt.locs, Pt.cells, Pt.slots] at X6 lq6 yq6 zq6 st6 hQ6 hS6 hg6
    subst lq6 yq6 zq6
    obtain ⟨X6, hS, hZ, hown⟩ := rebS hS (by rw [e5]; exact hk) X6 hS6 hg6 hZ hown
    obtain ⟨h6, e6⟩ : ∃ z, z = T6.heap := ⟨_, rfl⟩
    rw [← e6] at hQ6
    replace e6 := e6.symm
    obtain ⟨rfl, Nq6, Kq6, hR6⟩ := hQ6
    have N := Fr.app N Nq6
    have E_b4 := E_b4.keep Kq6
    have E_b5 := E_b5.keep Kq6
    have F_value_b5 := F_value_b5.keep Kq6 (ninS ne_b5_b4 nin0)
    have V_bb5 := V_bb5.keep Kq6 (ninS (Ne.symm ne_b4_bb5) nin0)
    have hk := Nat.le_trans hk Kq6.1
    have hk : T6.heap.size ≤ h6.size := by rw [e6]; exact Nat.le_refl _
    obtain ⟨E_b4, F_min_b4, F_max_b4⟩ := hR6
    have O := O.keep Kq6 (allS g_b4 all0)
    refine gb (fun _ k => st6.trans k) ?_
    show G T6 (mkF m 47 #[jv i0, .second, jv i1, .second, jv i2, .second, iv i3, jv (own_min i0 i1), .second, jv (own_max i0 i1), .second, rv d1, .unset, .unset, .unset] [.ref b4])
    refine gb (fun _ k => XS.astore X6.here hx rfl (hb hby at_47) rfl rfl (l' := #[jv i0, .second, jv i1, .second, jv i2, .second, iv i3, jv (own_min i0 i1), .second, jv (own_max i0 i1), .second, rv d1, rv b4, .unset, .unset]) rfl (XS.aload X6.here hx rfl (hb hby at_49) rfl rfl (XS.lload X6.here hx rfl (hb hby at_51) rfl k))) ?_
    show G T6 (mkF m 53 #[jv i0, .second, jv i1, .second, jv i2, .second, iv i3, jv (own_min i0 i1), .second, jv (own_max i0 i1), .second, rv d1, rv b4, .unset, .unset] [.long (own_min i0 i1), .ref b4])
    obtain ⟨cq7, kq7, q7a, q7b, q7c⟩ := isOf hZ e6 E_b4
    obtain ⟨_, _, ⟨T7, Lz7, kz7, nz7⟩, -, X7, ⟨Lc7, hQ7, lq7, yq7, zq7⟩, st7⟩ := X6.virtualBack hx (y := (⟨"com/example/rhadamanthus/rhadamanthus/order/Field", "contains", "(J)Z"⟩ : MethodName)) (z := (⟨"com/example/rhadamanthus/rhadamanthus/order/Field", "contains", "(J)Z"⟩ : MethodName)) hown (mvT hZ (ow hw 47 rfl)) (mvT hZ (ow hw 48 rfl)) (notFace_of_selects (args := #[]) (mvT hZ (ow hw 50 rfl))) (mvT hZ (ow hw 50 rfl)) (mvT hZ (ow hw 49 rfl)) (by decide) (backOf (W := 0) (rm7 l Z a0 hw [] b4 (own_min i0 i1) (own_min i0 i1) (own_max i0 i1) (1 : Int32) h6 n0 O F_min_b4 F_max_b4 (own_in1 (own_irrL _) (own_mm _ _))) hZ (ow hw 51 rfl) (ow hw 12 rfl) (by decide) (by decide)) q7a q7c (g := (mkF m 53 #[jv i0, .second, jv i1, .second, jv i2, .second, iv i3, jv (own_min i0 i1), .second, jv (own_max i0 i1), .second, rv d1, rv b4, .unset, .unset] [.long (own_min i0 i1), .ref b4])) rfl (by rw [hml]; rfl) (Steps.refl _) (argsL := [(.long (own_min i0 i1))]) (rest := []) (lenOf pd_4 rfl) rfl (by show 2 * 0 + _ ≤ _; exact Nat.le_of_eq rfl) (hb hby at_53) (fun _ _ => ⟨rfl, e6, (by decide : 7 + 0 ≤ _), (by decide : 72 + 0 ≤ _)⟩)
    dsimp only [Pt.U, Pt.locs, Pt.cells, Pt.slots] at X7 lq7 yq7 zq7 st7 hQ7
    subst lq7 yq7 zq7
    obtain ⟨rfl, rfl, e7⟩ := hQ7
    try rw [List.append_nil] at X7
    refine gb (fun _ k => st7.trans k) ?_
    show G T7 (mkF m 56 #[jv i0, .second, jv i1, .second, jv i2, .second, iv i3, jv (own_min i0 i1), .second, jv (own_max i0 i1), .second, rv d1, rv b4, .unset, .unset] [.int 1])
    refine gb (fun _ k => XS.ifNo X7.here hx rfl (hb hby at_56) rfl ((if0 _ _).trans (feq (by decide : ¬ ((1 : Int32) = (0 : Int32)))).1) (XS.aload X7.here hx rfl (hb hby at_59) rfl rfl (XS.lload X7.here hx rfl (hb hby at_61) rfl k))) ?_
    show G T7 (mkF m 63 #[jv i0, .second, jv i1, .second, jv i2, .second, iv i3, jv (own_min i0 i1), .second, jv (own_max i0 i1), .second, rv d1, rv b4, .unset, .unset] [.long (own_max i0 i1), .ref b4])
    obtain ⟨cq8, kq8, q8a, q8b, q8c⟩ := isOf hZ e7 E_b4
    obtain ⟨_, _, ⟨T8, Lz8, kz8, nz8⟩, -, X8, ⟨Lc8, hQ8, lq8, yq8, zq8⟩, st8⟩ := X7.virtualBack hx (y := (⟨"com/example/rhadamanthus/rhadamanthus/order/Field", "contains", "(J)Z"⟩ : MethodName)) (z := (⟨"com/example/rhadamanthus/rhadamanthus/order/Field", "contains", "(J)Z"⟩ : MethodName)) hown (mvT hZ (ow hw 47 rfl)) (mvT hZ (ow hw 48 rfl)) (notFace_of_selects (args := #[]) (mvT hZ (ow hw 50 rfl))) (mvT hZ (ow hw 50 rfl)) (mvT hZ (ow hw 49 rfl)) (by decide) (backOf (W := 0) (rm7 l Z a0 hw [] b4 (own_max i0 i1) (own_min i0 i1) (own_max i0 i1) (1 : Int32) h6 n0 O F_min_b4 F_max_b4 (own_in1 (own_mm _ _) (own_irrL _))) hZ (ow hw 51 rfl) (ow hw 12 rfl) (by decide) (by decide)) q8a q8c (g := (mkF m 63 #[jv i0, .second, jv i1, .second, jv i2, .second, iv i3, jv (own_min i0 i1), .second, jv (own_max i0 i1), .second, rv d1, rv b4, .unset, .unset] [.long (own_max i0 i1), .ref b4])) rfl (by rw [hml]; rfl) (Steps.refl _) (argsL := [(.long (own_max i0 i1))]) (rest := []) (lenOf pd_4 rfl) rfl (by show 2 * 0 + _ ≤ _; exact Nat.le_of_eq rfl) (hb hby at_63) (fun _ _ => ⟨rfl, e7, (by decide : 7 + 0 ≤ _), (by decide : 72 + 0 ≤ _)⟩)
    dsimp only [Pt.U, Pt.locs, Pt.cells, Pt.slots] at X8 lq8 yq8 zq8 st8 hQ8
    subst lq8 yq8 zq8
    obtain ⟨rfl, rfl, e8⟩ := hQ8
    try rw [List.append_nil] at X8
    refine gb (fun _ k => st8.trans k) ?_
    show G T8 (mkF m 66 #[jv i0, .second, jv i1, .second, jv i2, .second, iv i3, jv (own_min i0 i1), .second, jv (own_max i0 i1), .second, rv d1, rv b4, .unset, .unset] [.int 1])
    refine gb (fun _ k => XS.ifNo X8.here hx rfl (hb hby at_66) rfl ((if0 _ _).trans (feq (by decide : ¬ ((1 : Int32) = (0 : Int32)))).1) (XS.iconst X8.here hx rfl (hb hby at_69) (XS.goto X8.here hx rfl (pc0 := 70) (pc' := 74) rfl (hb hby at_70) (by decide) (by decide) (XS.istore X8.here hx rfl (hb hby at_74) rfl (l' := #[jv i0, .second, jv i1, .second, jv i2, .second, iv i3, jv (own_min i0 i1), .second, jv (own_max i0 i1), .second, rv d1, rv b4, iv 1, .unset]) rfl (XS.lload X8.here hx rfl (hb hby at_76) rfl k))))) ?_
    show G T8 (mkF m 78 #[jv i0, .second, jv i1, .second, jv i2, .second, iv i3, jv (own_min i0 i1), .second, jv (own_max i0 i1), .second, rv d1, rv b4, iv 1, .unset] [.long (own_min i0 i1)])
    refine gb (X8.ldc2Long hx hown (mvT hZ (ow hw 52 rfl)) (g := (mkF m 78 #[jv i0, .second, jv i1, .second, jv i2, .second, iv i3, jv (own_min i0 i1), .second, jv (own_max i0 i1), .second, rv d1, rv b4, iv 1, .unset] [.long (own_min i0 i1)])) rfl (hb hby at_78)) ?_
    show G T8 (mkF m 81 #[jv i0, .second, jv i1, .second, jv i2, .second, iv i3, jv (own_min i0 i1), .second, jv (own_max i0 i1), .second, rv d1, rv b4, iv 1, .unset] [.long (-9223372036854775808), .long (own_min i0 i1)])
    refine gb (fun _ k => XS.lcmp X8.here hx rfl (hb hby at_81) rfl k) ?_
    show G T8 (mkF m 82 #[jv i0, .second, jv i1, .second, jv i2, .second, iv i3, jv (own_min i0 i1), .second, jv (own_max i0 i1), .second, rv d1, rv b4, iv 1, .unset] [.int (lcmpW (own_min i0 i1) (-9223372036854775808 : Int64))])
    by_cases hc82 : (own_min i0 i1) = (-9223372036854775808 : Int64)
    · skip
      refine gb (fun _ k => XS.ifYes X8.here hx rfl (pc0 := 82) (pc' := 109) rfl (hb hby at_82) rfl ((if0 _ _).trans (teq ((own_eq _ _).mpr hc82)).1) (by decide) (by decide) (XS.lload X8.here hx rfl (hb hby at_109) rfl k)) ?_
      show G T8 (mkF m 111 #[jv i0, .second, jv i1, .second, jv i2, .second, iv i3, jv (own_min i0 i1), .second, jv (own_max i0 i1), .second, rv d1, rv b4, iv 1, .unset] [.long (own_max i0 i1)])
      refine gb (X8.ldc2Long hx hown (mvT hZ (ow hw 53 rfl)) (g := (mkF m 111 #[jv i0, .second, jv i1, .second, jv i2, .second, iv i3, jv (own_min i0 i1), .second, jv (own_max i0 i1), .second, rv d1, rv b4, iv 1, .unset] [.long (own_max i0 i1)])) rfl (hb hby at_111)) ?_
      show G T8 (mkF m 114 #[jv i0, .second, jv i1, .second, jv i2, .second, iv i3, jv (own_min i0 i1), .second, jv (own_max i0 i1), .second, rv d1, rv b4, iv 1, .unset] [.long 9223372036854775807, .long (own_max i0 i1)])
      refine gb (fun _ k => XS.lcmp X8.here hx rfl (hb hby at_114) rfl k) ?_
      show G T8 (mkF m 115 #[jv i0, .second, jv i1, .second, jv i2, .second, iv i3, jv (own_min i0 i1), .second, jv (own_max i0 i1), .second, rv d1, rv b4, iv 1, .unset] [.int (lcmpW (own_max i0 i1) (9223372036854775807 : Int64))])
      by_cases hc115 : (own_max i0 i1) = (9223372036854775807 : Int64)
      · skip
        refine gb (fun _ k => XS.ifYes X8.here hx rfl (pc0 := 115) (pc' := 142) rfl (hb hby at_115) rfl ((if0 _ _).trans (teq ((own_eq _ _).mpr hc115)).1) (by decide) (by decide) (XS.lload X8.here hx rfl (hb hby at_142) rfl (XS.lload X8.here hx rfl (hb hby at_144) rfl (XS.lload X8.here hx rfl (hb hby at_146) rfl k)))) ?_
        show G T8 (mkF m 148 #[jv i0, .second, jv i1, .second, jv i2, .second, iv i3, jv (own_min i0 i1), .second, jv (own_max i0 i1), .second, rv d1, rv b4, iv 1, .unset] [.long (own_max i0 i1), .long i2, .long (own_min i0 i1)])
        obtain ⟨_, _, ⟨T9, Lz9, kz9, nz9⟩, -, X9, ⟨Lc9, hQ9, lq9, yq9, zq9⟩, st9⟩ := Jvm.LawKit.callS X8 hx (y := (⟨"java/lang/Math", "min", "(JJ)J"⟩ : MethodName)) hown (mvT hZ (ow hw 0 rfl)) (mvT hZ (ow hw 1 rfl)) (mvT hZ (ow hw 2 rfl)) (mvT hZ (ow hw 3 rfl)) (by decide) (backOf (W := 2) (rm1 l Z a0 hw [] i2 (own_max i0 i1) h6 n0 O) hZ (ow hw 3 rfl) (ow hw 2 rfl) (by decide) (by decide)) (g := (mkF m 148 #[jv i0, .second, jv i1, .second, jv i2, .second, iv i3, jv (own_min i0 i1), .second, jv (own_max i0 i1), .second, rv d1, rv b4, iv 1, .unset] [.long (own_max i0 i1), .long i2, .long (own_min i0 i1)])) rfl (by rw [hml]; rfl) (argsL := [(.long i2), (.long (own_max i0 i1))]) (rest := [(.long (own_min i0 i1))]) (lenOf pd_2 rfl) rfl (by show 2 * 0 + _ ≤ _; exact Nat.le_of_eq rfl) (hb hby at_148) (fun _ _ => ⟨rfl, e8, (by decide : 7 + 0 ≤ _), (by decide : 72 + 0 ≤ _)⟩)
        dsimp only [Pt.U, Pt.locs, Pt.cells, Pt.slots] at X9 lq9 yq9 zq9 st9 hQ9
        subst lq9 yq9 zq9
        obtain ⟨rfl, rfl, e9⟩ := hQ9
        try rw [List.append_nil] at X9
        refine gb st9 ?_
        show G T9 (mkF m 151 #[jv i0, .second, jv i1, .second, jv i2, .second, iv i3, jv (own_min i0 i1), .second, jv (own_max i0 i1), .second, rv d1, rv b4, iv 1, .unset] [.long (own_min i2 (own_max i0 i1)), .long (own_min i0 i1)])
        obtain ⟨_, _, ⟨T10, Lz10, kz10, nz10⟩, -, X10, ⟨Lc10, hQ10, lq10, yq10, zq10⟩, st10⟩ := Jvm.LawKit.callS X9 hx (y := (⟨"java/lang/Math", "max", "(JJ)J"⟩ : MethodName)) hown (mvT hZ (ow hw 4 rfl)) (mvT hZ (ow hw 5 rfl)) (mvT hZ (ow hw 2 rfl)) (mvT hZ (ow hw 6 rfl)) (by decide) (backOf (W := 0) (rm2 l Z a0 hw [] (own_min i0 i1) (own_min i2 (own_max i0 i1)) h6 n0 O) hZ (ow hw 6 rfl) (ow hw 2 rfl) (by decide) (by decide)) (g := (mkF m 151 #[jv i0, .second, jv i1, .second, jv i2, .second, iv i3, jv (own_min i0 i1), .second, jv (own_max i0 i1), .second, rv d1, rv b4, iv 1, .unset] [.long (own_min i2 (own_max i0 i1)), .long (own_min i0 i1)])) rfl (by rw [hml]; rfl) (argsL := [(.long (own_min i0 i1)), (.long (own_min i2 (own_max i0 i1)))]) (rest := []) (lenOf pd_2 rfl) rfl (by show 2 * 0 + _ ≤ _; exact Nat.le_of_eq rfl) (hb hby at_151) (fun _ _ => ⟨rfl, e9, (by decide : 7 + 0 ≤ _), (by decide : 72 + 0 ≤ _)⟩)
        dsimp only [Pt.U, Pt.locs, Pt.cells, Pt.slots] at X10 lq10 yq10 zq10 st10 hQ10
        subst lq10 yq10 zq10
        obtain ⟨rfl, rfl, e10⟩ := hQ10
        try rw [List.append_nil] at X10
        refine gb st10 ?_
        show G T10 (mkF m 154 #[jv i0, .second, jv i1, .second, jv i2, .second, iv i3, jv (own_min i0 i1), .second, jv (own_max i0 i1), .second, rv d1, rv b4, iv 1, .unset] [.long (own_max (own_min i0 i1) (own_min i2 (own_max i0 i1)))])
        refine gb (fun _ k => XS.lload X10.here hx rfl (hb hby at_154) rfl (XS.lcmp X10.here hx rfl (hb hby at_156) rfl k)) ?_
        show G T10 (mkF m 157 #[jv i0, .second, jv i1, .second, jv i2, .second, iv i3, jv (own_min i0 i1), .second, jv (own_max i0 i1), .second, rv d1, rv b4, iv 1, .unset] [.int (lcmpW (own_max (own_min i0 i1) (own_min i2 (own_max i0 i1))) i2)])
        by_cases hc157 : (own_max (own_min i0 i1) (own_min i2 (own_max i0 i1))) = i2
        · skip
          refine gb (fun _ k => XS.ifNo X10.here hx rfl (hb hby at_157) rfl ((if0 _ _).trans (teq ((own_eq _ _).mpr hc157)).2) (XS.iconst X10.here hx rfl (hb hby at_160) (XS.goto X10.here hx rfl (pc0 := 161) (pc' := 165) rfl (hb hby at_161) (by decide) (by decide) (XS.istore X10.here hx rfl (hb hby at_165) rfl (l' := #[jv i0, .second, jv i1, .second, jv i2, .second, iv i3, jv (own_min i0 i1), .second, jv (own_max i0 i1), .second, rv d1, rv b4, iv 1, iv 1]) rfl (XS.iload X10.here hx rfl (hb hby at_167) rfl (XS.ifNo X10.here hx rfl (hb hby at_169) rfl ((if0 _ _).trans (feq (by decide : ¬ ((1 : Int32) = (0 : Int32)))).1) k)))))) ?_
          show G T10 (mkF m 172 #[jv i0, .second, jv i1, .second, jv i2, .second, iv i3, jv (own_min i0 i1), .second, jv (own_max i0 i1), .second, rv d1, rv b4, iv 1, iv 1] [])
          refine gb (fun _ k => XS.aload X10.here hx rfl (hb hby at_172) rfl rfl (XS.lload X10.here hx rfl (hb hby at_174) rfl k)) ?_
          show G T10 (mkF m 176 #[jv i0, .second, jv i1, .second, jv i2, .second, iv i3, jv (own_min i0 i1), .second, jv (own_max i0 i1), .second, rv d1, rv b4, iv 1, iv 1] [.long i2, .ref b4])
          obtain ⟨cq11, kq11, q11a, q11b, q11c⟩ := isOf hZ e10 E_b4
          obtain ⟨_, _, ⟨T11, Lz11, kz11, nz11⟩, -, X11, ⟨Lc11, hQ11, lq11, yq11, zq11⟩, st11⟩ := X10.virtualBack hx (y := (⟨"com/example/rhadamanthus/rhadamanthus/order/Field", "contains", "(J)Z"⟩ : MethodName)) (z := (⟨"com/example/rhadamanthus/rhadamanthus/order/Field", "contains", "(J)Z"⟩ : MethodName)) hown (mvT hZ (ow hw 47 rfl)) (mvT hZ (ow hw 48 rfl)) (notFace_of_selects (args := #[]) (mvT hZ (ow hw 50 rfl))) (mvT hZ (ow hw 50 rfl)) (mvT hZ (ow hw 49 rfl)) (by decide) (backOf (W := 0) (rm7 l Z a0 hw [] b4 i2 (own_min i0 i1) (own_max i0 i1) (1 : Int32) h6 n0 O F_min_b4 F_max_b4 (own_cl1 (own_mm _ _) hc157)) hZ (ow hw 51 rfl) (ow hw 12 rfl) (by decide) (by decide)) q11a q11c (g := (mkF m 176 #[jv i0, .second, jv i1, .second, jv i2, .second, iv i3, jv (own_min i0 i1), .second, jv (own_max i0 i1), .second, rv d1, rv b4, iv 1, iv 1] [.long i2, .ref b4])) rfl (by rw [hml]; rfl) (Steps.refl _) (argsL := [(.long i2)]) (rest := []) (lenOf pd_4 rfl) rfl (by show 2 * 0 + _ ≤ _; exact Nat.le_of_eq rfl) (hb hby at_176) (fun _ _ => ⟨rfl, e10, (by decide : 7 + 0 ≤ _), (by decide : 72 + 0 ≤ _)⟩)
          dsimp only [Pt.U, Pt.locs, Pt.cells, Pt.slots] at X11 lq11 yq11 zq11 st11 hQ11
          subst lq11 yq11 zq11
          obtain ⟨rfl, rfl, e11⟩ := hQ11
          try rw [List.append_nil] at X11
          refine gb (fun _ k => st11.trans k) ?_
          show G T11 (mkF m 179 #[jv i0, .second, jv i1, .second, jv i2, .second, iv i3, jv (own_min i0 i1), .second, jv (own_max i0 i1), .second, rv d1, rv b4, iv 1, iv 1] [.int 1])
          refine gb (fun _ k => XS.iload X11.here hx rfl (hb hby at_179) rfl (XS.icmpNo X11.here hx rfl (hb hby at_181) rfl (teq (by decide : (1 : Int32) = (1 : Int32))).2 (XS.iconst X11.here hx rfl (hb hby at_184) (XS.goto X11.here hx rfl (pc0 := 185) (pc' := 189) rfl (hb hby at_185) (by decide) (by decide) (XS.istore X11.here hx rfl (hb hby at_189) rfl (l' := #[jv i0, .second, jv i1, .second, jv i2, .second, iv i3, jv (own_min i0 i1), .second, jv (own_max i0 i1), .second, rv d1, rv b4, iv 1, iv 1]) rfl (XS.iload X11.here hx rfl (hb hby at_191) rfl k)))))) ?_
          show G T11 (mkF m 193 #[jv i0, .second, jv i1, .second, jv i2, .second, iv i3, jv (own_min i0 i1), .second, jv (own_max i0 i1), .second, rv d1, rv b4, iv 1, iv 1] [.int 1])
          exact go X11 hS (by rw [e11]; exact hk) (v := (some (.int (1 : Int32)))) (fun h => by rw [Bd.returns] at h; cases h) (fun fs hr => retOut X11 hx Bd.returns rfl (Or.inl ⟨rfl, by simp, _, rfl⟩) (hb hby at_193) hr) (⟨rfl, N⟩) (by decide) (by decide)
        · skip
          refine gb (fun _ k => XS.ifYes X10.here hx rfl (pc0 := 157) (pc' := 164) rfl (hb hby at_157) rfl ((if0 _ _).trans (feq (fun q => hc157 ((own_eq _ _).mp q))).2) (by decide) (by decide) (XS.iconst X10.here hx rfl (hb hby at_164) (XS.istore X10.here hx rfl (hb hby at_165) rfl (l' := #[jv i0, .second, jv i1, .second, jv i2, .second, iv i3, jv (own_min i0 i1), .second, jv (own_max i0 i1), .second, rv d1, rv b4, iv 1, iv 0]) rfl (XS.iload X10.here hx rfl (hb hby at_167) rfl (XS.ifNo X10.here hx rfl (hb hby at_169) rfl ((if0 _ _).trans (feq (by decide : ¬ ((1 : Int32) = (0 : Int32)))).1) (XS.aload X10.here hx rfl (hb hby at_172) rfl rfl k)))))) ?_
          show G T10 (mkF m 174 #[jv i0, .second, jv i1, .second, jv i2, .second, iv i3, jv (own_min i0 i1), .second, jv (own_max i0 i1), .second, rv d1, rv b4, iv 1, iv 0] [.ref b4])
          refine gb (fun _ k => XS.lload X10.here hx rfl (hb hby at_174) rfl k) ?_
          show G T10 (mkF m 176 #[jv i0, .second, jv i1, .second, jv i2, .second, iv i3, jv (own_min i0 i1), .second, jv (own_max i0 i1), .second, rv d1, rv b4, iv 1, iv 0] [.long i2, .ref b4])
          obtain ⟨cq12, kq12, q12a, q12b, q12c⟩ := isOf hZ e10 E_b4
          obtain ⟨_, _, ⟨T12, Lz12, kz12, nz12⟩, -, X12, ⟨Lc12, hQ12, lq12, yq12, zq12⟩, st12⟩ := X10.virtualBack hx (y := (⟨"com/example/rhadamanthus/rhadamanthus/order/Field", "contains", "(J)Z"⟩ : MethodName)) (z := (⟨"com/example/rhadamanthus/rhadamanthus/order/Field", "contains", "(J)Z"⟩ : MethodName)) hown (mvT hZ (ow hw 47 rfl)) (mvT hZ (ow hw 48 rfl)) (notFace_of_selects (args := #[]) (mvT hZ (ow hw 50 rfl))) (mvT hZ (ow hw 50 rfl)) (mvT hZ (ow hw 49 rfl)) (by decide) (backOf (W := 0) (rm7 l Z a0 hw [] b4 i2 (own_min i0 i1) (own_max i0 i1) (0 : Int32) h6 n0 O F_min_b4 F_max_b4 (own_cl0 hc157)) hZ (ow hw 51 rfl) (ow hw 12 rfl) (by decide) (by decide)) q12a q12c (g := (mkF m 176 #[jv i0, .second, jv i1, .second, jv i2, .second, iv i3, jv (own_min i0 i1), .second, jv (own_max i0 i1), .second, rv d1, rv b4, iv 1, iv 0] [.long i2, .ref b4])) rfl (by rw [hml]; rfl) (Steps.refl _) (argsL := [(.long i2)]) (rest := []) (lenOf pd_4 rfl) rfl (by show 2 * 0 + _ ≤ _; exact Nat.le_of_eq rfl) (hb hby at_176) (fun _ _ => ⟨rfl, e10, (by decide : 7 + 0 ≤ _), (by decide : 72 + 0 ≤ _)⟩)
          dsimp only [Pt.U, Pt.locs, Pt.cells, Pt.slots] at X12 lq12 yq12 zq12 st12 hQ12
          subst lq12 yq12 zq12
          obtain ⟨rfl, rfl, e12⟩ := hQ12
          try rw [List.append_nil] at X12
          refine gb (fun _ k => st12.trans k) ?_
          show G T12 (mkF m 179 #[jv i0, .second, jv i1, .second, jv i2, .second, iv i3, jv (own_min i0 i1), .second, jv (own_max i0 i1), .second, rv d1, rv b4, iv 1, iv 0] [.int 0])
          refine gb (fun _ k => XS.iload X12.here hx rfl (hb hby at_179) rfl (XS.icmpNo X12.here hx rfl (hb hby at_181) rfl (teq (by decide : (0 : Int32) = (0 : Int32))).2 (XS.iconst X12.here hx rfl (hb hby at_184) (XS.goto X12.here hx rfl (pc0 := 185) (pc' := 189) rfl (hb hby at_185) (by decide) (by decide) (XS.istore X12.here hx rfl (hb hby at_189) rfl (l' := #[jv i0, .second, jv i1, .second, jv i2, .second, iv i3, jv (own_min i0 i1), .second, jv (own_max i0 i1), .second, rv d1, rv b4, iv 1, iv 0]) rfl (XS.iload X12.here hx rfl (hb hby at_191) rfl k)))))) ?_
          show G T12 (mkF m 193 #[jv i0, .second, jv i1, .second, jv i2, .second, iv i3, jv (own_min i0 i1), .second, jv (own_max i0 i1), .second, rv d1, rv b4, iv 1, iv 0] [.int 1])
          exact go X12 hS (by rw [e12]; exact hk) (v := (some (.int (1 : Int32)))) (fun h => by rw [Bd.returns] at h; cases h) (fun fs hr => retOut X12 hx Bd.returns rfl (Or.inl ⟨rfl, by simp, _, rfl⟩) (hb hby at_193) hr) (⟨rfl, N⟩) (by decide) (by decide)
      · skip
        refine gb (fun _ k => XS.ifNo X8.here hx rfl (hb hby at_115) rfl ((if0 _ _).trans (feq (fun q => hc115 ((own_eq _ _).mp q))).1) (XS.iload X8.here hx rfl (hb hby at_118) rfl (XS.ifNo X8.here hx rfl (hb hby at_120) rfl ((if0 _ _).trans (feq (by decide : ¬ ((1 : Int32) = (0 : Int32)))).1) (XS.aload X8.here hx rfl (hb hby at_123) rfl rfl (XS.lload X8.here hx rfl (hb hby at_125) rfl (XS.lconst X8.here hx rfl (hb hby at_127) k)))))) ?_
        show G T8 (mkF m 128 #[jv i0, .second, jv i1, .second, jv i2, .second, iv i3, jv (own_min i0 i1), .second, jv (own_max i0 i1), .second, rv d1, rv b4, iv 1, .unset] [.long 1, .long (own_max i0 i1), .ref b4])
        refine gb (fun _ k => XS.ladd X8.here hx rfl (hb hby at_128) rfl k) ?_
        show G T8 (mkF m 129 #[jv i0, .second, jv i1, .second, jv i2, .second, iv i3, jv (own_min i0 i1), .second, jv (own_max i0 i1), .second, rv d1, rv b4, iv 1, .unset] [.long ((own_max i0 i1) + (1 : Int64)), .ref b4])
        obtain ⟨cq13, kq13, q13a, q13b, q13c⟩ := isOf hZ e8 E_b4
        obtain ⟨_, _, ⟨T13, Lz13, kz13, nz13⟩, -, X13, ⟨Lc13, hQ13, lq13, yq13, zq13⟩, st13⟩ := X8.virtualBack hx (y := (⟨"com/example/rhadamanthus/rhadamanthus/order/Field", "contains", "(J)Z"⟩ : MethodName)) (z := (⟨"com/example/rhadamanthus/rhadamanthus/order/Field", "contains", "(J)Z"⟩ : MethodName)) hown (mvT hZ (ow hw 47 rfl)) (mvT hZ (ow hw 48 rfl)) (notFace_of_selects (args := #[]) (mvT hZ (ow hw 50 rfl))) (mvT hZ (ow hw 50 rfl)) (mvT hZ (ow hw 49 rfl)) (by decide) (backOf (W := 0) (rm7 l Z a0 hw [] b4 ((own_max i0 i1) + (1 : Int64)) (own_min i0 i1) (own_max i0 i1) (0 : Int32) h6 n0 O F_min_b4 F_max_b4 (own_next hc115)) hZ (ow hw 51 rfl) (ow hw 12 rfl) (by decide) (by decide)) q13a q13c (g := (mkF m 129 #[jv i0, .second, jv i1, .second, jv i2, .second, iv i3, jv (own_min i0 i1), .second, jv (own_max i0 i1), .second, rv d1, rv b4, iv 1, .unset] [.long ((own_max i0 i1) + (1 : Int64)), .ref b4])) rfl (by rw [hml]; rfl) (Steps.refl _) (argsL := [(.long ((own_max i0 i1) + (1 : Int64)))]) (rest := []) (lenOf pd_4 rfl) rfl (by show 2 * 0 + _ ≤ _; exact Nat.le_of_eq rfl) (hb hby at_129) (fun _ _ => ⟨rfl, e8, (by decide : 7 + 0 ≤ _), (by decide : 72 + 0 ≤ _)⟩)
        dsimp only [Pt.U, Pt.locs, Pt.cells, Pt.slots] at X13 lq13 yq13 zq13 st13 hQ13
        subst lq13 yq13 zq13
        obtain ⟨rfl, rfl, e13⟩ := hQ13
        try rw [List.append_nil] at X13
        refine gb (fun _ k => st13.trans k) ?_
        show G T13 (mkF m 132 #[jv i0, .second, jv i1, .second, jv i2, .second, iv i3, jv (own_min i0 i1), .second, jv (own_max i0 i1), .second, rv d1, rv b4, iv 1, .unset] [.int 0])
        refine gb (fun _ k => XS.ifNo X13.here hx rfl (hb hby at_132) rfl ((if0 _ _).trans (teq (by decide : (0 : Int32) = (0 : Int32))).2) (XS.iconst X13.here hx rfl (hb hby at_135) (XS.goto X13.here hx rfl (pc0 := 136) (pc' := 140) rfl (hb hby at_136) (by decide) (by decide) (XS.istore X13.here hx rfl (hb hby at_140) rfl (l' := #[jv i0, .second, jv i1, .second, jv i2, .second, iv i3, jv (own_min i0 i1), .second, jv (own_max i0 i1), .second, rv d1, rv b4, iv 1, .unset]) rfl (XS.lload X13.here hx rfl (hb hby at_142) rfl (XS.lload X13.here hx rfl (hb hby at_144) rfl k)))))) ?_
        show G T13 (mkF m 146 #[jv i0, .second, jv i1, .second, jv i2, .second, iv i3, jv (own_min i0 i1), .second, jv (own_max i0 i1), .second, rv d1, rv b4, iv 1, .unset] [.long i2, .long (own_min i0 i1)])
        refine gb (fun _ k => XS.lload X13.here hx rfl (hb hby at_146) rfl k) ?_
        show G T13 (mkF m 148 #[jv i0, .second, jv i1, .second, jv i2, .second, iv i3, jv (own_min i0 i1), .second, jv (own_max i0 i1), .second, rv d1, rv b4, iv 1, .unset] [.long (own_max i0 i1), .long i2, .long (own_min i0 i1)])
        obtain ⟨_, _, ⟨T14, Lz14, kz14, nz14⟩, -, X14, ⟨Lc14, hQ14, lq14, yq14, zq14⟩, st14⟩ := Jvm.LawKit.callS X13 hx (y := (⟨"java/lang/Math", "min", "(JJ)J"⟩ : MethodName)) hown (mvT hZ (ow hw 0 rfl)) (mvT hZ (ow hw 1 rfl)) (mvT hZ (ow hw 2 rfl)) (mvT hZ (ow hw 3 rfl)) (by decide) (backOf (W := 2) (rm1 l Z a0 hw [] i2 (own_max i0 i1) h6 n0 O) hZ (ow hw 3 rfl) (ow hw 2 rfl) (by decide) (by decide)) (g := (mkF m 148 #[jv i0, .second, jv i1, .second, jv i2, .second, iv i3, jv (own_min i0 i1), .second, jv (own_max i0 i1), .second, rv d1, rv b4, iv 1, .unset] [.long (own_max i0 i1), .long i2, .long (own_min i0 i1)])) rfl (by rw [hml]; rfl) (argsL := [(.long i2), (.long (own_max i0 i1))]) (rest := [(.long (own_min i0 i1))]) (lenOf pd_2 rfl) rfl (by show 2 * 0 + _ ≤ _; exact Nat.le_of_eq rfl) (hb hby at_148) (fun _ _ => ⟨rfl, e13, (by decide : 7 + 0 ≤ _), (by decide : 72 + 0 ≤ _)⟩)
        dsimp only [Pt.U, Pt.locs, Pt.cells, Pt.slots] at X14 lq14 yq14 zq14 st14 hQ14
        subst lq14 yq14 zq14
        obtain ⟨rfl, rfl, e14⟩ := hQ14
        try rw [List.append_nil] at X14
        refine gb st14 ?_
        show G T14 (mkF m 151 #[jv i0, .second, jv i1, .second, jv i2, .second, iv i3, jv (own_min i0 i1), .second, jv (own_max i0 i1), .second, rv d1, rv b4, iv 1, .unset] [.long (own_min i2 (own_max i0 i1)), .long (own_min i0 i1)])
        obtain ⟨_, _, ⟨T15, Lz15, kz15, nz15⟩, -, X15, ⟨Lc15, hQ15, lq15, yq15, zq15⟩, st15⟩ := Jvm.LawKit.callS X14 hx (y := (⟨"java/lang/Math", "max", "(JJ)J"⟩ : MethodName)) hown (mvT hZ (ow hw 4 rfl)) (mvT hZ (ow hw 5 rfl)) (mvT hZ (ow hw 2 rfl)) (mvT hZ (ow hw 6 rfl)) (by decide) (backOf (W := 0) (rm2 l Z a0 hw [] (own_min i0 i1) (own_min i2 (own_max i0 i1)) h6 n0 O) hZ (ow hw 6 rfl) (ow hw 2 rfl) (by decide) (by decide)) (g := (mkF m 151 #[jv i0, .second, jv i1, .second, jv i2, .second, iv i3, jv (own_min i0 i1), .second, jv (own_max i0 i1), .second, rv d1, rv b4, iv 1, .unset] [.long (own_min i2 (own_max i0 i1)), .long (own_min i0 i1)])) rfl (by rw [hml]; rfl) (argsL := [(.long (own_min i0 i1)), (.long (own_min i2 (own_max i0 i1)))]) (rest := []) (lenOf pd_2 rfl) rfl (by show 2 * 0 + _ ≤ _; exact Nat.le_of_eq rfl) (hb hby at_151) (fun _ _ => ⟨rfl, e14, (by decide : 7 + 0 ≤ _), (by decide : 72 + 0 ≤ _)⟩)
        dsimp only [Pt.U, Pt.locs, Pt.cells, Pt.slots] at X15 lq15 yq15 zq15 st15 hQ15
        subst lq15 yq15 zq15
        obtain ⟨rfl, rfl, e15⟩ := hQ15
        try rw [List.append_nil] at X15
        refine gb st15 ?_
        show G T15 (mkF m 154 #[jv i0, .second, jv i1, .second, jv i2, .second, iv i3, jv (own_min i0 i1), .second, jv (own_max i0 i1), .second, rv d1, rv b4, iv 1, .unset] [.long (own_max (own_min i0 i1) (own_min i2 (own_max i0 i1)))])
        refine gb (fun _ k => XS.lload X15.here hx rfl (hb hby at_154) rfl (XS.lcmp X15.here hx rfl (hb hby at_156) rfl k)) ?_
        show G T15 (mkF m 157 #[jv i0, .second, jv i1, .second, jv i2, .second, iv i3, jv (own_min i0 i1), .second, jv (own_max i0 i1), .second, rv d1, rv b4, iv 1, .unset] [.int (lcmpW (own_max (own_min i0 i1) (own_min i2 (own_max i0 i1))) i2)])
        by_cases hc157 : (own_max (own_min i0 i1) (own_min i2 (own_max i0 i1))) = i2
        · skip
          refine gb (fun _ k => XS.ifNo X15.here hx rfl (hb hby at_157) rfl ((if0 _ _).trans (teq ((own_eq _ _).mpr hc157)).2) (XS.iconst X15.here hx rfl (hb hby at_160) (XS.goto X15.here hx rfl (pc0 := 161) (pc' := 165) rfl (hb hby at_161) (by decide) (by decide) (XS.istore X15.here hx rfl (hb hby at_165) rfl (l' := #[jv i0, .second, jv i1, .second, jv i2, .second, iv i3, jv (own_min i0 i1), .second, jv (own_max i0 i1), .second, rv d1, rv b4, iv 1, iv 1]) rfl (XS.iload X15.here hx rfl (hb hby at_167) rfl (XS.ifNo X15.here hx rfl (hb hby at_169) rfl ((if0 _ _).trans (feq (by decide : ¬ ((1 : Int32) = (0 : Int32)))).1) k)))))) ?_
          show G T15 (mkF m 172 #[jv i0, .second, jv i1, .second, jv i2, .second, iv i3, jv (own_min i0 i1), .second, jv (own_max i0 i1), .second, rv d1, rv b4, iv 1, iv 1] [])
          refine gb (fun _ k => XS.aload X15.here hx rfl (hb hby at_172) rfl rfl (XS.lload X15.here hx rfl (hb hby at_174) rfl k)) ?_
          show G T15 (mkF m 176 #[jv i0, .second, jv i1, .second, jv i2, .second, iv i3, jv (own_min i0 i1), .second, jv (own_max i0 i1), .second, rv d1, rv b4, iv 1, iv 1] [.long i2, .ref b4])
          obtain ⟨cq16, kq16, q16a, q16b, q16c⟩ := isOf hZ e15 E_b4
          obtain ⟨_, _, ⟨T16, Lz16, kz16, nz16⟩, -, X16, ⟨Lc16, hQ16, lq16, yq16, zq16⟩, st16⟩ := X15.virtualBack hx (y := (⟨"com/example/rhadamanthus/rhadamanthus/order/Field", "contains", "(J)Z"⟩ : MethodName)) (z := (⟨"com/example/rhadamanthus/rhadamanthus/order/Field", "contains", "(J)Z"⟩ : MethodName)) hown (mvT hZ (ow hw 47 rfl)) (mvT hZ (ow hw 48 rfl)) (notFace_of_selects (args := #[]) (mvT hZ (ow hw 50 rfl))) (mvT hZ (ow hw 50 rfl)) (mvT hZ (ow hw 49 rfl)) (by decide) (backOf (W := 0) (rm7 l Z a0 hw [] b4 i2 (own_min i0 i1) (own_max i0 i1) (1 : Int32) h6 n0 O F_min_b4 F_max_b4 (own_cl1 (own_mm _ _) hc157)) hZ (ow hw 51 rfl) (ow hw 12 rfl) (by decide) (by decide)) q16a q16c (g := (mkF m 176 #[jv i0, .second, jv i1, .second, jv i2, .second, iv i3, jv (own_min i0 i1), .second, jv (own_max i0 i1), .second, rv d1, rv b4, iv 1, iv 1] [.long i2, .ref b4])) rfl (by rw [hml]; rfl) (Steps.refl _) (argsL := [(.long i2)]) (rest := []) (lenOf pd_4 rfl) rfl (by show 2 * 0 + _ ≤ _; exact Nat.le_of_eq rfl) (hb hby at_176) (fun _ _ => ⟨rfl, e15, (by decide : 7 + 0 ≤ _), (by decide : 72 + 0 ≤ _)⟩)
          dsimp only [Pt.U, Pt.locs, Pt.cells, Pt.slots] at X16 lq16 yq16 zq16 st16 hQ16
          subst lq16 yq16 zq16
          obtain ⟨rfl, rfl, e16⟩ := hQ16
          try rw [List.append_nil] at X16
          refine gb (fun _ k => st16.trans k) ?_
          show G T16 (mkF m 179 #[jv i0, .second, jv i1, .second, jv i2, .second, iv i3, jv (own_min i0 i1), .second, jv (own_max i0 i1), .second, rv d1, rv b4, iv 1, iv 1] [.int 1])
          refine gb (fun _ k => XS.iload X16.here hx rfl (hb hby at_179) rfl (XS.icmpNo X16.here hx rfl (hb hby at_181) rfl (teq (by decide : (1 : Int32) = (1 : Int32))).2 (XS.iconst X16.here hx rfl (hb hby at_184) (XS.goto X16.here hx rfl (pc0 := 185) (pc' := 189) rfl (hb hby at_185) (by decide) (by decide) (XS.istore X16.here hx rfl (hb hby at_189) rfl (l' := #[jv i0, .second, jv i1, .second, jv i2, .second, iv i3, jv (own_min i0 i1), .second, jv (own_max i0 i1), .second, rv d1, rv b4, iv 1, iv 1]) rfl (XS.iload X16.here hx rfl (hb hby at_191) rfl k)))))) ?_
          show G T16 (mkF m 193 #[jv i0, .second, jv i1, .second, jv i2, .second, iv i3, jv (own_min i0 i1), .second, jv (own_max i0 i1), .second, rv d1, rv b4, iv 1, iv 1] [.int 1])
          exact go X16 hS (by rw [e16]; exact hk) (v := (some (.int (1 : Int32)))) (fun h => by rw [Bd.returns] at h; cases h) (fun fs hr => retOut X16 hx Bd.returns rfl (Or.inl ⟨rfl, by simp, _, rfl⟩) (hb hby at_193) hr) (⟨rfl, N⟩) (by decide) (by decide)
        · skip
          refine gb (fun _ k => XS.ifYes X15.here hx rfl (pc0 := 157) (pc' := 164) rfl (hb hby at_157) rfl ((if0 _ _).trans (feq (fun q => hc157 ((own_eq _ _).mp q))).2) (by decide) (by decide) (XS.iconst X15.here hx rfl (hb hby at_164) (XS.istore X15.here hx rfl (hb hby at_165) rfl (l' := #[jv i0, .second, jv i1, .second, jv i2, .second, iv i3, jv (own_min i0 i1), .second, jv (own_max i0 i1), .second, rv d1, rv b4, iv 1, iv 0]) rfl (XS.iload X15.here hx rfl (hb hby at_167) rfl (XS.ifNo X15.here hx rfl (hb hby at_169) rfl ((if0 _ _).trans (feq (by decide : ¬ ((1 : Int32) = (0 : Int32)))).1) (XS.aload X15.here hx rfl (hb hby at_172) rfl rfl k)))))) ?_
          show G T15 (mkF m 174 #[jv i0, .second, jv i1, .second, jv i2, .second, iv i3, jv (own_min i0 i1), .second, jv (own_max i0 i1), .second, rv d1, rv b4, iv 1, iv 0] [.ref b4])
          refine gb (fun _ k => XS.lload X15.here hx rfl (hb hby at_174) rfl k) ?_
          show G T15 (mkF m 176 #[jv i0, .second, jv i1, .second, jv i2, .second, iv i3, jv (own_min i0 i1), .second, jv (own_max i0 i1), .second, rv d1, rv b4, iv 1, iv 0] [.long i2, .ref b4])
          obtain ⟨cq17, kq17, q17a, q17b, q17c⟩ := isOf hZ e15 E_b4
          obtain ⟨_, _, ⟨T17, Lz17, kz17, nz17⟩, -, X17, ⟨Lc17, hQ17, lq17, yq17, zq17⟩, st17⟩ := X15.virtualBack hx (y := (⟨"com/example/rhadamanthus/rhadamanthus/order/Field", "contains", "(J)Z"⟩ : MethodName)) (z := (⟨"com/example/rhadamanthus/rhadamanthus/order/Field", "contains", "(J)Z"⟩ : MethodName)) hown (mvT hZ (ow hw 47 rfl)) (mvT hZ (ow hw 48 rfl)) (notFace_of_selects (args := #[]) (mvT hZ (ow hw 50 rfl))) (mvT hZ (ow hw 50 rfl)) (mvT hZ (ow hw 49 rfl)) (by decide) (backOf (W := 0) (rm7 l Z a0 hw [] b4 i2 (own_min i0 i1) (own_max i0 i1) (0 : Int32) h6 n0 O F_min_b4 F_max_b4 (own_cl0 hc157)) hZ (ow hw 51 rfl) (ow hw 12 rfl) (by decide) (by decide)) q17a q17c (g := (mkF m 176 #[jv i0, .second, jv i1, .second, jv i2, .second, iv i3, jv (own_min i0 i1), .second, jv (own_max i0 i1), .second, rv d1, rv b4, iv 1, iv 0] [.long i2, .ref b4])) rfl (by rw [hml]; rfl) (Steps.refl _) (argsL := [(.long i2)]) (rest := []) (lenOf pd_4 rfl) rfl (by show 2 * 0 + _ ≤ _; exact Nat.le_of_eq rfl) (hb hby at_176) (fun _ _ => ⟨rfl, e15, (by decide : 7 + 0 ≤ _), (by decide : 72 + 0 ≤ _)⟩)
          dsimp only [Pt.U, Pt.locs, Pt.cells, Pt.slots] at X17 lq17 yq17 zq17 st17 hQ17
          subst lq17 yq17 zq17
          obtain ⟨rfl, rfl, e17⟩ := hQ17
          try rw [List.append_nil] at X17
          refine gb (fun _ k => st17.trans k) ?_
          show G T17 (mkF m 179 #[jv i0, .second, jv i1, .second, jv i2, .second, iv i3, jv (own_min i0 i1), .second, jv (own_max i0 i1), .second, rv d1, rv b4, iv 1, iv 0] [.int 0])
          refine gb (fun _ k => XS.iload X17.here hx rfl (hb hby at_179) rfl (XS.icmpNo X17.here hx rfl (hb hby at_181) rfl (teq (by decide : (0 : Int32) = (0 : Int32))).2 (XS.iconst X17.here hx rfl (hb hby at_184) (XS.goto X17.here hx rfl (pc0 := 185) (pc' := 189) rfl (hb hby at_185) (by decide) (by decide) (XS.istore X17.here hx rfl (hb hby at_189) rfl (l' := #[jv i0, .second, jv i1, .second, jv i2, .second, iv i3, jv (own_min i0 i1), .second, jv (own_max i0 i1), .second, rv d1, rv b4, iv 1, iv 0]) rfl (XS.iload X17.here hx rfl (hb hby at_191) rfl k)))))) ?_
          show G T17 (mkF m 193 #[jv i0, .second, jv i1, .second, jv i2, .second, iv i3, jv (own_min i0 i1), .second, jv (own_max i0 i1), .second, rv d1, rv b4, iv 1, iv 0] [.int 1])
          exact go X17 hS (by rw [e17]; exact hk) (v := (some (.int (1 : Int32)))) (fun h => by rw [Bd.returns] at h; cases h) (fun fs hr => retOut X17 hx Bd.returns rfl (Or.inl ⟨rfl, by simp, _, rfl⟩) (hb hby at_193) hr) (⟨rfl, N⟩) (by decide) (by decide)
    · skip
      refine gb (fun _ k => XS.ifNo X8.here hx rfl (hb hby at_82) rfl ((if0 _ _).trans (feq (fun q => hc82 ((own_eq _ _).mp q))).1) (XS.iload X8.here hx rfl (hb hby at_85) rfl (XS.ifNo X8.here hx rfl (hb hby at_87) rfl ((if0 _ _).trans (feq (by decide : ¬ ((1 : Int32) = (0 : Int32)))).1) (XS.aload X8.here hx rfl (hb hby at_90) rfl rfl (XS.lload X8.here hx rfl (hb hby at_92) rfl (XS.lconst X8.here hx rfl (hb hby at_94) k)))))) ?_
      show G T8 (mkF m 95 #[jv i0, .second, jv i1, .second, jv i2, .second, iv i3, jv (own_min i0 i1), .second, jv (own_max i0 i1), .second, rv d1, rv b4, iv 1, .unset] [.long 1, .long (own_min i0 i1), .ref b4])
      refine gb (fun _ k => XS.lsub X8.here hx rfl (hb hby at_95) rfl k) ?_
      show G T8 (mkF m 96 #[jv i0, .second, jv i1, .second, jv i2, .second, iv i3, jv (own_min i0 i1), .second, jv (own_max i0 i1), .second, rv d1, rv b4, iv 1, .unset] [.long ((own_min i0 i1) - (1 : Int64)), .ref b4])
      obtain ⟨cq18, kq18, q18a, q18b, q18c⟩ := isOf hZ e8 E_b4
      obtain ⟨_, _, ⟨T18, Lz18, kz18, nz18⟩, -, X18, ⟨Lc18, hQ18, lq18, yq18, zq18⟩, st18⟩ := X8.virtualBack hx (y := (⟨"com/example/rhadamanthus/rhadamanthus/order/Field", "contains", "(J)Z"⟩ : MethodName)) (z := (⟨"com/example/rhadamanthus/rhadamanthus/order/Field", "contains", "(J)Z"⟩ : MethodName)) hown (mvT hZ (ow hw 47 rfl)) (mvT hZ (ow hw 48 rfl)) (notFace_of_selects (args := #[]) (mvT hZ (ow hw 50 rfl))) (mvT hZ (ow hw 50 rfl)) (mvT hZ (ow hw 49 rfl)) (by decide) (backOf (W := 0) (rm7 l Z a0 hw [] b4 ((own_min i0 i1) - (1 : Int64)) (own_min i0 i1) (own_max i0 i1) (0 : Int32) h6 n0 O F_min_b4 F_max_b4 (own_pred hc82)) hZ (ow hw 51 rfl) (ow hw 12 rfl) (by decide) (by decide)) q18a q18c (g := (mkF m 96 #[jv i0, .second, jv i1, .second, jv i2, .second, iv i3, jv (own_min i0 i1), .second, jv (own_max i0 i1), .second, rv d1, rv b4, iv 1, .unset] [.long ((own_min i0 i1) - (1 : Int64)), .ref b4])) rfl (by rw [hml]; rfl) (Steps.refl _) (argsL := [(.long ((own_min i0 i1) - (1 : Int64)))]) (rest := []) (lenOf pd_4 rfl) rfl (by show 2 * 0 + _ ≤ _; exact Nat.le_of_eq rfl) (hb hby at_96) (fun _ _ => ⟨rfl, e8, (by decide : 7 + 0 ≤ _), (by decide : 72 + 0 ≤ _)⟩)
      dsimp only [Pt.U, Pt.locs, Pt.cells, Pt.slots] at X18 lq18 yq18 zq18 st18 hQ18
      subst lq18 yq18 zq18
      obtain ⟨rfl, rfl, e18⟩ := hQ18
      try rw [List.append_nil] at X18
      refine gb (fun _ k => st18.trans k) ?_
      show G T18 (mkF m 99 #[jv i0, .second, jv i1, .second, jv i2, .second, iv i3, jv (own_min i0 i1), .second, jv (own_max i0 i1), .second, rv d1, rv b4, iv 1, .unset] [.int 0])
      refine gb (fun _ k => XS.ifNo X18.here hx rfl (hb hby at_99) rfl ((if0 _ _).trans (teq (by decide : (0 : Int32) = (0 : Int32))).2) (XS.iconst X18.here hx rfl (hb hby at_102) (XS.goto X18.here hx rfl (pc0 := 103) (pc' := 107) rfl (hb hby at_103) (by decide) (by decide) (XS.istore X18.here hx rfl (hb hby at_107) rfl (l' := #[jv i0, .second, jv i1, .second, jv i2, .second, iv i3, jv (own_min i0 i1), .second, jv (own_max i0 i1), .second, rv d1, rv b4, iv 1, .unset]) rfl (XS.lload X18.here hx rfl (hb hby at_109) rfl k))))) ?_
      show G T18 (mkF m 111 #[jv i0, .second, jv i1, .second, jv i2, .second, iv i3, jv (own_min i0 i1), .second, jv (own_max i0 i1), .second, rv d1, rv b4, iv 1, .unset] [.long (own_max i0 i1)])
      refine gb (X18.ldc2Long hx hown (mvT hZ (ow hw 53 rfl)) (g := (mkF m 111 #[jv i0, .second, jv i1, .second, jv i2, .second, iv i3, jv (own_min i0 i1), .second, jv (own_max i0 i1), .second, rv d1, rv b4, iv 1, .unset] [.long (own_max i0 i1)])) rfl (hb hby at_111)) ?_
      show G T18 (mkF m 114 #[jv i0, .second, jv i1, .second, jv i2, .second, iv i3, jv (own_min i0 i1), .second, jv (own_max i0 i1), .second, rv d1, rv b4, iv 1, .unset] [.long 9223372036854775807, .long (own_max i0 i1)])
      refine gb (fun _ k => XS.lcmp X18.here hx rfl (hb hby at_114) rfl k) ?_
      show G T18 (mkF m 115 #[jv i0, .second, jv i1, .second, jv i2, .second, iv i3, jv (own_min i0 i1), .second, jv (own_max i0 i1), .second, rv d1, rv b4, iv 1, .unset] [.int (lcmpW (own_max i0 i1) (9223372036854775807 : Int64))])
      by_cases hc115 : (own_max i0 i1) = (9223372036854775807 : Int64)
      · skip
        refine gb (fun _ k => XS.ifYes X18.here hx rfl (pc0 := 115) (pc' := 142) rfl (hb hby at_115) rfl ((if0 _ _).trans (teq ((own_eq _ _).mpr hc115)).1) (by decide) (by decide) (XS.lload X18.here hx rfl (hb hby at_142) rfl (XS.lload X18.here hx rfl (hb hby at_144) rfl (XS.lload X18.here hx rfl (hb hby at_146) rfl k)))) ?_
        show G T18 (mkF m 148 #[jv i0, .second, jv i1, .second, jv i2, .second, iv i3, jv (own_min i0 i1), .second, jv (own_max i0 i1), .second, rv d1, rv b4, iv 1, .unset] [.long (own_max i0 i1), .long i2, .long (own_min i0 i1)])
        obtain ⟨_, _, ⟨T19, Lz19, kz19, nz19⟩, -, X19, ⟨Lc19, hQ19, lq19, yq19, zq19⟩, st19⟩ := Jvm.LawKit.callS X18 hx (y := (⟨"java/lang/Math", "min", "(JJ)J"⟩ : MethodName)) hown (mvT hZ (ow hw 0 rfl)) (mvT hZ (ow hw 1 rfl)) (mvT hZ (ow hw 2 rfl)) (mvT hZ (ow hw 3 rfl)) (by decide) (backOf (W := 2) (rm1 l Z a0 hw [] i2 (own_max i0 i1) h6 n0 O) hZ (ow hw 3 rfl) (ow hw 2 rfl) (by decide) (by decide)) (g := (mkF m 148 #[jv i0, .second, jv i1, .second, jv i2, .second, iv i3, jv (own_min i0 i1), .second, jv (own_max i0 i1), .second, rv d1, rv b4, iv 1, .unset] [.long (own_max i0 i1), .long i2, .long (own_min i0 i1)])) rfl (by rw [hml]; rfl) (argsL := [(.long i2), (.long (own_max i0 i1))]) (rest := [(.long (own_min i0 i1))]) (lenOf pd_2 rfl) rfl (by show 2 * 0 + _ ≤ _; exact Nat.le_of_eq rfl) (hb hby at_148) (fun _ _ => ⟨rfl, e18, (by decide : 7 + 0 ≤ _), (by decide : 72 + 0 ≤ _)⟩)
        dsimp only [Pt.U, Pt.locs, Pt.cells, Pt.slots] at X19 lq19 yq19 zq19 st19 hQ19
        subst lq19 yq19 zq19
        obtain ⟨rfl, rfl, e19⟩ := hQ19
        try rw [List.append_nil] at X19
        refine gb st19 ?_
        show G T19 (mkF m 151 #[jv i0, .second, jv i1, .second, jv i2, .second, iv i3, jv (own_min i0 i1), .second, jv (own_max i0 i1), .second, rv d1, rv b4, iv 1, .unset] [.long (own_min i2 (own_max i0 i1)), .long (own_min i0 i1)])
        obtain ⟨_, _, ⟨T20, Lz20, kz20, nz20⟩, -, X20, ⟨Lc20, hQ20, lq20, yq20, zq20⟩, st20⟩ := Jvm.LawKit.callS X19 hx (y := (⟨"java/lang/Math", "max", "(JJ)J"⟩ : MethodName)) hown (mvT hZ (ow hw 4 rfl)) (mvT hZ (ow hw 5 rfl)) (mvT hZ (ow hw 2 rfl)) (mvT hZ (ow hw 6 rfl)) (by decide) (backOf (W := 0) (rm2 l Z a0 hw [] (own_min i0 i1) (own_min i2 (own_max i0 i1)) h6 n0 O) hZ (ow hw 6 rfl) (ow hw 2 rfl) (by decide) (by decide)) (g := (mkF m 151 #[jv i0, .second, jv i1, .second, jv i2, .second, iv i3, jv (own_min i0 i1), .second, jv (own_max i0 i1), .second, rv d1, rv b4, iv 1, .unset] [.long (own_min i2 (own_max i0 i1)), .long (own_min i0 i1)])) rfl (by rw [hml]; rfl) (argsL := [(.long (own_min i0 i1)), (.long (own_min i2 (own_max i0 i1)))]) (rest := []) (lenOf pd_2 rfl) rfl (by show 2 * 0 + _ ≤ _; exact Nat.le_of_eq rfl) (hb hby at_151) (fun _ _ => ⟨rfl, e19, (by decide : 7 + 0 ≤ _), (by decide : 72 + 0 ≤ _)⟩)
        dsimp only [Pt.U, Pt.locs, Pt.cells, Pt.slots] at X20 lq20 yq20 zq20 st20 hQ20
        subst lq20 yq20 zq20
        obtain ⟨rfl, rfl, e20⟩ := hQ20
        try rw [List.append_nil] at X20
        refine gb st20 ?_
        show G T20 (mkF m 154 #[jv i0, .second, jv i1, .second, jv i2, .second, iv i3, jv (own_min i0 i1), .second, jv (own_max i0 i1), .second, rv d1, rv b4, iv 1, .unset] [.long (own_max (own_min i0 i1) (own_min i2 (own_max i0 i1)))])
        refine gb (fun _ k => XS.lload X20.here hx rfl (hb hby at_154) rfl (XS.lcmp X20.here hx rfl (hb hby at_156) rfl k)) ?_
        show G T20 (mkF m 157 #[jv i0, .second, jv i1, .second, jv i2, .second, iv i3, jv (own_min i0 i1), .second, jv (own_max i0 i1), .second, rv d1, rv b4, iv 1, .unset] [.int (lcmpW (own_max (own_min i0 i1) (own_min i2 (own_max i0 i1))) i2)])
        by_cases hc157 : (own_max (own_min i0 i1) (own_min i2 (own_max i0 i1))) = i2
        · skip
          refine gb (fun _ k => XS.ifNo X20.here hx rfl (hb hby at_157) rfl ((if0 _ _).trans (teq ((own_eq _ _).mpr hc157)).2) (XS.iconst X20.here hx rfl (hb hby at_160) (XS.goto X20.here hx rfl (pc0 := 161) (pc' := 165) rfl (hb hby at_161) (by decide) (by decide) (XS.istore X20.here hx rfl (hb hby at_165) rfl (l' := #[jv i0, .second, jv i1, .second, jv i2, .second, iv i3, jv (own_min i0 i1), .second, jv (own_max i0 i1), .second, rv d1, rv b4, iv 1, iv 1]) rfl (XS.iload X20.here hx rfl (hb hby at_167) rfl (XS.ifNo X20.here hx rfl (hb hby at_169) rfl ((if0 _ _).trans (feq (by decide : ¬ ((1 : Int32) = (0 : Int32)))).1) k)))))) ?_
          show G T20 (mkF m 172 #[jv i0, .second, jv i1, .second, jv i2, .second, iv i3, jv (own_min i0 i1), .second, jv (own_max i0 i1), .second, rv d1, rv b4, iv 1, iv 1] [])
          refine gb (fun _ k => XS.aload X20.here hx rfl (hb hby at_172) rfl rfl (XS.lload X20.here hx rfl (hb hby at_174) rfl k)) ?_
          show G T20 (mkF m 176 #[jv i0, .second, jv i1, .second, jv i2, .second, iv i3, jv (own_min i0 i1), .second, jv (own_max i0 i1), .second, rv d1, rv b4, iv 1, iv 1] [.long i2, .ref b4])
          obtain ⟨cq21, kq21, q21a, q21b, q21c⟩ := isOf hZ e20 E_b4
          obtain ⟨_, _, ⟨T21, Lz21, kz21, nz21⟩, -, X21, ⟨Lc21, hQ21, lq21, yq21, zq21⟩, st21⟩ := X20.virtualBack hx (y := (⟨"com/example/rhadamanthus/rhadamanthus/order/Field", "contains", "(J)Z"⟩ : MethodName)) (z := (⟨"com/example/rhadamanthus/rhadamanthus/order/Field", "contains", "(J)Z"⟩ : MethodName)) hown (mvT hZ (ow hw 47 rfl)) (mvT hZ (ow hw 48 rfl)) (notFace_of_selects (args := #[]) (mvT hZ (ow hw 50 rfl))) (mvT hZ (ow hw 50 rfl)) (mvT hZ (ow hw 49 rfl)) (by decide) (backOf (W := 0) (rm7 l Z a0 hw [] b4 i2 (own_min i0 i1) (own_max i0 i1) (1 : Int32) h6 n0 O F_min_b4 F_max_b4 (own_cl1 (own_mm _ _) hc157)) hZ (ow hw 51 rfl) (ow hw 12 rfl) (by decide) (by decide)) q21a q21c (g := (mkF m 176 #[jv i0, .second, jv i1, .second, jv i2, .second, iv i3, jv (own_min i0 i1), .second, jv (own_max i0 i1), .second, rv d1, rv b4, iv 1, iv 1] [.long i2, .ref b4])) rfl (by rw [hml]; rfl) (Steps.refl _) (argsL := [(.long i2)]) (rest := []) (lenOf pd_4 rfl) rfl (by show 2 * 0 + _ ≤ _; exact Nat.le_of_eq rfl) (hb hby at_176) (fun _ _ => ⟨rfl, e20, (by decide : 7 + 0 ≤ _), (by decide : 72 + 0 ≤ _)⟩)
          dsimp only [Pt.U, Pt.locs, Pt.cells, Pt.slots] at X21 lq21 yq21 zq21 st21 hQ21
          subst lq21 yq21 zq21
          obtain ⟨rfl, rfl, e21⟩ := hQ21
          try rw [List.append_nil] at X21
          refine gb (fun _ k => st21.trans k) ?_
          show G T21 (mkF m 179 #[jv i0, .second, jv i1, .second, jv i2, .second, iv i3, jv (own_min i0 i1), .second, jv (own_max i0 i1), .second, rv d1, rv b4, iv 1, iv 1] [.int 1])
          refine gb (fun _ k => XS.iload X21.here hx rfl (hb hby at_179) rfl (XS.icmpNo X21.here hx rfl (hb hby at_181) rfl (teq (by decide : (1 : Int32) = (1 : Int32))).2 (XS.iconst X21.here hx rfl (hb hby at_184) (XS.goto X21.here hx rfl (pc0 := 185) (pc' := 189) rfl (hb hby at_185) (by decide) (by decide) (XS.istore X21.here hx rfl (hb hby at_189) rfl (l' := #[jv i0, .second, jv i1, .second, jv i2, .second, iv i3, jv (own_min i0 i1), .second, jv (own_max i0 i1), .second, rv d1, rv b4, iv 1, iv 1]) rfl (XS.iload X21.here hx rfl (hb hby at_191) rfl k)))))) ?_
          show G T21 (mkF m 193 #[jv i0, .second, jv i1, .second, jv i2, .second, iv i3, jv (own_min i0 i1), .second, jv (own_max i0 i1), .second, rv d1, rv b4, iv 1, iv 1] [.int 1])
          exact go X21 hS (by rw [e21]; exact hk) (v := (some (.int (1 : Int32)))) (fun h => by rw [Bd.returns] at h; cases h) (fun fs hr => retOut X21 hx Bd.returns rfl (Or.inl ⟨rfl, by simp, _, rfl⟩) (hb hby at_193) hr) (⟨rfl, N⟩) (by decide) (by decide)
        · skip
          refine gb (fun _ k => XS.ifYes X20.here hx rfl (pc0 := 157) (pc' := 164) rfl (hb hby at_157) rfl ((if0 _ _).trans (feq (fun q => hc157 ((own_eq _ _).mp q))).2) (by decide) (by decide) (XS.iconst X20.here hx rfl (hb hby at_164) (XS.istore X20.here hx rfl (hb hby at_165) rfl (l' := #[jv i0, .second, jv i1, .second, jv i2, .second, iv i3, jv (own_min i0 i1), .second, jv (own_max i0 i1), .second, rv d1, rv b4, iv 1, iv 0]) rfl (XS.iload X20.here hx rfl (hb hby at_167) rfl (XS.ifNo X20.here hx rfl (hb hby at_169) rfl ((if0 _ _).trans (feq (by decide : ¬ ((1 : Int32) = (0 : Int32)))).1) (XS.aload X20.here hx rfl (hb hby at_172) rfl rfl k)))))) ?_
          show G T20 (mkF m 174 #[jv i0, .second, jv i1, .second, jv i2, .second, iv i3, jv (own_min i0 i1), .second, jv (own_max i0 i1), .second, rv d1, rv b4, iv 1, iv 0] [.ref b4])
          refine gb (fun _ k => XS.lload X20.here hx rfl (hb hby at_174) rfl k) ?_
          show G T20 (mkF m 176 #[jv i0, .second, jv i1, .second, jv i2, .second, iv i3, jv (own_min i0 i1), .second, jv (own_max i0 i1), .second, rv d1, rv b4, iv 1, iv 0] [.long i2, .ref b4])
          obtain ⟨cq22, kq22, q22a, q22b, q22c⟩ := isOf hZ e20 E_b4
          obtain ⟨_, _, ⟨T22, Lz22, kz22, nz22⟩, -, X22, ⟨Lc22, hQ22, lq22, yq22, zq22⟩, st22⟩ := X20.virtualBack hx (y := (⟨"com/example/rhadamanthus/rhadamanthus/order/Field", "contains", "(J)Z"⟩ : MethodName)) (z := (⟨"com/example/rhadamanthus/rhadamanthus/order/Field", "contains", "(J)Z"⟩ : MethodName)) hown (mvT hZ (ow hw 47 rfl)) (mvT hZ (ow hw 48 rfl)) (notFace_of_selects (args := #[]) (mvT hZ (ow hw 50 rfl))) (mvT hZ (ow hw 50 rfl)) (mvT hZ (ow hw 49 rfl)) (by decide) (backOf (W := 0) (rm7 l Z a0 hw [] b4 i2 (own_min i0 i1) (own_max i0 i1) (0 : Int32) h6 n0 O F_min_b4 F_max_b4 (own_cl0 hc157)) hZ (ow hw 51 rfl) (ow hw 12 rfl) (by decide) (by decide)) q22a q22c (g := (mkF m 176 #[jv i0, .second, jv i1, .second, jv i2, .second, iv i3, jv (own_min i0 i1), .second, jv (own_max i0 i1), .second, rv d1, rv b4, iv 1, iv 0] [.long i2, .ref b4])) rfl (by rw [hml]; rfl) (Steps.refl _) (argsL := [(.long i2)]) (rest := []) (lenOf pd_4 rfl) rfl (by show 2 * 0 + _ ≤ _; exact Nat.le_of_eq rfl) (hb hby at_176) (fun _ _ => ⟨rfl, e20, (by decide : 7 + 0 ≤ _), (by decide : 72 + 0 ≤ _)⟩)
          dsimp only [Pt.U, Pt.locs, Pt.cells, Pt.slots] at X22 lq22 yq22 zq22 st22 hQ22
          subst lq22 yq22 zq22
          obtain ⟨rfl, rfl, e22⟩ := hQ22
          try rw [List.append_nil] at X22
          refine gb (fun _ k => st22.trans k) ?_
          show G T22 (mkF m 179 #[jv i0, .second, jv i1, .second, jv i2, .second, iv i3, jv (own_min i0 i1), .second, jv (own_max i0 i1), .second, rv d1, rv b4, iv 1, iv 0] [.int 0])
          refine gb (fun _ k => XS.iload X22.here hx rfl (hb hby at_179) rfl (XS.icmpNo X22.here hx rfl (hb hby at_181) rfl (teq (by decide : (0 : Int32) = (0 : Int32))).2 (XS.iconst X22.here hx rfl (hb hby at_184) (XS.goto X22.here hx rfl (pc0 := 185) (pc' := 189) rfl (hb hby at_185) (by decide) (by decide) (XS.istore X22.here hx rfl (hb hby at_189) rfl (l' := #[jv i0, .second, jv i1, .second, jv i2, .second, iv i3, jv (own_min i0 i1), .second, jv (own_max i0 i1), .second, rv d1, rv b4, iv 1, iv 0]) rfl (XS.iload X22.here hx rfl (hb hby at_191) rfl k)))))) ?_
          show G T22 (mkF m 193 #[jv i0, .second, jv i1, .second, jv i2, .second, iv i3, jv (own_min i0 i1), .second, jv (own_max i0 i1), .second, rv d1, rv b4, iv 1, iv 0] [.int 1])
          exact go X22 hS (by rw [e22]; exact hk) (v := (some (.int (1 : Int32)))) (fun h => by rw [Bd.returns] at h; cases h) (fun fs hr => retOut X22 hx Bd.returns rfl (Or.inl ⟨rfl, by simp, _, rfl⟩) (hb hby at_193) hr) (⟨rfl, N⟩) (by decide) (by decide)
      · skip
        refine gb (fun _ k => XS.ifNo X18.here hx rfl (hb hby at_115) rfl ((if0 _ _).trans (feq (fun q => hc115 ((own_eq _ _).mp q))).1) (XS.iload X18.here hx rfl (hb hby at_118) rfl (XS.ifNo X18.here hx rfl (hb hby at_120) rfl ((if0 _ _).trans (feq (by decide : ¬ ((1 : Int32) = (0 : Int32)))).1) (XS.aload X18.here hx rfl (hb hby at_123) rfl rfl (XS.lload X18.here hx rfl (hb hby at_125) rfl (XS.lconst X18.here hx rfl (hb hby at_127) k)))))) ?_
        show G T18 (mkF m 128 #[jv i0, .second, jv i1, .second, jv i2, .second, iv i3, jv (own_min i0 i1), .second, jv (own_max i0 i1), .second, rv d1, rv b4, iv 1, .unset] [.long 1, .long (own_max i0 i1), .ref b4])
        refine gb (fun _ k => XS.ladd X18.here hx rfl (hb hby at_128) rfl k) ?_
        show G T18 (mkF m 129 #[jv i0, .second, jv i1, .second, jv i2, .second, iv i3, jv (own_min i0 i1), .second, jv (own_max i0 i1), .second, rv d1, rv b4, iv 1, .unset] [.long ((own_max i0 i1) + (1 : Int64)), .ref b4])
        obtain ⟨cq23, kq23, q23a, q23b, q23c⟩ := isOf hZ e18 E_b4
        obtain ⟨_, _, ⟨T23, Lz23, kz23, nz23⟩, -, X23, ⟨Lc23, hQ23, lq23, yq23, zq23⟩, st23⟩ := X18.virtualBack hx (y := (⟨"com/example/rhadamanthus/rhadamanthus/order/Field", "contains", "(J)Z"⟩ : MethodName)) (z := (⟨"com/example/rhadamanthus/rhadamanthus/order/Field", "contains", "(J)Z"⟩ : MethodName)) hown (mvT hZ (ow hw 47 rfl)) (mvT hZ (ow hw 48 rfl)) (notFace_of_selects (args := #[]) (mvT hZ (ow hw 50 rfl))) (mvT hZ (ow hw 50 rfl)) (mvT hZ (ow hw 49 rfl)) (by decide) (backOf (W := 0) (rm7 l Z a0 hw [] b4 ((own_max i0 i1) + (1 : Int64)) (own_min i0 i1) (own_max i0 i1) (0 : Int32) h6 n0 O F_min_b4 F_max_b4 (own_next hc115)) hZ (ow hw 51 rfl) (ow hw 12 rfl) (by decide) (by decide)) q23a q23c (g := (mkF m 129 #[jv i0, .second, jv i1, .second, jv i2, .second, iv i3, jv (own_min i0 i1), .second, jv (own_max i0 i1), .second, rv d1, rv b4, iv 1, .unset] [.long ((own_max i0 i1) + (1 : Int64)), .ref b4])) rfl (by rw [hml]; rfl) (Steps.refl _) (argsL := [(.long ((own_max i0 i1) + (1 : Int64)))]) (rest := []) (lenOf pd_4 rfl) rfl (by show 2 * 0 + _ ≤ _; exact Nat.le_of_eq rfl) (hb hby at_129) (fun _ _ => ⟨rfl, e18, (by decide : 7 + 0 ≤ _), (by decide : 72 + 0 ≤ _)⟩)
        dsimp only [Pt.U, Pt.locs, Pt.cells, Pt.slots] at X23 lq23 yq23 zq23 st23 hQ23
        subst lq23 yq23 zq23
        obtain ⟨rfl, rfl, e23⟩ := hQ23
        try rw [List.append_nil] at X23
        refine gb (fun _ k => st23.trans k) ?_
        show G T23 (mkF m 132 #[jv i0, .second, jv i1, .second, jv i2, .second, iv i3, jv (own_min i0 i1), .second, jv (own_max i0 i1), .second, rv d1, rv b4, iv 1, .unset] [.int 0])
        refine gb (fun _ k => XS.ifNo X23.here hx rfl (hb hby at_132) rfl ((if0 _ _).trans (teq (by decide : (0 : Int32) = (0 : Int32))).2) (XS.iconst X23.here hx rfl (hb hby at_135) (XS.goto X23.here hx rfl (pc0 := 136) (pc' := 140) rfl (hb hby at_136) (by decide) (by decide) (XS.istore X23.here hx rfl (hb hby at_140) rfl (l' := #[jv i0, .second, jv i1, .second, jv i2, .second, iv i3, jv (own_min i0 i1), .second, jv (own_max i0 i1), .second, rv d1, rv b4, iv 1, .unset]) rfl (XS.lload X23.here hx rfl (hb hby at_142) rfl (XS.lload X23.here hx rfl (hb hby at_144) rfl k)))))) ?_
        show G T23 (mkF m 146 #[jv i0, .second, jv i1, .second, jv i2, .second, iv i3, jv (own_min i0 i1), .second, jv (own_max i0 i1), .second, rv d1, rv b4, iv 1, .unset] [.long i2, .long (own_min i0 i1)])
        refine gb (fun _ k => XS.lload X23.here hx rfl (hb hby at_146) rfl k) ?_
        show G T23 (mkF m 148 #[jv i0, .second, jv i1, .second, jv i2, .second, iv i3, jv (own_min i0 i1), .second, jv (own_max i0 i1), .second, rv d1, rv b4, iv 1, .unset] [.long (own_max i0 i1), .long i2, .long (own_min i0 i1)])
        obtain ⟨_, _, ⟨T24, Lz24, kz24, nz24⟩, -, X24, ⟨Lc24, hQ24, lq24, yq24, zq24⟩, st24⟩ := Jvm.LawKit.callS X23 hx (y := (⟨"java/lang/Math", "min", "(JJ)J"⟩ : MethodName)) hown (mvT hZ (ow hw 0 rfl)) (mvT hZ (ow hw 1 rfl)) (mvT hZ (ow hw 2 rfl)) (mvT hZ (ow hw 3 rfl)) (by decide) (backOf (W := 2) (rm1 l Z a0 hw [] i2 (own_max i0 i1) h6 n0 O) hZ (ow hw 3 rfl) (ow hw 2 rfl) (by decide) (by decide)) (g := (mkF m 148 #[jv i0, .second, jv i1, .second, jv i2, .second, iv i3, jv (own_min i0 i1), .second, jv (own_max i0 i1), .second, rv d1, rv b4, iv 1, .unset] [.long (own_max i0 i1), .long i2, .long (own_min i0 i1)])) rfl (by rw [hml]; rfl) (argsL := [(.long i2), (.long (own_max i0 i1))]) (rest := [(.long (own_min i0 i1))]) (lenOf pd_2 rfl) rfl (by show 2 * 0 + _ ≤ _; exact Nat.le_of_eq rfl) (hb hby at_148) (fun _ _ => ⟨rfl, e23, (by decide : 7 + 0 ≤ _), (by decide : 72 + 0 ≤ _)⟩)
        dsimp only [Pt.U, Pt.locs, Pt.cells, Pt.slots] at X24 lq24 yq24 zq24 st24 hQ24
        subst lq24 yq24 zq24
        obtain ⟨rfl, rfl, e24⟩ := hQ24
        try rw [List.append_nil] at X24
        refine gb st24 ?_
        show G T24 (mkF m 151 #[jv i0, .second, jv i1, .second, jv i2, .second, iv i3, jv (own_min i0 i1), .second, jv (own_max i0 i1), .second, rv d1, rv b4, iv 1, .unset] [.long (own_min i2 (own_max i0 i1)), .long (own_min i0 i1)])
        obtain ⟨_, _, ⟨T25, Lz25, kz25, nz25⟩, -, X25, ⟨Lc25, hQ25, lq25, yq25, zq25⟩, st25⟩ := Jvm.LawKit.callS X24 hx (y := (⟨"java/lang/Math", "max", "(JJ)J"⟩ : MethodName)) hown (mvT hZ (ow hw 4 rfl)) (mvT hZ (ow hw 5 rfl)) (mvT hZ (ow hw 2 rfl)) (mvT hZ (ow hw 6 rfl)) (by decide) (backOf (W := 0) (rm2 l Z a0 hw [] (own_min i0 i1) (own_min i2 (own_max i0 i1)) h6 n0 O) hZ (ow hw 6 rfl) (ow hw 2 rfl) (by decide) (by decide)) (g := (mkF m 151 #[jv i0, .second, jv i1, .second, jv i2, .second, iv i3, jv (own_min i0 i1), .second, jv (own_max i0 i1), .second, rv d1, rv b4, iv 1, .unset] [.long (own_min i2 (own_max i0 i1)), .long (own_min i0 i1)])) rfl (by rw [hml]; rfl) (argsL := [(.long (own_min i0 i1)), (.long (own_min i2 (own_max i0 i1)))]) (rest := []) (lenOf pd_2 rfl) rfl (by show 2 * 0 + _ ≤ _; exact Nat.le_of_eq rfl) (hb hby at_151) (fun _ _ => ⟨rfl, e24, (by decide : 7 + 0 ≤ _), (by decide : 72 + 0 ≤ _)⟩)
        dsimp only [Pt.U, Pt.locs, Pt.cells, Pt.slots] at X25 lq25 yq25 zq25 st25 hQ25
        subst lq25 yq25 zq25
        obtain ⟨rfl, rfl, e25⟩ := hQ25
        try rw [List.append_nil] at X25
        refine gb st25 ?_
        show G T25 (mkF m 154 #[jv i0, .second, jv i1, .second, jv i2, .second, iv i3, jv (own_min i0 i1), .second, jv (own_max i0 i1), .second, rv d1, rv b4, iv 1, .unset] [.long (own_max (own_min i0 i1) (own_min i2 (own_max i0 i1)))])
        refine gb (fun _ k => XS.lload X25.here hx rfl (hb hby at_154) rfl (XS.lcmp X25.here hx rfl (hb hby at_156) rfl k)) ?_
        show G T25 (mkF m 157 #[jv i0, .second, jv i1, .second, jv i2, .second, iv i3, jv (own_min i0 i1), .second, jv (own_max i0 i1), .second, rv d1, rv b4, iv 1, .unset] [.int (lcmpW (own_max (own_min i0 i1) (own_min i2 (own_max i0 i1))) i2)])
        by_cases hc157 : (own_max (own_min i0 i1) (own_min i2 (own_max i0 i1))) = i2
        · skip
          refine gb (fun _ k => XS.ifNo X25.here hx rfl (hb hby at_157) rfl ((if0 _ _).trans (teq ((own_eq _ _).mpr hc157)).2) (XS.iconst X25.here hx rfl (hb hby at_160) (XS.goto X25.here hx rfl (pc0 := 161) (pc' := 165) rfl (hb hby at_161) (by decide) (by decide) (XS.istore X25.here hx rfl (hb hby at_165) rfl (l' := #[jv i0, .second, jv i1, .second, jv i2, .second, iv i3, jv (own_min i0 i1), .second, jv (own_max i0 i1), .second, rv d1, rv b4, iv 1, iv 1]) rfl (XS.iload X25.here hx rfl (hb hby at_167) rfl (XS.ifNo X25.here hx rfl (hb hby at_169) rfl ((if0 _ _).trans (feq (by decide : ¬ ((1 : Int32) = (0 : Int32)))).1) k)))))) ?_
          show G T25 (mkF m 172 #[jv i0, .second, jv i1, .second, jv i2, .second, iv i3, jv (own_min i0 i1), .second, jv (own_max i0 i1), .second, rv d1, rv b4, iv 1, iv 1] [])
          refine gb (fun _ k => XS.aload X25.here hx rfl (hb hby at_172) rfl rfl (XS.lload X25.here hx rfl (hb hby at_174) rfl k)) ?_
          show G T25 (mkF m 176 #[jv i0, .second, jv i1, .second, jv i2, .second, iv i3, jv (own_min i0 i1), .second, jv (own_max i0 i1), .second, rv d1, rv b4, iv 1, iv 1] [.long i2, .ref b4])
          obtain ⟨cq26, kq26, q26a, q26b, q26c⟩ := isOf hZ e25 E_b4
          obtain ⟨_, _, ⟨T26, Lz26, kz26, nz26⟩, -, X26, ⟨Lc26, hQ26, lq26, yq26, zq26⟩, st26⟩ := X25.virtualBack hx (y := (⟨"com/example/rhadamanthus/rhadamanthus/order/Field", "contains", "(J)Z"⟩ : MethodName)) (z := (⟨"com/example/rhadamanthus/rhadamanthus/order/Field", "contains", "(J)Z"⟩ : MethodName)) hown (mvT hZ (ow hw 47 rfl)) (mvT hZ (ow hw 48 rfl)) (notFace_of_selects (args := #[]) (mvT hZ (ow hw 50 rfl))) (mvT hZ (ow hw 50 rfl)) (mvT hZ (ow hw 49 rfl)) (by decide) (backOf (W := 0) (rm7 l Z a0 hw [] b4 i2 (own_min i0 i1) (own_max i0 i1) (1 : Int32) h6 n0 O F_min_b4 F_max_b4 (own_cl1 (own_mm _ _) hc157)) hZ (ow hw 51 rfl) (ow hw 12 rfl) (by decide) (by decide)) q26a q26c (g := (mkF m 176 #[jv i0, .second, jv i1, .second, jv i2, .second, iv i3, jv (own_min i0 i1), .second, jv (own_max i0 i1), .second, rv d1, rv b4, iv 1, iv 1] [.long i2, .ref b4])) rfl (by rw [hml]; rfl) (Steps.refl _) (argsL := [(.long i2)]) (rest := []) (lenOf pd_4 rfl) rfl (by show 2 * 0 + _ ≤ _; exact Nat.le_of_eq rfl) (hb hby at_176) (fun _ _ => ⟨rfl, e25, (by decide : 7 + 0 ≤ _), (by decide : 72 + 0 ≤ _)⟩)
          dsimp only [Pt.U, Pt.locs, Pt.cells, Pt.slots] at X26 lq26 yq26 zq26 st26 hQ26
          subst lq26 yq26 zq26
          obtain ⟨rfl, rfl, e26⟩ := hQ26
          try rw [List.append_nil] at X26
          refine gb (fun _ k => st26.trans k) ?_
          show G T26 (mkF m 179 #[jv i0, .second, jv i1, .second, jv i2, .second, iv i3, jv (own_min i0 i1), .second, jv (own_max i0 i1), .second, rv d1, rv b4, iv 1, iv 1] [.int 1])
          refine gb (fun _ k => XS.iload X26.here hx rfl (hb hby at_179) rfl (XS.icmpNo X26.here hx rfl (hb hby at_181) rfl (teq (by decide : (1 : Int32) = (1 : Int32))).2 (XS.iconst X26.here hx rfl (hb hby at_184) (XS.goto X26.here hx rfl (pc0 := 185) (pc' := 189) rfl (hb hby at_185) (by decide) (by decide) (XS.istore X26.here hx rfl (hb hby at_189) rfl (l' := #[jv i0, .second, jv i1, .second, jv i2, .second, iv i3, jv (own_min i0 i1), .second, jv (own_max i0 i1), .second, rv d1, rv b4, iv 1, iv 1]) rfl (XS.iload X26.here hx rfl (hb hby at_191) rfl k)))))) ?_
          show G T26 (mkF m 193 #[jv i0, .second, jv i1, .second, jv i2, .second, iv i3, jv (own_min i0 i1), .second, jv (own_max i0 i1), .second, rv d1, rv b4, iv 1, iv 1] [.int 1])
          exact go X26 hS (by rw [e26]; exact hk) (v := (some (.int (1 : Int32)))) (fun h => by rw [Bd.returns] at h; cases h) (fun fs hr => retOut X26 hx Bd.returns rfl (Or.inl ⟨rfl, by simp, _, rfl⟩) (hb hby at_193) hr) (⟨rfl, N⟩) (by decide) (by decide)
        · skip
          refine gb (fun _ k => XS.ifYes X25.here hx rfl (pc0 := 157) (pc' := 164) rfl (hb hby at_157) rfl ((if0 _ _).trans (feq (fun q => hc157 ((own_eq _ _).mp q))).2) (by decide) (by decide) (XS.iconst X25.here hx rfl (hb hby at_164) (XS.istore X25.here hx rfl (hb hby at_165) rfl (l' := #[jv i0, .second, jv i1, .second, jv i2, .second, iv i3, jv (own_min i0 i1), .second, jv (own_max i0 i1), .second, rv d1, rv b4, iv 1, iv 0]) rfl (XS.iload X25.here hx rfl (hb hby at_167) rfl (XS.ifNo X25.here hx rfl (hb hby at_169) rfl ((if0 _ _).trans (feq (by decide : ¬ ((1 : Int32) = (0 : Int32)))).1) (XS.aload X25.here hx rfl (hb hby at_172) rfl rfl k)))))) ?_
          show G T25 (mkF m 174 #[jv i0, .second, jv i1, .second, jv i2, .second, iv i3, jv (own_min i0 i1), .second, jv (own_max i0 i1), .second, rv d1, rv b4, iv 1, iv 0] [.ref b4])
          refine gb (fun _ k => XS.lload X25.here hx rfl (hb hby at_174) rfl k) ?_
          show G T25 (mkF m 176 #[jv i0, .second, jv i1, .second, jv i2, .second, iv i3, jv (own_min i0 i1), .second, jv (own_max i0 i1), .second, rv d1, rv b4, iv 1, iv 0] [.long i2, .ref b4])
          obtain ⟨cq27, kq27, q27a, q27b, q27c⟩ := isOf hZ e25 E_b4
          obtain ⟨_, _, ⟨T27, Lz27, kz27, nz27⟩, -, X27, ⟨Lc27, hQ27, lq27, yq27, zq27⟩, st27⟩ := X25.virtualBack hx (y := (⟨"com/example/rhadamanthus/rhadamanthus/order/Field", "contains", "(J)Z"⟩ : MethodName)) (z := (⟨"com/example/rhadamanthus/rhadamanthus/order/Field", "contains", "(J)Z"⟩ : MethodName)) hown (mvT hZ (ow hw 47 rfl)) (mvT hZ (ow hw 48 rfl)) (notFace_of_selects (args := #[]) (mvT hZ (ow hw 50 rfl))) (mvT hZ (ow hw 50 rfl)) (mvT hZ (ow hw 49 rfl)) (by decide) (backOf (W := 0) (rm7 l Z a0 hw [] b4 i2 (own_min i0 i1) (own_max i0 i1) (0 : Int32) h6 n0 O F_min_b4 F_max_b4 (own_cl0 hc157)) hZ (ow hw 51 rfl) (ow hw 12 rfl) (by decide) (by decide)) q27a q27c (g := (mkF m 176 #[jv i0, .second, jv i1, .second, jv i2, .second, iv i3, jv (own_min i0 i1), .second, jv (own_max i0 i1), .second, rv d1, rv b4, iv 1, iv 0] [.long i2, .ref b4])) rfl (by rw [hml]; rfl) (Steps.refl _) (argsL := [(.long i2)]) (rest := []) (lenOf pd_4 rfl) rfl (by show 2 * 0 + _ ≤ _; exact Nat.le_of_eq rfl) (hb hby at_176) (fun _ _ => ⟨rfl, e25, (by decide : 7 + 0 ≤ _), (by decide : 72 + 0 ≤ _)⟩)
          dsimp only [Pt.U, Pt.locs, Pt.cells, Pt.slots] at X27 lq27 yq27 zq27 st27 hQ27
          subst lq27 yq27 zq27
          obtain ⟨rfl, rfl, e27⟩ := hQ27
          try rw [List.append_nil] at X27
          refine gb (fun _ k => st27.trans k) ?_
          show G T27 (mkF m 179 #[jv i0, .second, jv i1, .second, jv i2, .second, iv i3, jv (own_min i0 i1), .second, jv (own_max i0 i1), .second, rv d1, rv b4, iv 1, iv 0] [.int 0])
          refine gb (fun _ k => XS.iload X27.here hx rfl (hb hby at_179) rfl (XS.icmpNo X27.here hx rfl (hb hby at_181) rfl (teq (by decide : (0 : Int32) = (0 : Int32))).2 (XS.iconst X27.here hx rfl (hb hby at_184) (XS.goto X27.here hx rfl (pc0 := 185) (pc' := 189) rfl (hb hby at_185) (by decide) (by decide) (XS.istore X27.here hx rfl (hb hby at_189) rfl (l' := #[jv i0, .second, jv i1, .second, jv i2, .second, iv i3, jv (own_min i0 i1), .second, jv (own_max i0 i1), .second, rv d1, rv b4, iv 1, iv 0]) rfl (XS.iload X27.here hx rfl (hb hby at_191) rfl k)))))) ?_
          show G T27 (mkF m 193 #[jv i0, .second, jv i1, .second, jv i2, .second, iv i3, jv (own_min i0 i1), .second, jv (own_max i0 i1), .second, rv d1, rv b4, iv 1, iv 0] [.int 1])
          exact go X27 hS (by rw [e27]; exact hk) (v := (some (.int (1 : Int32)))) (fun h => by rw [Bd.returns] at h; cases h) (fun fs hr => retOut X27 hx Bd.returns rfl (Or.inl ⟨rfl, by simp, _, rfl⟩) (hb hby at_193) hr) (⟨rfl, N⟩) (by decide) (by decide)
  refine gb (fun _ k => XS.iload X2.here hx rfl (hb hby at_14) rfl (XS.iconst X2.here hx rfl (hb hby at_16) (XS.iand X2.here hx rfl (hb hby at_17) rfl k))) ?_
  show G T2 (mkF m 18 #[jv i0, .second, jv i1, .second, jv i2, .second, iv i3, jv (own_min i0 i1), .second, jv (own_max i0 i1), .second, .unset, .unset, .unset, .unset] [.int (i3 &&& (1 : Int32))])
  by_cases hc18 : (i3 &&& (1 : Int32)) = (0 : Int32)
  · skip
    refine gb (fun _ k => XS.ifYes X2.here hx rfl (pc0 := 18) (pc' := 27) rfl (hb hby at_18) rfl ((if0 _ _).trans (teq hc18).1) (by decide) (by decide) k) ?_
    show G T2 (mkF m 27 #[jv i0, .second, jv i1, .second, jv i2, .second, iv i3, jv (own_min i0 i1), .second, jv (own_max i0 i1), .second, .unset, .unset, .unset, .unset] [])
    obtain ⟨T28, X28, e28, st28⟩ := getS2 X2 hx hZ hown (host := "") (Or.inl (ow hw 7 rfl)) Via.refl e2 (S_LOW_FIRST.ext O.2) (g := (mkF m 27 #[jv i0, .second, jv i1, .second, jv i2, .second, iv i3, jv (own_min i0 i1), .second, jv (own_max i0 i1), .second, .unset, .unset, .unset, .unset] [])) rfl (hb hby at_27)
    refine gb st28 ?_
    show G T28 (mkF m 30 #[jv i0, .second, jv i1, .second, jv i2, .second, iv i3, jv (own_min i0 i1), .second, jv (own_max i0 i1), .second, .unset, .unset, .unset, .unset] [.ref w_LOW_FIRST])
    exact J3 _ _ _ _ hS hk hZ hown X28 N e28  (w_LOW_FIRST) (I0)
  · skip
    refine gb (fun _ k => XS.ifNo X2.here hx rfl (hb hby at_18) rfl ((if0 _ _).trans (feq hc18).1) k) ?_
    show G T2 (mkF m 21 #[jv i0, .second, jv i1, .second, jv i2, .second, iv i3, jv (own_min i0 i1), .second, jv (own_max i0 i1), .second, .unset, .unset, .unset, .unset] [])
    obtain ⟨T29, X29, e29, st29⟩ := getS2 X2 hx hZ hown (host := "") (Or.inl (ow hw 54 rfl)) Via.refl e2 (S_HIGH_FIRST.ext O.2) (g := (mkF m 21 #[jv i0, .second, jv i1, .second, jv i2, .second, iv i3, jv (own_min i0 i1), .second, jv (own_max i0 i1), .second, .unset, .unset, .unset, .unset] [])) rfl (hb hby at_21)
    refine gb st29 ?_
    show G T29 (mkF m 24 #[jv i0, .second, jv i1, .second, jv i2, .second, iv i3, jv (own_min i0 i1), .second, jv (own_max i0 i1), .second, .unset, .unset, .unset, .unset] [.ref w_HIGH_FIRST])
    refine gb (fun _ k => XS.goto X29.here hx rfl (pc0 := 24) (pc' := 30) rfl (hb hby at_24) (by decide) (by decide) k) ?_
    show G T29 (mkF m 30 #[jv i0, .second, jv i1, .second, jv i2, .second, iv i3, jv (own_min i0 i1), .second, jv (own_max i0 i1), .second, .unset, .unset, .unset, .unset] [.ref w_HIGH_FIRST])
    exact J3 _ _ _ _ hS hk hZ hown X29 N e29  (w_HIGH_FIRST) (I0)
set_option maxRecDepth 65536 in
set_option maxHeartbeats 40000000 in
theorem comes_1 {Post : Tables → Env → Array Value → State → Outcome → State → Prop} (hpost : ∀ tb e args s v u, (limb_1_1.after args s (.returned v) u = true ∧ limb_1_2.after args s (.returned v) u = true ∧ True) → ReturnedEndW s (.returned v) u (Jvm.fieldLocs frame_1_writes args s ++ Jvm.arrayLocs frame_1_arrays args s ++ Jvm.staticLocs frame_1_statics s) 16 3200 → Post tb e args s (.returned v) u) :
    ArmFor flags0 classFile x code maxLocals ret World_1 tables_1 room_1 Calls_1 rest_1 Pre_1 Post := by
  intro l hfl _ _ p e ha hc hk s m args below hf hA hF happ hP
  obtain ⟨hcalls, hrest, hpre⟩ := hP
  obtain ⟨-, -, -, hnamed, -, -, -, hat⟩ := (Spec.applies_iff hf).mp happ
  obtain ⟨hg, hn⟩ := and_e (Cond.before_iff.mp (show (Jvm.Cond.and given_1 narrow_1).before args s = true from hpre))
  obtain ⟨g1, g2⟩ := and_e hg
  obtain ⟨g3, g4⟩ := and_e g2
  obtain ⟨g5, g6⟩ := and_e g4
  obtain ⟨g7, g8⟩ := and_e g6
  obtain ⟨g9, g10⟩ := and_e hn
  obtain ⟨w0, w1, w2, w3, rfl⟩ : ∃ w0 w1 w2 w3 : Value, args = #[w0, w1, w2, w3] := by
    have hs : args.size = 4 := by simpa [Cond.value, given_1] using g1
    obtain ⟨L⟩ := args
    match L, hs with
    | [w0, w1, w2, w3], _ => exact ⟨w0, w1, w2, w3, rfl⟩
  have hw := fun d (hd : d ∈ tables_1) => atoms_spec (ws := Jvm.Cond.code x code maxLocals ret :: tables_1) hat d (List.mem_cons_of_mem _ hd)
  have hfit : Fit s := fun {y c} hc i hi => by
    obtain ⟨ha, rfl⟩ := Array.getElem?_eq_some_iff.mp hc
    have q := List.all_eq_true.mp ((Array.all_eq_true_iff_forall_mem.mp hF) _ (Array.getElem_mem ha)) i (List.mem_range.mpr hi)
    simpa [Array.getElem?_eq_getElem hi] using q
  obtain ⟨hsets, hown0⟩ := atoms_of _ (rest_1_c_eq ▸ (show rest_1_c.before _ s = true from hrest))
  have hr0 := Cond.before_iff.mp hown0
  obtain ⟨i0, ei0⟩ := isL_v g3
  obtain rfl : w0 = (.long i0) := Option.some.inj ei0
  obtain ⟨i1, ei1⟩ := isL_v g5
  obtain rfl : w1 = (.long i1) := Option.some.inj ei1
  obtain ⟨i2, ei2⟩ := isL_v g7
  obtain rfl : w2 = (.long i2) := Option.some.inj ei2
  obtain ⟨i3, ei3⟩ := is_v g8
  obtain rfl : w3 = (.int i3) := Option.some.inj ei3
  obtain ⟨w_LOW_FIRST, ev_LOW_FIRST⟩ := exa_v g9
  have S_LOW_FIRST : Sta s s.heap "com/example/rhadamanthus/rhadamanthus/order/Direction" "LOW_FIRST" "Lcom/example/rhadamanthus/rhadamanthus/order/Direction;" (.ref w_LOW_FIRST) := Sta.start ev_LOW_FIRST (Or.inr ⟨(ow hw 8 rfl), (ow hw 9 rfl)⟩)
  have E_LOW_FIRST : Exa s s.heap w_LOW_FIRST "com/example/rhadamanthus/rhadamanthus/order/Direction" := Exa.start ev_LOW_FIRST g9
  obtain ⟨w_HIGH_FIRST, ev_HIGH_FIRST⟩ := exa_v g10
  have S_HIGH_FIRST : Sta s s.heap "com/example/rhadamanthus/rhadamanthus/order/Direction" "HIGH_FIRST" "Lcom/example/rhadamanthus/rhadamanthus/order/Direction;" (.ref w_HIGH_FIRST) := Sta.start ev_HIGH_FIRST (Or.inr ⟨(ow hw 8 rfl), (ow hw 55 rfl)⟩)
  have E_HIGH_FIRST : Exa s s.heap w_HIGH_FIRST "com/example/rhadamanthus/rhadamanthus/order/Direction" := Exa.start ev_HIGH_FIRST g10
  obtain ⟨n, o, h1, h2, h3, _, L, rfl, ⟨rfl, N⟩, hq⟩ := rm0 l s _ hw tables_1 i0 i1 i2 i3 s.heap s.heap.size (Old.start s) w_LOW_FIRST S_LOW_FIRST w_HIGH_FIRST S_HIGH_FIRST (hcalls.1 ("com/example/rhadamanthus/rhadamanthus/order/FieldContainsPinLaw", 27) (by decide)) (hsets _ (List.mem_of_getElem? (i := 2) rfl)) p e ha hc hk s m _ below hf ((Spec.applies_iff_loose hf).mp happ).1 ⟨rfl, State.Warmed39.refl s, rfl, rfl⟩ trivial
  refine ⟨n, _, h1, h2, h3, hpost _ _ _ _ _ _ ⟨Cond.after_iff.mpr rfl, Cond.after_iff.mpr (eq_i res_at (Term.int_eval (1)) rfl), trivial⟩ ⟨hq.1, hq.2.1, hq.2.2.1, (hq.2.2.2.sift fun y hy => Or.inr (N y hy)).mono (by decide) (by decide)⟩⟩
theorem main_1_1 : Claimed_1_1 := comes_1 fun _ _ _ _ _ _ h hF => ⟨h.1, hF⟩
theorem main_1_2 : Claimed_1_2 := comes_1 fun _ _ _ _ _ _ h hF => ⟨h.2.1, hF⟩
end Jvm.Pilot.@@N@@
namespace Jvm.Pilot.@@N@@
open Jvm Jvm.ClassFile Sem Op Lib Jvm.Free Jvm.Stand Jvm.Pilot.@@N@@.Jvm.D
/-! MADE BY PROGRAM (witnessworld.py) out of the Statement's table words and the real class files: 21 classes; the members and pool entries that the words name. The judged class is class 1, her method 1. -/
namespace start1
open Jvm.ClassFile
def u (s : String) : CpInfo := .utf8 (stringToUtf16 s)
/-- a pool by its gaps: so many unusable entries, then the entry; so many at the end -/
def gap : Nat → List CpInfo → List CpInfo
  | 0, r => r
  | n + 1, r => .unusable :: gap n r
def poolList (es : List (Nat × CpInfo)) (last : Nat) : List CpInfo := es.foldr (fun e r => gap e.1 (e.2 :: r)) (gap last [])
def pool (es : List (Nat × CpInfo)) (last : Nat) : Array CpInfo := ⟨poolList es last⟩
def fileOf (pool : Array CpInfo) (this : Nat) (attrs : Array Attribute := #[]) (ms : Array MethodInfo := #[]) (fl : Nat := 33) (sup : Nat := 0) (ifs : Array Nat := #[]) (fds : Array FieldInfo := #[]) : ClassFile where
  minorVersion := 0
  majorVersion := 65
  constantPool := pool
  accessFlags := fl
  thisClass := this
  superClass := sup
  interfaces := ifs
  fields := fds
  methods := ms
  attributes := attrs
def plain (name : String) (sup : Option ClassId) : Class where
  name := name
  kind := .ordinary
  loader := none
  accessFlags := 33
  super := sup
  interfaces := #[]
  cf := none
  fields := #[]
  methods := #[]
  instanceTypes := #[]
  staticTypes := #[]
  resolved := #[]
  callSites := []
  init := .initialized
  statics := none
  mirror := none

def pool0 : Array CpInfo := pool [(5, u "<init>"), (0, u "()V"), (1, .class_ 10), (1, u "java/lang/Object")] 113

def k0c0 : Code := { maxStack := 0, maxLocals := 1, code := object_method_1_code, exceptionTable := #[], attributes := #[] }
def k0m0 : Method := { name := "<init>", desc := "()V", sig := { parameters := [], returnType := none }, accessFlags := 1, code := some k0c0 }
/-- java/lang/Object -/
def k0 : Class := { plain "java/lang/Object" none with
  accessFlags := 33
  interfaces := #[]
  cf := some (fileOf pool0 8 #[] #[{ accessFlags := 1, nameIndex := 5, descriptorIndex := 6, attributes := #[] }] 33 0 #[] #[])
  fields := #[]
  methods := #[k0m0]
  instanceTypes := #[]
  staticTypes := #[]
  resolved := Array.replicate 124 none
  statics := none }

def pool1 : Array CpInfo := pool [(2, .class_ 4), (1, u "java/lang/Object"), (0, u "<init>"), (0, u "()V"), (0, .methodref 8 9), (0, .class_ 10), (0, .nameAndType 11 12), (0, u "java/lang/Math"), (0, u "min"), (0, u "(JJ)J"), (0, .methodref 8 14), (0, .nameAndType 15 12), (0, u "max"), (0, .fieldref 17 18), (0, .class_ 19), (0, .nameAndType 20 21), (0, u "com/example/rhadamanthus/rhadamanthus/order/Direction"), (0, u "HIGH_FIRST"), (0, u "Lcom/example/rhadamanthus/rhadamanthus/order/Direction;"), (0, .fieldref 17 23), (0, .nameAndType 24 21), (0, u "LOW_FIRST"), (0, .class_ 26), (0, u "com/example/rhadamanthus/rhadamanthus/order/Field"), (0, .string 28), (0, u "f"), (0, .methodref 25 30), (0, .nameAndType 5 31), (0, u "(Ljava/lang/String;Lcom/example/rhadamanthus/rhadamanthus/order/Direction;JJ)V"), (0, .methodref 25 33), (0, .nameAndType 34 35), (0, u "contains"), (0, u "(J)Z"), (2, .long 9223372036854775808), (1, .long 9223372036854775807), (1, .class_ 43), (0, u "com/example/rhadamanthus/rhadamanthus/order/FieldContainsPinLaw"), (2, u "law"), (0, u "(JJJI)Z")] 3

def k1m0 : Method := { name := "<init>", desc := "()V", sig := { parameters := [], returnType := none }, accessFlags := 1, code := none }
def k1c1 : Code := { maxStack := 8, maxLocals := 15, code := code, exceptionTable := #[], attributes := #[] }
def k1m1 : Method := { name := "law", desc := "(JJJI)Z", sig := { parameters := [.long, .long, .long, .int], returnType := some .boolean }, accessFlags := 9, code := some k1c1 }
/-- com/example/rhadamanthus/rhadamanthus/order/FieldContainsPinLaw -/
def k1 : Class := { plain "com/example/rhadamanthus/rhadamanthus/order/FieldContainsPinLaw" (some 0) with
  accessFlags := 49
  interfaces := #[]
  cf := some (fileOf pool1 42 #[] #[{ accessFlags := 1, nameIndex := 5, descriptorIndex := 6, attributes := #[] }, { accessFlags := 9, nameIndex := 46, descriptorIndex := 47, attributes := #[] }] 49 2 #[] #[])
  fields := #[]
  methods := #[k1m0, k1m1]
  instanceTypes := #[]
  staticTypes := #[]
  resolved := Array.replicate 51 none
  statics := none }

def pool2 : Array CpInfo := pool [(1, .class_ 2), (0, u "java/lang/Math"), (1, .class_ 6), (1, u "java/lang/Object"), (0, u "<init>"), (0, u "()V"), (89, .class_ 100), (1, u "java/lang/Math$RandomNumberGeneratorHolder"), (20, u "(JJ)J"), (50, u "negativeZeroFloatBits"), (0, u "J"), (2, u "negativeZeroDoubleBits"), (21, u "max"), (2, u "min"), (43, u "$assertionsDisabled"), (0, u "Z"), (91, u "twoToTheDoubleScaleDown"), (0, u "D"), (4, u "twoToTheDoubleScaleUp"), (9, u "E"), (3, u "PI"), (2, u "TAU"), (2, u "DEGREES_TO_RADIANS"), (0, u "RADIANS_TO_DEGREES")] 94

def k2m0 : Method := { name := "<init>", desc := "()V", sig := { parameters := [], returnType := none }, accessFlags := 2, code := none }
def k2c1 : Code := { maxStack := 4, maxLocals := 4, code := jdk_29_method_66_code, exceptionTable := #[], attributes := #[] }
def k2m1 : Method := { name := "max", desc := "(JJ)J", sig := { parameters := [.long, .long], returnType := some .long }, accessFlags := 9, code := some k2c1 }
def k2c2 : Code := { maxStack := 4, maxLocals := 4, code := jdk_29_method_70_code, exceptionTable := #[], attributes := #[] }
def k2m2 : Method := { name := "min", desc := "(JJ)J", sig := { parameters := [.long, .long], returnType := some .long }, accessFlags := 9, code := some k2c2 }
/-- java/lang/Math -/
def k2 : Class := { plain "java/lang/Math" (some 0) with
  accessFlags := 49
  interfaces := #[]
  cf := some (fileOf pool2 1 #[.nestMembers #[98]] #[{ accessFlags := 2, nameIndex := 7, descriptorIndex := 8, attributes := #[] }, { accessFlags := 9, nameIndex := 198, descriptorIndex := 121, attributes := #[] }, { accessFlags := 9, nameIndex := 201, descriptorIndex := 121, attributes := #[] }] 49 4 #[] #[{ accessFlags := 25, nameIndex := 354, descriptorIndex := 339, attributes := #[] }, { accessFlags := 25, nameIndex := 358, descriptorIndex := 339, attributes := #[] }, { accessFlags := 25, nameIndex := 361, descriptorIndex := 339, attributes := #[] }, { accessFlags := 26, nameIndex := 364, descriptorIndex := 339, attributes := #[] }, { accessFlags := 26, nameIndex := 365, descriptorIndex := 339, attributes := #[] }, { accessFlags := 26, nameIndex := 172, descriptorIndex := 173, attributes := #[] }, { accessFlags := 26, nameIndex := 176, descriptorIndex := 173, attributes := #[] }, { accessFlags := 8, nameIndex := 344, descriptorIndex := 339, attributes := #[] }, { accessFlags := 8, nameIndex := 338, descriptorIndex := 339, attributes := #[] }, { accessFlags := 4120, nameIndex := 245, descriptorIndex := 246, attributes := #[] }])
  fields := #[{ name := "E", type := .double, accessFlags := 25, slot := 0, constantValue := 0 }, { name := "PI", type := .double, accessFlags := 25, slot := 1, constantValue := 0 }, { name := "TAU", type := .double, accessFlags := 25, slot := 2, constantValue := 0 }, { name := "DEGREES_TO_RADIANS", type := .double, accessFlags := 26, slot := 3, constantValue := 0 }, { name := "RADIANS_TO_DEGREES", type := .double, accessFlags := 26, slot := 4, constantValue := 0 }, { name := "negativeZeroFloatBits", type := .long, accessFlags := 26, slot := 5, constantValue := 0 }, { name := "negativeZeroDoubleBits", type := .long, accessFlags := 26, slot := 6, constantValue := 0 }, { name := "twoToTheDoubleScaleUp", type := .double, accessFlags := 8, slot := 7, constantValue := 0 }, { name := "twoToTheDoubleScaleDown", type := .double, accessFlags := 8, slot := 8, constantValue := 0 }, { name := "$assertionsDisabled", type := .boolean, accessFlags := 4120, slot := 9, constantValue := 0 }]
  methods := #[k2m0, k2m1, k2m2]
  instanceTypes := #[]
  staticTypes := #[.double, .double, .double, .double, .double, .long, .long, .double, .double, .boolean]
  resolved := Array.replicate 460 none
  statics := none }

def pool3 : Array CpInfo := pool [(1, .class_ 2), (0, u "java/lang/constant/Constable"), (0, .class_ 4), (0, u "java/lang/Object")] 6

/-- java/lang/constant/Constable -/
def k3 : Class := { plain "java/lang/constant/Constable" (some 0) with
  accessFlags := 1537
  interfaces := #[]
  cf := some (fileOf pool3 1 #[] #[] 1537 3 #[] #[])
  fields := #[]
  methods := #[]
  instanceTypes := #[]
  staticTypes := #[]
  resolved := Array.replicate 11 none
  statics := none }

def pool4 : Array CpInfo := pool [(1, .class_ 2), (0, u "java/lang/Comparable"), (0, .class_ 4), (0, u "java/lang/Object")] 7

/-- java/lang/Comparable -/
def k4 : Class := { plain "java/lang/Comparable" (some 0) with
  accessFlags := 1537
  interfaces := #[]
  cf := some (fileOf pool4 1 #[] #[] 1537 3 #[] #[])
  fields := #[]
  methods := #[]
  instanceTypes := #[]
  staticTypes := #[]
  resolved := Array.replicate 12 none
  statics := none }

def pool5 : Array CpInfo := pool [(1, .class_ 2), (0, u "java/io/Serializable"), (0, .class_ 4), (0, u "java/lang/Object")] 2

/-- java/io/Serializable -/
def k5 : Class := { plain "java/io/Serializable" (some 0) with
  accessFlags := 1537
  interfaces := #[]
  cf := some (fileOf pool5 1 #[] #[] 1537 3 #[] #[])
  fields := #[]
  methods := #[]
  instanceTypes := #[]
  staticTypes := #[]
  resolved := Array.replicate 7 none
  statics := none }

def pool6 : Array CpInfo := pool [(2, .class_ 4), (1, u "java/lang/Enum"), (0, u "name"), (0, u "Ljava/lang/String;"), (2, u "ordinal"), (0, u "I"), (1, .class_ 14), (1, u "java/lang/Object"), (4, u "hash"), (86, .class_ 108), (1, u "java/lang/Enum$EnumDesc"), (2, .class_ 112), (0, u "java/lang/constant/Constable"), (0, .class_ 114), (0, u "java/lang/Comparable"), (0, .class_ 116), (0, u "java/io/Serializable")] 87

/-- java/lang/Enum -/
def k6 : Class := { plain "java/lang/Enum" (some 0) with
  accessFlags := 1057
  interfaces := #[3, 4, 5]
  cf := some (fileOf pool6 2 #[.nestMembers #[106]] #[] 1057 12 #[111, 113, 115] #[{ accessFlags := 18, nameIndex := 5, descriptorIndex := 6, attributes := #[] }, { accessFlags := 18, nameIndex := 9, descriptorIndex := 10, attributes := #[] }, { accessFlags := 2, nameIndex := 19, descriptorIndex := 10, attributes := #[] }])
  fields := #[{ name := "name", type := (.object "java/lang/String"), accessFlags := 18, slot := 0, constantValue := 0 }, { name := "ordinal", type := .int, accessFlags := 18, slot := 1, constantValue := 0 }, { name := "hash", type := .int, accessFlags := 2, slot := 2, constantValue := 0 }]
  methods := #[]
  instanceTypes := #[(.object "java/lang/String"), .int, .int]
  staticTypes := #[]
  resolved := Array.replicate 204 none
  statics := none }

def pool7 : Array CpInfo := pool [(1, .class_ 2), (0, u "com/example/rhadamanthus/rhadamanthus/order/Direction"), (2, u "HIGH_FIRST"), (0, u "Lcom/example/rhadamanthus/rhadamanthus/order/Direction;"), (2, u "LOW_FIRST"), (2, u "$VALUES"), (0, u "[Lcom/example/rhadamanthus/rhadamanthus/order/Direction;"), (6, .class_ 22), (1, u "java/lang/Enum")] 24

/-- com/example/rhadamanthus/rhadamanthus/order/Direction -/
def k7 : Class := { plain "com/example/rhadamanthus/rhadamanthus/order/Direction" (some 6) with
  accessFlags := 16433
  interfaces := #[]
  cf := some (fileOf pool7 1 #[] #[] 16433 20 #[] #[{ accessFlags := 16409, nameIndex := 5, descriptorIndex := 6, attributes := #[] }, { accessFlags := 16409, nameIndex := 9, descriptorIndex := 6, attributes := #[] }, { accessFlags := 4122, nameIndex := 12, descriptorIndex := 13, attributes := #[] }])
  fields := #[{ name := "HIGH_FIRST", type := (.object "com/example/rhadamanthus/rhadamanthus/order/Direction"), accessFlags := 16409, slot := 0, constantValue := 0 }, { name := "LOW_FIRST", type := (.object "com/example/rhadamanthus/rhadamanthus/order/Direction"), accessFlags := 16409, slot := 1, constantValue := 0 }, { name := "$VALUES", type := (.array (.object "com/example/rhadamanthus/rhadamanthus/order/Direction")), accessFlags := 4122, slot := 2, constantValue := 0 }]
  methods := #[]
  instanceTypes := #[(.object "java/lang/String"), .int, .int]
  staticTypes := #[(.object "com/example/rhadamanthus/rhadamanthus/order/Direction"), (.object "com/example/rhadamanthus/rhadamanthus/order/Direction"), (.array (.object "com/example/rhadamanthus/rhadamanthus/order/Direction"))]
  resolved := Array.replicate 47 none
  statics := some 0 }

def pool8 : Array CpInfo := pool [(1, .methodref 2 3), (0, .class_ 4), (0, .nameAndType 5 6), (0, u "java/lang/Object"), (0, u "<init>"), (0, u "()V"), (0, .string 8), (0, u "name"), (0, .methodref 10 11), (0, .class_ 12), (0, .nameAndType 13 14), (0, u "java/util/Objects"), (0, u "requireNonNull"), (0, u "(Ljava/lang/Object;Ljava/lang/String;)Ljava/lang/Object;"), (0, .string 16), (0, u "direction"), (0, .methodref 18 19), (0, .class_ 20), (0, .nameAndType 21 22), (0, u "java/lang/String"), (0, u "isEmpty"), (0, u "()Z"), (19, .fieldref 43 44), (0, .class_ 45), (0, .nameAndType 8 46), (0, u "com/example/rhadamanthus/rhadamanthus/order/Field"), (0, u "Ljava/lang/String;"), (0, .fieldref 43 48), (0, .nameAndType 16 49), (0, u "Lcom/example/rhadamanthus/rhadamanthus/order/Direction;"), (0, .fieldref 43 51), (0, .nameAndType 52 53), (0, u "min"), (0, u "J"), (0, .fieldref 43 55), (0, .nameAndType 56 53), (0, u "max"), (16, u "(Ljava/lang/String;Lcom/example/rhadamanthus/rhadamanthus/order/Direction;JJ)V"), (14, u "contains"), (0, u "(J)Z")] 2

def k8c0 : Code := { maxStack := 8, maxLocals := 7, code := prog_9_method_1_code, exceptionTable := #[], attributes := #[] }
def k8m0 : Method := { name := "<init>", desc := "(Ljava/lang/String;Lcom/example/rhadamanthus/rhadamanthus/order/Direction;JJ)V", sig := { parameters := [(.object "java/lang/String"), (.object "com/example/rhadamanthus/rhadamanthus/order/Direction"), .long, .long], returnType := none }, accessFlags := 1, code := some k8c0 }
def k8c1 : Code := { maxStack := 4, maxLocals := 3, code := prog_9_method_7_code, exceptionTable := #[], attributes := #[] }
def k8m1 : Method := { name := "contains", desc := "(J)Z", sig := { parameters := [.long], returnType := some .boolean }, accessFlags := 1, code := some k8c1 }
/-- com/example/rhadamanthus/rhadamanthus/order/Field -/
def k8 : Class := { plain "com/example/rhadamanthus/rhadamanthus/order/Field" (some 0) with
  accessFlags := 33
  interfaces := #[]
  cf := some (fileOf pool8 43 #[] #[{ accessFlags := 1, nameIndex := 5, descriptorIndex := 73, attributes := #[] }, { accessFlags := 1, nameIndex := 88, descriptorIndex := 89, attributes := #[] }] 33 2 #[] #[{ accessFlags := 18, nameIndex := 8, descriptorIndex := 46, attributes := #[] }, { accessFlags := 18, nameIndex := 16, descriptorIndex := 49, attributes := #[] }, { accessFlags := 18, nameIndex := 52, descriptorIndex := 53, attributes := #[] }, { accessFlags := 18, nameIndex := 56, descriptorIndex := 53, attributes := #[] }])
  fields := #[{ name := "name", type := (.object "java/lang/String"), accessFlags := 18, slot := 0, constantValue := 0 }, { name := "direction", type := (.object "com/example/rhadamanthus/rhadamanthus/order/Direction"), accessFlags := 18, slot := 1, constantValue := 0 }, { name := "min", type := .long, accessFlags := 18, slot := 2, constantValue := 0 }, { name := "max", type := .long, accessFlags := 18, slot := 3, constantValue := 0 }]
  methods := #[k8m0, k8m1]
  instanceTypes := #[(.object "java/lang/String"), (.object "com/example/rhadamanthus/rhadamanthus/order/Direction"), .long, .long]
  staticTypes := #[]
  resolved := Array.replicate 92 none
  statics := none }

def pool9 : Array CpInfo := pool [(2, .class_ 4), (1, u "java/lang/CharSequence"), (42, .class_ 48), (0, u "java/lang/CharSequence$1CodePointIterator"), (10, .class_ 60), (0, u "java/lang/CharSequence$1CharIterator"), (5, .class_ 67), (0, u "java/lang/Object")] 63

/-- java/lang/CharSequence -/
def k9 : Class := { plain "java/lang/CharSequence" (some 0) with
  accessFlags := 1537
  interfaces := #[]
  cf := some (fileOf pool9 2 #[.nestMembers #[47, 59]] #[] 1537 66 #[] #[])
  fields := #[]
  methods := #[]
  instanceTypes := #[]
  staticTypes := #[]
  resolved := Array.replicate 131 none
  statics := none }

def pool10 : Array CpInfo := pool [(1, .class_ 2), (0, u "java/lang/constant/ConstantDesc"), (0, .class_ 4), (0, u "java/lang/Object")] 32

/-- java/lang/constant/ConstantDesc -/
def k10 : Class := { plain "java/lang/constant/ConstantDesc" (some 0) with
  accessFlags := 1537
  interfaces := #[]
  cf := some (fileOf pool10 1 #[] #[] 1537 3 #[] #[])
  fields := #[]
  methods := #[]
  instanceTypes := #[]
  staticTypes := #[]
  resolved := Array.replicate 37 none
  statics := none }

def pool11 : Array CpInfo := pool [(2, .class_ 4), (1, u "java/lang/Object"), (0, u "<init>"), (0, u "()V"), (2, .fieldref 10 11), (0, .class_ 12), (0, .nameAndType 13 14), (0, u "java/lang/String"), (0, u "value"), (0, u "[B"), (2, u "coder"), (0, u "B"), (2, u "hash"), (0, u "I"), (2, u "hashIsZero"), (0, u "Z"), (13, u "COMPACT_STRINGS"), (101, u "()Z"), (432, .class_ 576), (0, u "java/lang/CharSequence"), (22, u "CASE_INSENSITIVE_ORDER"), (0, u "Ljava/util/Comparator;"), (91, u "isEmpty"), (408, u "serialPersistentFields"), (0, u "[Ljava/io/ObjectStreamField;"), (0, .class_ 1104), (0, u "java/lang/String$CaseInsensitiveComparator"), (1, .class_ 1107), (0, u "java/io/Serializable"), (0, .class_ 1109), (0, u "java/lang/Comparable"), (0, .class_ 1111), (0, u "java/lang/constant/Constable"), (0, .class_ 1113), (0, u "java/lang/constant/ConstantDesc"), (2, u "serialVersionUID"), (0, u "J"), (3, u "REPL"), (0, u "C"), (2, u "LATIN1"), (1, u "UTF16")] 323

def k11m0 : Method := { name := "<init>", desc := "()V", sig := { parameters := [], returnType := none }, accessFlags := 1, code := none }
def k11c1 : Code := { maxStack := 1, maxLocals := 1, code := jdk_42_method_55_code, exceptionTable := #[], attributes := #[] }
def k11m1 : Method := { name := "isEmpty", desc := "()Z", sig := { parameters := [], returnType := some .boolean }, accessFlags := 1, code := some k11c1 }
/-- java/lang/String -/
def k11 : Class := { plain "java/lang/String" (some 0) with
  accessFlags := 49
  interfaces := #[5, 4, 9, 3, 10]
  cf := some (fileOf pool11 10 #[.nestMembers #[1103]] #[{ accessFlags := 1, nameIndex := 5, descriptorIndex := 6, attributes := #[] }, { accessFlags := 1, nameIndex := 692, descriptorIndex := 142, attributes := #[] }] 49 2 #[1106, 1108, 575, 1110, 1112] #[{ accessFlags := 18, nameIndex := 13, descriptorIndex := 14, attributes := #[] }, { accessFlags := 18, nameIndex := 17, descriptorIndex := 18, attributes := #[] }, { accessFlags := 2, nameIndex := 21, descriptorIndex := 22, attributes := #[] }, { accessFlags := 2, nameIndex := 25, descriptorIndex := 26, attributes := #[] }, { accessFlags := 26, nameIndex := 1116, descriptorIndex := 1117, attributes := #[] }, { accessFlags := 24, nameIndex := 40, descriptorIndex := 26, attributes := #[] }, { accessFlags := 26, nameIndex := 1101, descriptorIndex := 1102, attributes := #[] }, { accessFlags := 26, nameIndex := 1121, descriptorIndex := 1122, attributes := #[] }, { accessFlags := 25, nameIndex := 599, descriptorIndex := 600, attributes := #[] }, { accessFlags := 24, nameIndex := 1125, descriptorIndex := 18, attributes := #[] }, { accessFlags := 24, nameIndex := 1127, descriptorIndex := 18, attributes := #[] }])
  fields := #[{ name := "value", type := (.array .byte), accessFlags := 18, slot := 0, constantValue := 0 }, { name := "coder", type := .byte, accessFlags := 18, slot := 1, constantValue := 0 }, { name := "hash", type := .int, accessFlags := 2, slot := 2, constantValue := 0 }, { name := "hashIsZero", type := .boolean, accessFlags := 2, slot := 3, constantValue := 0 }, { name := "serialVersionUID", type := .long, accessFlags := 26, slot := 0, constantValue := 0 }, { name := "COMPACT_STRINGS", type := .boolean, accessFlags := 24, slot := 1, constantValue := 0 }, { name := "serialPersistentFields", type := (.array (.object "java/io/ObjectStreamField")), accessFlags := 26, slot := 2, constantValue := 0 }, { name := "REPL", type := .char, accessFlags := 26, slot := 3, constantValue := 0 }, { name := "CASE_INSENSITIVE_ORDER", type := (.object "java/util/Comparator"), accessFlags := 25, slot := 4, constantValue := 0 }, { name := "LATIN1", type := .byte, accessFlags := 24, slot := 5, constantValue := 0 }, { name := "UTF16", type := .byte, accessFlags := 24, slot := 6, constantValue := 0 }]
  methods := #[k11m0, k11m1]
  instanceTypes := #[(.array .byte), .byte, .int, .boolean]
  staticTypes := #[.long, .boolean, (.array (.object "java/io/ObjectStreamField")), .char, (.object "java/util/Comparator"), .byte, .byte]
  resolved := Array.replicate 1451 none
  statics := some 1 }

def pool12 : Array CpInfo := pool [(2, .class_ 4), (1, u "java/lang/Object"), (0, u "<init>"), (0, u "()V"), (35, .class_ 44), (1, u "java/util/Objects"), (0, u "requireNonNull"), (48, u "(Ljava/lang/Object;Ljava/lang/String;)Ljava/lang/Object;")] 89

def k12m0 : Method := { name := "<init>", desc := "()V", sig := { parameters := [], returnType := none }, accessFlags := 2, code := none }
def k12c1 : Code := { maxStack := 3, maxLocals := 2, code := jdk_31_method_11_code, exceptionTable := #[], attributes := #[] }
def k12m1 : Method := { name := "requireNonNull", desc := "(Ljava/lang/Object;Ljava/lang/String;)Ljava/lang/Object;", sig := { parameters := [(.object "java/lang/Object"), (.object "java/lang/String")], returnType := some (.object "java/lang/Object") }, accessFlags := 9, code := some k12c1 }
/-- java/util/Objects -/
def k12 : Class := { plain "java/util/Objects" (some 0) with
  accessFlags := 49
  interfaces := #[]
  cf := some (fileOf pool12 42 #[] #[{ accessFlags := 2, nameIndex := 5, descriptorIndex := 6, attributes := #[] }, { accessFlags := 9, nameIndex := 45, descriptorIndex := 94, attributes := #[] }] 49 2 #[] #[])
  fields := #[]
  methods := #[k12m0, k12m1]
  instanceTypes := #[]
  staticTypes := #[]
  resolved := Array.replicate 184 none
  statics := none }

def pool13 : Array CpInfo := pool [(4, .class_ 6), (1, u "java/lang/Object"), (0, u "<init>"), (0, u "()V"), (5, .class_ 16), (1, u "java/lang/StringLatin1"), (104, u "$assertionsDisabled"), (0, u "Z"), (98, .class_ 223), (1, u "java/lang/StringLatin1$LinesSpliterator"), (166, .class_ 391), (0, u "java/lang/StringLatin1$CharsSpliterator")] 3

def k13m0 : Method := { name := "<init>", desc := "()V", sig := { parameters := [], returnType := none }, accessFlags := 0, code := none }
/-- java/lang/StringLatin1 -/
def k13 : Class := { plain "java/lang/StringLatin1" (some 0) with
  accessFlags := 48
  interfaces := #[]
  cf := some (fileOf pool13 14 #[.nestMembers #[390, 221]] #[{ accessFlags := 0, nameIndex := 7, descriptorIndex := 8, attributes := #[] }] 48 4 #[] #[{ accessFlags := 4120, nameIndex := 121, descriptorIndex := 122, attributes := #[] }])
  fields := #[{ name := "$assertionsDisabled", type := .boolean, accessFlags := 4120, slot := 0, constantValue := 0 }]
  methods := #[k13m0]
  instanceTypes := #[]
  staticTypes := #[.boolean]
  resolved := Array.replicate 395 none
  statics := none }

def pool14 : Array CpInfo := pool [(2, .class_ 4), (1, u "java/lang/Object"), (0, u "<init>"), (0, u "()V"), (17, .class_ 26), (1, u "jdk/internal/util/Preconditions"), (28, .class_ 56), (0, u "jdk/internal/util/Preconditions$4"), (57, .class_ 115), (0, u "jdk/internal/util/Preconditions$1"), (7, u "SIOOBE_FORMATTER"), (0, u "Ljava/util/function/BiFunction;"), (0, .class_ 126), (0, u "jdk/internal/util/Preconditions$2"), (3, u "AIOOBE_FORMATTER"), (0, .class_ 132), (0, u "jdk/internal/util/Preconditions$3"), (3, u "IOOBE_FORMATTER")] 57

def k14m0 : Method := { name := "<init>", desc := "()V", sig := { parameters := [], returnType := none }, accessFlags := 1, code := none }
/-- jdk/internal/util/Preconditions -/
def k14 : Class := { plain "jdk/internal/util/Preconditions" (some 0) with
  accessFlags := 33
  interfaces := #[]
  cf := some (fileOf pool14 24 #[.nestMembers #[55, 131, 125, 114]] #[{ accessFlags := 1, nameIndex := 5, descriptorIndex := 6, attributes := #[] }] 33 2 #[] #[{ accessFlags := 25, nameIndex := 123, descriptorIndex := 124, attributes := #[] }, { accessFlags := 25, nameIndex := 130, descriptorIndex := 124, attributes := #[] }, { accessFlags := 25, nameIndex := 136, descriptorIndex := 124, attributes := #[] }])
  fields := #[{ name := "SIOOBE_FORMATTER", type := (.object "java/util/function/BiFunction"), accessFlags := 25, slot := 0, constantValue := 0 }, { name := "AIOOBE_FORMATTER", type := (.object "java/util/function/BiFunction"), accessFlags := 25, slot := 1, constantValue := 0 }, { name := "IOOBE_FORMATTER", type := (.object "java/util/function/BiFunction"), accessFlags := 25, slot := 2, constantValue := 0 }]
  methods := #[k14m0]
  instanceTypes := #[]
  staticTypes := #[(.object "java/util/function/BiFunction"), (.object "java/util/function/BiFunction"), (.object "java/util/function/BiFunction")]
  resolved := Array.replicate 194 none
  statics := some 2 }

def pool15 : Array CpInfo := pool [(9, u "<init>"), (6, .class_ 18), (1, u "java/lang/Object"), (0, u "()V"), (1, .class_ 23), (1, u "jdk/internal/util/ArraysSupport"), (0, u "LOG2_ARRAY_LONG_INDEX_SCALE"), (0, u "I"), (2, u "U"), (0, u "Ljdk/internal/misc/Unsafe;"), (8, u "BIG_ENDIAN"), (0, u "Z"), (8, u "LOG2_BYTE_BIT_SIZE"), (4, u "LOG2_ARRAY_INT_INDEX_SCALE"), (54, u "JLA"), (0, u "Ljdk/internal/access/JavaLangAccess;"), (11, u "LOG2_ARRAY_BOOLEAN_INDEX_SCALE"), (9, u "LOG2_ARRAY_BYTE_INDEX_SCALE"), (5, u "LOG2_ARRAY_CHAR_INDEX_SCALE"), (5, u "LOG2_ARRAY_SHORT_INDEX_SCALE"), (18, u "LOG2_ARRAY_FLOAT_INDEX_SCALE"), (24, u "LOG2_ARRAY_DOUBLE_INDEX_SCALE"), (89, u "T_BOOLEAN"), (2, u "T_CHAR"), (1, u "T_FLOAT"), (1, u "T_DOUBLE"), (1, u "T_BYTE"), (1, u "T_SHORT"), (1, u "T_INT"), (1, u "T_LONG"), (1, u "SOFT_MAX_ARRAY_LENGTH")] 83

def k15m0 : Method := { name := "<init>", desc := "()V", sig := { parameters := [], returnType := none }, accessFlags := 2, code := none }
/-- jdk/internal/util/ArraysSupport -/
def k15 : Class := { plain "jdk/internal/util/ArraysSupport" (some 0) with
  accessFlags := 33
  interfaces := #[]
  cf := some (fileOf pool15 21 #[] #[{ accessFlags := 2, nameIndex := 9, descriptorIndex := 19, attributes := #[] }] 33 16 #[] #[{ accessFlags := 24, nameIndex := 28, descriptorIndex := 29, attributes := #[] }, { accessFlags := 26, nameIndex := 38, descriptorIndex := 39, attributes := #[] }, { accessFlags := 25, nameIndex := 121, descriptorIndex := 25, attributes := #[] }, { accessFlags := 25, nameIndex := 131, descriptorIndex := 25, attributes := #[] }, { accessFlags := 25, nameIndex := 137, descriptorIndex := 25, attributes := #[] }, { accessFlags := 25, nameIndex := 143, descriptorIndex := 25, attributes := #[] }, { accessFlags := 25, nameIndex := 53, descriptorIndex := 25, attributes := #[] }, { accessFlags := 25, nameIndex := 24, descriptorIndex := 25, attributes := #[] }, { accessFlags := 25, nameIndex := 162, descriptorIndex := 25, attributes := #[] }, { accessFlags := 25, nameIndex := 187, descriptorIndex := 25, attributes := #[] }, { accessFlags := 26, nameIndex := 48, descriptorIndex := 25, attributes := #[] }, { accessFlags := 25, nameIndex := 277, descriptorIndex := 25, attributes := #[] }, { accessFlags := 25, nameIndex := 280, descriptorIndex := 25, attributes := #[] }, { accessFlags := 25, nameIndex := 282, descriptorIndex := 25, attributes := #[] }, { accessFlags := 25, nameIndex := 284, descriptorIndex := 25, attributes := #[] }, { accessFlags := 25, nameIndex := 286, descriptorIndex := 25, attributes := #[] }, { accessFlags := 25, nameIndex := 288, descriptorIndex := 25, attributes := #[] }, { accessFlags := 25, nameIndex := 290, descriptorIndex := 25, attributes := #[] }, { accessFlags := 25, nameIndex := 292, descriptorIndex := 25, attributes := #[] }, { accessFlags := 26, nameIndex := 108, descriptorIndex := 109, attributes := #[] }, { accessFlags := 25, nameIndex := 294, descriptorIndex := 25, attributes := #[] }])
  fields := #[{ name := "U", type := (.object "jdk/internal/misc/Unsafe"), accessFlags := 24, slot := 0, constantValue := 0 }, { name := "BIG_ENDIAN", type := .boolean, accessFlags := 26, slot := 1, constantValue := 0 }, { name := "LOG2_ARRAY_BOOLEAN_INDEX_SCALE", type := .int, accessFlags := 25, slot := 2, constantValue := 0 }, { name := "LOG2_ARRAY_BYTE_INDEX_SCALE", type := .int, accessFlags := 25, slot := 3, constantValue := 0 }, { name := "LOG2_ARRAY_CHAR_INDEX_SCALE", type := .int, accessFlags := 25, slot := 4, constantValue := 0 }, { name := "LOG2_ARRAY_SHORT_INDEX_SCALE", type := .int, accessFlags := 25, slot := 5, constantValue := 0 }, { name := "LOG2_ARRAY_INT_INDEX_SCALE", type := .int, accessFlags := 25, slot := 6, constantValue := 0 }, { name := "LOG2_ARRAY_LONG_INDEX_SCALE", type := .int, accessFlags := 25, slot := 7, constantValue := 0 }, { name := "LOG2_ARRAY_FLOAT_INDEX_SCALE", type := .int, accessFlags := 25, slot := 8, constantValue := 0 }, { name := "LOG2_ARRAY_DOUBLE_INDEX_SCALE", type := .int, accessFlags := 25, slot := 9, constantValue := 0 }, { name := "LOG2_BYTE_BIT_SIZE", type := .int, accessFlags := 26, slot := 10, constantValue := 0 }, { name := "T_BOOLEAN", type := .int, accessFlags := 25, slot := 11, constantValue := 0 }, { name := "T_CHAR", type := .int, accessFlags := 25, slot := 12, constantValue := 0 }, { name := "T_FLOAT", type := .int, accessFlags := 25, slot := 13, constantValue := 0 }, { name := "T_DOUBLE", type := .int, accessFlags := 25, slot := 14, constantValue := 0 }, { name := "T_BYTE", type := .int, accessFlags := 25, slot := 15, constantValue := 0 }, { name := "T_SHORT", type := .int, accessFlags := 25, slot := 16, constantValue := 0 }, { name := "T_INT", type := .int, accessFlags := 25, slot := 17, constantValue := 0 }, { name := "T_LONG", type := .int, accessFlags := 25, slot := 18, constantValue := 0 }, { name := "JLA", type := (.object "jdk/internal/access/JavaLangAccess"), accessFlags := 26, slot := 19, constantValue := 0 }, { name := "SOFT_MAX_ARRAY_LENGTH", type := .int, accessFlags := 25, slot := 20, constantValue := 0 }]
  methods := #[k15m0]
  instanceTypes := #[]
  staticTypes := #[(.object "jdk/internal/misc/Unsafe"), .boolean, .int, .int, .int, .int, .int, .int, .int, .int, .int, .int, .int, .int, .int, .int, .int, .int, .int, (.object "jdk/internal/access/JavaLangAccess"), .int]
  resolved := Array.replicate 378 none
  statics := none }

def pool16 : Array CpInfo := pool [(1, u "java/lang/Cloneable"), (0, .class_ 1), (0, u "java/lang/Object"), (0, .class_ 3)] 3

/-- java/lang/Cloneable -/
def k16 : Class := { plain "java/lang/Cloneable" (some 0) with
  accessFlags := 1537
  interfaces := #[]
  cf := some (fileOf pool16 2 #[] #[] 1537 4 #[] #[])
  fields := #[]
  methods := #[]
  instanceTypes := #[]
  staticTypes := #[]
  resolved := Array.replicate 8 none
  statics := none }

/-- the primitive byte -/
def k17 : Class := { plain "byte" none with kind := .primitive 'B', accessFlags := 0x411 }
/-- [B -/
def k18 : Class := { plain "[B" (some 0) with kind := .array 17 .byte, interfaces := #[16, 5], accessFlags := 1041 }

/-- the primitive int -/
def k19 : Class := { plain "int" none with kind := .primitive 'I', accessFlags := 0x411 }
/-- [I -/
def k20 : Class := { plain "[I" (some 0) with kind := .array 19 .int, interfaces := #[16, 5], accessFlags := 1041 }

def heap : Heap := #[{ cls := 7, slots := #[.ref 4, .ref 3, .null], vm := .statics 7 },
  { cls := 11, slots := #[.long 0, .int 1, .null, .int 0, .null, .int 0, .int 0], vm := .statics 11 },
  { cls := 14, slots := #[.null, .null, .null], vm := .statics 14 },
  { cls := 7, slots := #[.null, .int 0, .int 0], vm := .none },
  { cls := 7, slots := #[.null, .int 1, .int 0], vm := .none }]
def classes : Array Class := #[k0, k1, k2, k3, k4, k5, k6, k7, k8, k9, k10, k11, k12, k13, k14, k15, k16, k17, k18, k19, k20]
def interned : List (Array UInt16 × Addr) := []
def slotsUsed : Nat := 19
def theMethod : MethodId := ⟨1, 1⟩
def args0 : Array Value := #[.long 5, .long 5, .long 5, .int 5]
def aboutOver (below : List Frame) : State where
  vm := { classes := classes, interned := interned.toArray }
  heap := heap
  slotsUsed := slotsUsed
  threads := #[{ frames := .invoking theMethod args0 :: below }]
def below0 : List Frame := [.native { method := ⟨0, 0⟩, args := #[] }]
def about1 : State := aboutOver below0
def p0 : Program := .bare "" "" ""
def e0 : Env := launch0.env 0 0 0
theorem w_frames : about1.frames = Frame.invoking theMethod args0 :: below0 := rfl
set_option maxRecDepth 65536 in
theorem w_args : argsFit about1.vm theMethod args0 = true := by decide +kernel
set_option maxRecDepth 65536 in
theorem w_heap : heapFits about1 = true := by decide +kernel
set_option maxRecDepth 65536 in
theorem w_runnable : about1.curStatus? = some .runnable := by decide +kernel
set_option maxRecDepth 65536 in
theorem w_alone : about1.alone = true := by decide +kernel
set_option maxRecDepth 65536 in
theorem w_named : about1.methodNamed? x = some theMethod := by decide +kernel
set_option maxRecDepth 65536 in
theorem w_hears : about1.hears theMethod below0 = true := by decide +kernel
set_option maxRecDepth 65536 in
theorem w_ripe : about1.ripe theMethod args0 below0 = true := by decide +kernel
theorem w_running : about1.status = .running := rfl
set_option maxRecDepth 65536 in
theorem w_room : about1.hasRoom e0.platform room_1 = true :=
  launch0.hasRoom_least _ room_1 (by decide +kernel) (by decide +kernel) (by decide +kernel) (by decide +kernel) (by decide +kernel) (by decide +kernel)
theorem allAtoms_all (ts : List Jvm.Cond) (a : Array Jvm.Value) (st : Jvm.State) : (allAtoms ts).before a st = ts.all (fun c => c.before a st) := by
  induction ts with
  | nil => rfl
  | cons c t ih =>
    show (Jvm.Cond.and c (allAtoms t)).before a st = _
    rw [Jvm.Cond.before_and, ih, List.all_cons]
def words1 : List Jvm.Cond := Jvm.Cond.code x code maxLocals ret :: tables_1
/-- a 'code' word, met by the world's own term for the bytes: nothing is compared byte by byte -/
theorem code_word {y : MethodName} {bytes : ByteArray} {mx : Nat} {rt : Option FieldType} {a : Array Value} {s : State} {m : MethodId} {meth : Method} {c : Code} (h1 : s.methodNamed? y = some m) (h2 : s.vm.method? m = some meth) (h3 : meth.code = some c) (h4 : c.code = bytes)
    (h5 : (c.maxLocals == mx && c.exceptionTable.isEmpty && decide (c.maxStack ≤ mostOperands) && decide (meth.sig.returnType = rt) && !meth.locks && decide (parseMethodDescriptor y.desc = some meth.sig)) = true) : (Jvm.Cond.code y bytes mx rt).before a s = true := by
  simp only [Bool.and_eq_true, beq_iff_eq, Bool.not_eq_true', decide_eq_true_eq] at h5
  obtain ⟨⟨⟨⟨⟨g1, g2⟩, g3⟩, g4⟩, g5⟩, g6⟩ := h5
  simp [Cond.before, Cond.holds, Cond.value, h1, h2, h3, h4, g1, g2, g3, g4, g5, g6]
def isCode : Jvm.Cond → Bool
  | .code _ _ _ _ => true
  | _ => false
theorem all_split {L : List Jvm.Cond} {P : Jvm.Cond → Bool} (h1 : L.all (fun c => isCode c || P c) = true) (h2 : ∀ c ∈ L.filter isCode, P c = true) : L.all P = true := by
  refine List.all_eq_true.mpr fun c hc => ?_
  have h := List.all_eq_true.mp h1 c hc
  rcases Bool.eq_false_or_eq_true (isCode c) with hi | hi
  · exact h2 c (List.mem_filter.mpr ⟨hc, hi⟩)
  · simpa [hi] using h
set_option maxRecDepth 65536 in
theorem w_c0 : (Jvm.Cond.code x code maxLocals ret).before args0 about1 = true := code_word (m := ⟨1, 1⟩) (meth := k1m1) (c := k1c1) (by decide +kernel) rfl rfl rfl (by decide +kernel)
set_option maxRecDepth 65536 in
theorem w_c1 : (Jvm.Cond.code ({ cls := "java/lang/Math", name := "min", desc := "(JJ)J" } : Jvm.MethodName) jdk_29_method_70_code (4 : Nat) (Option.some Jvm.ClassFile.FieldType.long)).before args0 about1 = true := code_word (m := ⟨2, 2⟩) (meth := k2m2) (c := k2c2) (by decide +kernel) rfl rfl rfl (by decide +kernel)
set_option maxRecDepth 65536 in
theorem w_c2 : (Jvm.Cond.code ({ cls := "java/lang/Math", name := "max", desc := "(JJ)J" } : Jvm.MethodName) jdk_29_method_66_code (4 : Nat) (Option.some Jvm.ClassFile.FieldType.long)).before args0 about1 = true := code_word (m := ⟨2, 1⟩) (meth := k2m1) (c := k2c1) (by decide +kernel) rfl rfl rfl (by decide +kernel)
set_option maxRecDepth 65536 in
theorem w_c3 : (Jvm.Cond.code ({ cls := "com/example/rhadamanthus/rhadamanthus/order/Field", name := "<init>", desc := "(Ljava/lang/String;Lcom/example/rhadamanthus/rhadamanthus/order/Direction;JJ)V" } : Jvm.MethodName) prog_9_method_1_code (7 : Nat) (Option.none : Option Jvm.ClassFile.FieldType)).before args0 about1 = true := code_word (m := ⟨8, 0⟩) (meth := k8m0) (c := k8c0) (by decide +kernel) rfl rfl rfl (by decide +kernel)
set_option maxRecDepth 65536 in
theorem w_c4 : (Jvm.Cond.code ({ cls := "java/lang/Object", name := "<init>", desc := "()V" } : Jvm.MethodName) object_method_1_code (1 : Nat) (Option.none : Option Jvm.ClassFile.FieldType)).before args0 about1 = true := code_word (m := ⟨0, 0⟩) (meth := k0m0) (c := k0c0) (by decide +kernel) rfl rfl rfl (by decide +kernel)
set_option maxRecDepth 65536 in
theorem w_c5 : (Jvm.Cond.code ({ cls := "java/util/Objects", name := "requireNonNull", desc := "(Ljava/lang/Object;Ljava/lang/String;)Ljava/lang/Object;" } : Jvm.MethodName) jdk_31_method_11_code (2 : Nat) (Option.some (Jvm.ClassFile.FieldType.object "java/lang/Object"))).before args0 about1 = true := code_word (m := ⟨12, 1⟩) (meth := k12m1) (c := k12c1) (by decide +kernel) rfl rfl rfl (by decide +kernel)
set_option maxRecDepth 65536 in
theorem w_c6 : (Jvm.Cond.code ({ cls := "java/lang/String", name := "isEmpty", desc := "()Z" } : Jvm.MethodName) jdk_42_method_55_code (1 : Nat) (Option.some Jvm.ClassFile.FieldType.boolean)).before args0 about1 = true := code_word (m := ⟨11, 1⟩) (meth := k11m1) (c := k11c1) (by decide +kernel) rfl rfl rfl (by decide +kernel)
set_option maxRecDepth 65536 in
theorem w_c7 : (Jvm.Cond.code ({ cls := "com/example/rhadamanthus/rhadamanthus/order/Field", name := "contains", desc := "(J)Z" } : Jvm.MethodName) prog_9_method_7_code (3 : Nat) (Option.some Jvm.ClassFile.FieldType.boolean)).before args0 about1 = true := code_word (m := ⟨8, 1⟩) (meth := k8m1) (c := k8c1) (by decide +kernel) rfl rfl rfl (by decide +kernel)
def codes1 : List Jvm.Cond := [Jvm.Cond.code x code maxLocals ret, Jvm.Cond.code ({ cls := "java/lang/Math", name := "min", desc := "(JJ)J" } : Jvm.MethodName) jdk_29_method_70_code (4 : Nat) (Option.some Jvm.ClassFile.FieldType.long), Jvm.Cond.code ({ cls := "java/lang/Math", name := "max", desc := "(JJ)J" } : Jvm.MethodName) jdk_29_method_66_code (4 : Nat) (Option.some Jvm.ClassFile.FieldType.long), Jvm.Cond.code ({ cls := "com/example/rhadamanthus/rhadamanthus/order/Field", name := "<init>", desc := "(Ljava/lang/String;Lcom/example/rhadamanthus/rhadamanthus/order/Direction;JJ)V" } : Jvm.MethodName) prog_9_method_1_code (7 : Nat) (Option.none : Option Jvm.ClassFile.FieldType), Jvm.Cond.code ({ cls := "java/lang/Object", name := "<init>", desc := "()V" } : Jvm.MethodName) object_method_1_code (1 : Nat) (Option.none : Option Jvm.ClassFile.FieldType), Jvm.Cond.code ({ cls := "java/util/Objects", name := "requireNonNull", desc := "(Ljava/lang/Object;Ljava/lang/String;)Ljava/lang/Object;" } : Jvm.MethodName) jdk_31_method_11_code (2 : Nat) (Option.some (Jvm.ClassFile.FieldType.object "java/lang/Object")), Jvm.Cond.code ({ cls := "java/lang/String", name := "isEmpty", desc := "()Z" } : Jvm.MethodName) jdk_42_method_55_code (1 : Nat) (Option.some Jvm.ClassFile.FieldType.boolean), Jvm.Cond.code ({ cls := "com/example/rhadamanthus/rhadamanthus/order/Field", name := "contains", desc := "(J)Z" } : Jvm.MethodName) prog_9_method_7_code (3 : Nat) (Option.some Jvm.ClassFile.FieldType.boolean)]
set_option maxRecDepth 65536 in
theorem codes_eq : words1.filter isCode = codes1 := rfl
theorem w_codes : ∀ c ∈ words1.filter isCode, c.before args0 about1 = true := by
  rw [codes_eq]
  intro c hc
  simp only [codes1, List.mem_cons, List.not_mem_nil, or_false] at hc
  rcases hc with rfl | rfl | rfl | rfl | rfl | rfl | rfl | rfl
  · exact w_c0
  · exact w_c1
  · exact w_c2
  · exact w_c3
  · exact w_c4
  · exact w_c5
  · exact w_c6
  · exact w_c7
set_option maxRecDepth 65536 in
theorem w_t1 : (words1.take 24).all (fun c => isCode c || c.before args0 about1) = true := by decide +kernel
set_option maxRecDepth 65536 in
theorem w_t2 : ((words1.drop 24).take 24).all (fun c => isCode c || c.before args0 about1) = true := by decide +kernel
set_option maxRecDepth 65536 in
theorem w_t3 : ((words1.drop 24).drop 24).all (fun c => isCode c || c.before args0 about1) = true := by decide +kernel
theorem w_tables : (allAtoms (Jvm.Cond.code x code maxLocals ret :: tables_1)).before args0 about1 = true := by
  rw [allAtoms_all]
  show words1.all (fun c => c.before args0 about1) = true
  refine all_split ?_ w_codes
  rw [← List.take_append_drop 24 words1, List.all_append, w_t1, ← List.take_append_drop 24 (words1.drop 24), List.all_append, w_t2, w_t3]
  rfl
set_option maxRecDepth 65536 in
theorem w_rest : rest_1_c.before args0 about1 = true := by decide +kernel
set_option maxRecDepth 65536 in
theorem w_case : (Jvm.Cond.and given_1 narrow_1).before args0 about1 = true := by decide +kernel
set_option maxRecDepth 65536 in
theorem w_consts : constsHeld consts_1 about1 := Jvm.Lit.constsHeldB_iff.mp (by decide +kernel)
theorem w_applies : (headSpec (Jvm.Cond.code x code maxLocals ret :: tables_1) room_1).applies x e0.platform about1 = true :=
  (Spec.applies_iff w_frames).mpr ⟨w_running, w_runnable, w_alone, w_named, w_hears, w_ripe, w_room, w_tables⟩
theorem atStart : AtStart classFile x code maxLocals ret World_1 tables_1 room_1 Calls_1 rest_1 Pre_1 launch0 p0 e0 about1 theMethod args0 below0 :=
  ⟨lists_1, trivial, launch0.admits_env _ _ _, launch0.least_env, fairChoices_fair.cas, fairChoices_fair.clock, w_frames, w_args, w_heap, w_applies, ⟨w_consts, trivial⟩, w_rest, w_case⟩
end start1
theorem witness_1 : WitnessClaimed_1 := ⟨start1.p0, start1.e0, start1.about1, start1.theMethod, start1.args0, start1.below0, start1.atStart⟩
end Jvm.Pilot.@@N@@
